import PyProof.Rows.All
import Wide.All
import OpenK.AllK
import Wide.FinOn
import PySem.Challenge.RW_ta0008_01
open PySem PySem.W PyProof.Rows
set_option Elab.async false
set_option maxRecDepth 100000
set_option maxHeartbeats 8000000
namespace Mine
open_top hd for PySem.Challenge.rw_ta0008_01
theorem filled : (PySem.Challenge.rw_ta0008_01.row.prog = PySem.Challenge.rw_ta0008_01.row.prog) ∧ (∀ w : World, hd.heap_39 w.params = hd.heap_39 w.params) := by k_fill; exact ⟨rfl, fun _ => rfl⟩

/-! part P1 -/
section
def splA (y : List Nat) : Nat → List Nat → List Nat → List (List Nat)
  | _, cur, [] => [cur]
  | 0, cur, c :: r => if y.isPrefixOf (c :: r) = true then cur :: splA y (y.length - 1) [] r else splA y 0 (cur ++ [c]) r
  | k + 1, cur, _ :: r => splA y k cur r
def spl (y l : List Nat) : List (List Nat) := splA y 0 [] l
def repA (y z : List Nat) : Nat → List Nat → List Nat
  | _, [] => []
  | 0, c :: r => if y.isPrefixOf (c :: r) = true then z ++ repA y z (y.length - 1) r else c :: repA y z 0 r
  | k + 1, _ :: r => repA y z k r
def rep (y z l : List Nat) : List Nat := repA y z 0 l
def jn (z : List Nat) : List (List Nat) → List Nat
  | [] => []
  | [x] => x
  | x :: r => x ++ z ++ jn z r

theorem jn_cons (z x : List Nat) {r : List (List Nat)} (h : r ≠ []) : jn z (x :: r) = x ++ z ++ jn z r := by
  cases r with
  | nil => exact absurd rfl h
  | cons y s => rfl
theorem jn_two (z x y : List Nat) (r : List (List Nat)) : jn z (x :: y :: r) = x ++ z ++ jn z (y :: r) := rfl
theorem splA_ne (y : List Nat) : ∀ (l : List Nat) (k : Nat) (cur : List Nat), splA y k cur l ≠ []
  | [], k, cur => by cases k <;> simp [splA]
  | c :: r, 0, cur => by
    rw [splA]; split
    · simp
    · exact splA_ne y r 0 _
  | c :: r, k + 1, cur => by rw [splA]; exact splA_ne y r k cur
theorem jn_splA (y z : List Nat) : ∀ (l : List Nat) (k : Nat) (cur : List Nat), jn z (splA y k cur l) = cur ++ repA y z k l
  | [], k, cur => by cases k <;> simp [splA, repA, jn]
  | c :: r, 0, cur => by
    rw [splA, repA]; split
    · rw [jn_cons _ _ (splA_ne y r _ _), jn_splA y z r]; simp
    · rw [jn_splA y z r]; simp
  | c :: r, k + 1, cur => by rw [splA, repA]; exact jn_splA y z r k cur
theorem jn_spl (y z l : List Nat) : jn z (spl y l) = rep y z l := by
  unfold spl rep; rw [jn_splA]; rfl

theorem isPrefixOf_one (a c : Nat) (r : List Nat) : [a].isPrefixOf (c :: r) = (a == c) := by
  simp [List.isPrefixOf]
theorem rep_one (a : Nat) (z : List Nat) : ∀ l, rep [a] z l = l.flatMap fun c => if c = a then z else [c]
  | [] => rfl
  | c :: r => by
    have ih := rep_one a z r
    unfold rep at ih ⊢
    rw [repA, isPrefixOf_one, List.flatMap_cons, ← ih]
    by_cases h : c = a
    · subst h; simp
    · have : (a == c) = false := by simpa using fun e => h e.symm
      simp [this, h]
theorem rep_one_free (a : Nat) (z l : List Nat) (h : a ∉ l) : rep [a] z l = l := by
  rw [rep_one]
  induction l with
  | nil => rfl
  | cons c r ih =>
    simp only [List.mem_cons, not_or] at h
    rw [List.flatMap_cons, ih h.2, if_neg (fun e => h.1 e.symm)]; rfl

/-! ### the escapes -/
def escC1 (c : Nat) : List Nat :=
  if c = 38 then [38, 97, 109, 112, 59] else if c = 60 then [38, 108, 116, 59] else if c = 62 then [38, 103, 116, 59] else [c]
def escA1 (c : Nat) : List Nat :=
  if c = 38 then [38, 97, 109, 112, 59] else if c = 60 then [38, 108, 116, 59] else if c = 62 then [38, 103, 116, 59] else
  if c = 34 then [38, 113, 117, 111, 116, 59] else if c = 13 then [38, 35, 49, 51, 59] else if c = 10 then [38, 35, 49, 48, 59] else if c = 9 then [38, 35, 48, 57, 59] else [c]
def parE1 (c : Nat) : List Nat := if c = 92 then [92, 92] else if c = 34 then [92, 34] else [c]
def escC (l : List Nat) : List Nat := l.flatMap escC1
def escA (l : List Nat) : List Nat := l.flatMap escA1
def parE (l : List Nat) : List Nat := l.flatMap parE1

theorem flatMap_two (f g : Nat → List Nat) (l : List Nat) : (l.flatMap f).flatMap g = l.flatMap fun c => (f c).flatMap g := by
  induction l with
  | nil => rfl
  | cons c r ih => simp [List.flatMap_cons, List.flatMap_append, ih]
theorem flatMap_congr1 {f g : Nat → List Nat} (h : ∀ c, f c = g c) (l : List Nat) : l.flatMap f = l.flatMap g := by
  rw [show f = g from funext h]

theorem escC_steps (l : List Nat) : rep [62] [38, 103, 116, 59] (rep [60] [38, 108, 116, 59] (rep [38] [38, 97, 109, 112, 59] l)) = escC l := by
  rw [rep_one, rep_one, rep_one, flatMap_two, flatMap_two]
  refine flatMap_congr1 (fun c => ?_) l
  unfold escC1
  by_cases h1 : c = 38
  · subst h1; decide
  by_cases h2 : c = 60
  · subst h2; decide
  by_cases h3 : c = 62
  · subst h3; decide
  simp [h1, h2, h3]
theorem escA_steps (l : List Nat) :
    rep [9] [38, 35, 48, 57, 59] (rep [10] [38, 35, 49, 48, 59] (rep [13] [38, 35, 49, 51, 59] (rep [34] [38, 113, 117, 111, 116, 59]
      (rep [62] [38, 103, 116, 59] (rep [60] [38, 108, 116, 59] (rep [38] [38, 97, 109, 112, 59] l)))))) = escA l := by
  rw [escC_steps, escC, rep_one, rep_one, rep_one, rep_one, flatMap_two, flatMap_two, flatMap_two, flatMap_two]
  refine flatMap_congr1 (fun c => ?_) l
  unfold escC1 escA1
  by_cases h1 : c = 38
  · subst h1; decide
  by_cases h2 : c = 60
  · subst h2; decide
  by_cases h3 : c = 62
  · subst h3; decide
  by_cases h4 : c = 34
  · subst h4; decide
  by_cases h5 : c = 13
  · subst h5; decide
  by_cases h6 : c = 10
  · subst h6; decide
  by_cases h7 : c = 9
  · subst h7; decide
  simp [h1, h2, h3, h4, h5, h6, h7]
theorem parE_steps (l : List Nat) : rep [34] [92, 34] (rep [92] [92, 92] l) = parE l := by
  rw [rep_one, rep_one, flatMap_two]
  refine flatMap_congr1 (fun c => ?_) l
  unfold parE1
  by_cases h1 : c = 92
  · subst h1; decide
  by_cases h2 : c = 34
  · subst h2; decide
  simp [h1, h2]

theorem flatMap_len {f : Nat → List Nat} {b : Nat} (h : ∀ c, (f c).length ≤ b) : ∀ l : List Nat, (l.flatMap f).length ≤ b * l.length
  | [] => Nat.zero_le _
  | c :: r => by
    have := flatMap_len h r
    rw [List.flatMap_cons, List.length_append, List.length_cons, Nat.mul_succ]
    have := h c
    omega
theorem escC_len (l : List Nat) : (escC l).length ≤ 5 * l.length := flatMap_len (fun c => by unfold escC1; (repeat' split) <;> simp) l
theorem escA_len (l : List Nat) : (escA l).length ≤ 6 * l.length := flatMap_len (fun c => by unfold escA1; (repeat' split) <;> simp) l
theorem parE_len (l : List Nat) : (parE l).length ≤ 2 * l.length := flatMap_len (fun c => by unfold parE1; (repeat' split) <;> simp) l
theorem rep_one_len (a : Nat) (z l : List Nat) {b : Nat} (hz : z.length ≤ b) (hb : 1 ≤ b) : (rep [a] z l).length ≤ b * l.length := by
  rw [rep_one]
  refine flatMap_len (fun c => ?_) l
  split
  · exact hz
  · simpa using hb

/-! ### clean texts: every 13 stands ahead of a 10, every 10 behind a 13 -/
inductive Clean : List Nat → Prop
  | nil : Clean []
  | chr {c : Nat} {r : List Nat} : c ≠ 13 → c ≠ 10 → Clean r → Clean (c :: r)
  | crlf {r : List Nat} : Clean r → Clean (13 :: 10 :: r)
theorem Clean.app {a b : List Nat} (ha : Clean a) (hb : Clean b) : Clean (a ++ b) := by
  induction ha with
  | nil => exact hb
  | chr h1 h2 _ ih => exact .chr h1 h2 ih
  | crlf _ ih => exact .crlf ih
theorem Clean.free {l : List Nat} (h : ∀ c ∈ l, c ≠ 13 ∧ c ≠ 10) : Clean l := by
  induction l with
  | nil => exact .nil
  | cons c r ih => exact .chr (h c (.head _)).1 (h c (.head _)).2 (ih fun x hx => h x (.tail _ hx))
theorem Clean.flatMap {f : Nat → List Nat} (h13 : f 13 = [13]) (h10 : f 10 = [10]) (hf : ∀ c, c ≠ 13 → c ≠ 10 → Clean (f c)) {l : List Nat} (h : Clean l) : Clean (l.flatMap f) := by
  induction h with
  | nil => exact .nil
  | chr h1 h2 _ ih => rw [List.flatMap_cons]; exact (hf _ h1 h2).app ih
  | crlf _ ih => rw [List.flatMap_cons, List.flatMap_cons, h13, h10]; exact .crlf ih
theorem Clean.escC {l : List Nat} (h : Clean l) : Clean (escC l) := by
  refine Clean.flatMap (by decide) (by decide) (fun c h1 h2 => Clean.free fun x hx => ?_) h
  unfold escC1 at hx
  repeat' split at hx
  all_goals first | (clear h1 h2; revert x; decide) | (cases List.mem_singleton.mp hx; exact ⟨h1, h2⟩)
theorem Clean.parE {l : List Nat} (h : Clean l) : Clean (parE l) := by
  refine Clean.flatMap (by decide) (by decide) (fun c h1 h2 => Clean.free fun x hx => ?_) h
  unfold parE1 at hx
  repeat' split at hx
  all_goals first | (clear h1 h2; revert x; decide) | (cases List.mem_singleton.mp hx; exact ⟨h1, h2⟩)
theorem escA_free {l : List Nat} : ∀ c ∈ escA l, c ≠ 13 ∧ c ≠ 10 ∧ c ≠ 34 ∧ c ≠ 9 ∧ c ≠ 60 ∧ c ≠ 62 := by
  intro c hc
  obtain ⟨x, _, hx⟩ := List.mem_flatMap.mp hc
  clear hc
  unfold escA1 at hx
  repeat' split at hx
  all_goals first | (revert c; decide) | (cases List.mem_singleton.mp hx; exact ⟨by assumption, by assumption, by assumption, by assumption, by assumption, by assumption⟩)
theorem escC_free {l : List Nat} : ∀ c ∈ escC l, c ≠ 60 ∧ c ≠ 62 := by
  intro c hc
  obtain ⟨x, _, hx⟩ := List.mem_flatMap.mp hc
  clear hc
  unfold escC1 at hx
  repeat' split at hx
  all_goals first | (revert c; decide) | (cases List.mem_singleton.mp hx; exact ⟨by assumption, by assumption⟩)

/-! ### rows -/
abbrev CRLF : List Nat := [13, 10]
def FreeRow (r : List Nat) : Prop := ∀ c ∈ r, c ≠ 13 ∧ c ≠ 10
theorem Clean.rows {l : List Nat} (h : Clean l) : ∃ rs, rs ≠ [] ∧ (∀ r ∈ rs, FreeRow r) ∧ l = jn CRLF rs := by
  induction h with
  | nil => exact ⟨[[]], by simp, by simp [FreeRow], rfl⟩
  | @chr c r h1 h2 _ ih =>
    obtain ⟨rs, hne, hf, rfl⟩ := ih
    cases rs with
    | nil => exact absurd rfl hne
    | cons x rs =>
      refine ⟨(c :: x) :: rs, by simp, ?_, ?_⟩
      · intro y hy
        rcases List.mem_cons.mp hy with rfl | hy
        · intro d hd
          rcases List.mem_cons.mp hd with rfl | hd
          · exact ⟨h1, h2⟩
          · exact hf x (.head _) d hd
        · exact hf y (.tail _ hy)
      · cases rs with
        | nil => rfl
        | cons y s => rfl
  | crlf _ ih =>
    obtain ⟨rs, hne, hf, rfl⟩ := ih
    refine ⟨[] :: rs, by simp, ?_, ?_⟩
    · intro y hy
      rcases List.mem_cons.mp hy with rfl | hy
      · intro d hd; exact absurd hd List.not_mem_nil
      · exact hf y hy
    · rw [jn_cons _ _ hne]; rfl
theorem prefix_crlf (c : Nat) (r : List Nat) (h : c ≠ 13) : CRLF.isPrefixOf (c :: r) = false := by
  have : (13 == c) = false := by simpa using fun e => h e.symm
  simp [List.isPrefixOf, this]
theorem splA_row : ∀ (r : List Nat) (cur rest : List Nat), FreeRow r → splA CRLF 0 cur (r ++ rest) = splA CRLF 0 (cur ++ r) rest
  | [], cur, rest, _ => by simp
  | c :: r, cur, rest, h => by
    rw [List.cons_append, splA, prefix_crlf _ _ (h c (.head _)).1, if_neg Bool.false_ne_true, splA_row r _ rest fun x hx => h x (.tail _ hx)]
    simp
theorem splA_crlf (cur rest : List Nat) : splA CRLF 0 cur (13 :: 10 :: rest) = cur :: splA CRLF 0 [] rest := by
  simp [splA, List.isPrefixOf]
theorem splA_jn : ∀ (rs : List (List Nat)) (cur : List Nat), (∀ r ∈ rs, FreeRow r) → rs ≠ [] → splA CRLF 0 cur (jn CRLF rs) = (cur ++ rs.headD []) :: rs.tail
  | [], _, _, h => absurd rfl h
  | [x], cur, h, _ => by
    have := splA_row x cur [] (h x (.head _))
    rw [List.append_nil] at this
    show splA CRLF 0 cur x = _
    rw [this]; rfl
  | x :: y :: rs, cur, h, _ => by
    rw [jn_two, List.append_assoc, splA_row x cur _ (h x (.head _))]
    show splA CRLF 0 (cur ++ x) (13 :: 10 :: jn CRLF (y :: rs)) = _
    rw [splA_crlf, splA_jn (y :: rs) [] (fun r hr => h r (.tail _ hr)) (by simp)]
    simp
theorem spl_rows {rs : List (List Nat)} (h : ∀ r ∈ rs, FreeRow r) (hne : rs ≠ []) : spl CRLF (jn CRLF rs) = rs := by
  unfold spl
  rw [splA_jn rs [] h hne]
  cases rs with
  | nil => exact absurd rfl hne
  | cons x r => rfl
theorem rep_rows {rs : List (List Nat)} (e : List Nat) (h : ∀ r ∈ rs, FreeRow r) (hne : rs ≠ []) : rep CRLF e (jn CRLF rs) = jn e rs := by
  rw [← jn_spl, spl_rows h hne]

/-- what the second pattern makes of a text -/
def norm : List Nat → List Nat
  | [] => []
  | c :: r => if c = 13 then (match r with | 10 :: r' => 13 :: 10 :: norm r' | r => 13 :: 10 :: norm r) else if c = 10 then 13 :: 10 :: norm r else c :: norm r
theorem norm_row : ∀ (r rest : List Nat), FreeRow r → norm (r ++ rest) = r ++ norm rest
  | [], _, _ => rfl
  | c :: r, rest, h => by
    rw [List.cons_append, norm.eq_def]
    simp only
    rw [if_neg (h c (.head _)).1, if_neg (h c (.head _)).2, norm_row r rest fun x hx => h x (.tail _ hx)]; rfl
theorem norm_crlf (r : List Nat) : norm (13 :: 10 :: r) = 13 :: 10 :: norm r := by simp [norm]
theorem norm_lf (r : List Nat) : norm (10 :: r) = 13 :: 10 :: norm r := by rw [norm.eq_def]; simp
theorem norm_cr (r : List Nat) (h : ∀ r', r ≠ 10 :: r') : norm (13 :: r) = 13 :: 10 :: norm r := by
  rw [norm.eq_def]
  cases r with
  | nil => rfl
  | cons d r' =>
    by_cases hd : d = 10
    · subst hd; exact absurd rfl (h r')
    · simp [hd]
theorem norm_jn {e : List Nat} (he : e = [13, 10] ∨ e = [10] ∨ e = [13]) : ∀ {rs : List (List Nat)}, (∀ r ∈ rs, FreeRow r) → rs ≠ [] → norm (jn e rs) = jn CRLF rs
  | [], _, h => absurd rfl h
  | [x], h, _ => by
    have := norm_row x [] (h x (.head _))
    simpa [jn, norm] using this
  | x :: y :: rs, h, _ => by
    have ih := norm_jn he (rs := y :: rs) (fun r hr => h r (.tail _ hr)) (by simp)
    rw [jn_two, jn_two, List.append_assoc, norm_row x _ (h x (.head _)), ← ih, List.append_assoc]
    refine congrArg (x ++ ·) ?_
    rcases he with rfl | rfl | rfl
    · exact norm_crlf _
    · exact norm_lf _
    · refine norm_cr _ fun r' q => ?_
      have q : jn [13] (y :: rs) = 10 :: r' := q
      have hy := h y (.tail _ (.head _))
      cases y with
      | nil =>
        cases rs with
        | nil => cases q
        | cons z zs => rw [jn_two] at q; cases q
      | cons c y' =>
        have hc := (hy c (.head _)).2
        cases rs with
        | nil => simp only [jn, List.cons.injEq] at q; exact hc q.1
        | cons z zs =>
          rw [jn_two] at q
          simp only [List.cons_append, List.cons.injEq] at q
          exact hc q.1
theorem norm_ends {e h : List Nat} (he : e = [13, 10] ∨ e = [10] ∨ e = [13]) (hc : Clean h) : norm (rep CRLF e h) = h := by
  obtain ⟨rs, hne, hf, rfl⟩ := hc.rows
  rw [rep_rows e hf hne, norm_jn he hf hne]

/-- what the first pattern makes of a text -/
def dotsA : Bool → List Nat → List Nat
  | _, [] => []
  | b, c :: r => if b = true ∧ c = 46 then 46 :: 46 :: dotsA false r else c :: dotsA (c == 10) r
def dots (l : List Nat) : List Nat := dotsA true l
def dotRow (r : List Nat) : List Nat := match r with | 46 :: _ => 46 :: r | _ => r
theorem dotsA_false_row : ∀ (r rest : List Nat), FreeRow r → r ≠ [] → dotsA false (r ++ rest) = r ++ dotsA false rest
  | [], _, _, h => absurd rfl h
  | [c], rest, h, _ => by
    have : (c == 10) = false := by simpa using (h c (.head _)).2
    simp [dotsA, this]
  | c :: d :: r, rest, h, _ => by
    have h1 : (c == 10) = false := by simpa using (h c (.head _)).2
    have ih := dotsA_false_row (d :: r) rest (fun x hx => h x (.tail _ hx)) (by simp)
    rw [List.cons_append, dotsA, if_neg (fun q => Bool.false_ne_true q.1), h1, ih]; rfl
theorem dotsA_false_row' (r rest : List Nat) (h : FreeRow r) : dotsA false (r ++ rest) = r ++ dotsA false rest := by
  cases r with
  | nil => rfl
  | cons c r => exact dotsA_false_row _ _ h (by simp)
theorem dotsA_crlf (b : Bool) (r : List Nat) : dotsA b (13 :: 10 :: r) = 13 :: 10 :: dotsA true r := by
  simp [dotsA]
theorem dots_row (r rest : List Nat) (h : FreeRow r) (hr : r ≠ []) : dotsA true (r ++ rest) = dotRow r ++ dotsA false rest := by
  cases r with
  | nil => exact absurd rfl hr
  | cons c r =>
    have hr' : FreeRow r := fun x hx => h x (.tail _ hx)
    rw [List.cons_append, dotsA]
    by_cases hc : c = 46
    · subst hc
      rw [if_pos ⟨rfl, rfl⟩, dotsA_false_row' r rest hr']; rfl
    · have h1 : (c == 10) = false := by simpa using (h c (.head _)).2
      rw [if_neg (fun q => hc q.2), h1, dotsA_false_row' r rest hr']
      unfold dotRow
      split
      · rename_i q; cases q; exact absurd rfl hc
      · rfl
theorem dots_jn : ∀ {rs : List (List Nat)}, (∀ r ∈ rs, FreeRow r) → rs ≠ [] → dots (jn CRLF rs) = jn CRLF (rs.map dotRow)
  | [], _, h => absurd rfl h
  | [x], h, _ => by
    cases x with
    | nil => rfl
    | cons c x =>
      have := dots_row (c :: x) [] (h _ (.head _)) (by simp)
      rw [List.append_nil] at this
      show dotsA true (c :: x) = dotRow (c :: x)
      rw [this, dotsA, List.append_nil]
  | x :: y :: rs, h, _ => by
    have ih := dots_jn (rs := y :: rs) (fun r hr => h r (.tail _ hr)) (by simp)
    unfold dots at ih ⊢
    rw [jn_two, List.map_cons, List.map_cons, jn_two, ← List.map_cons, ← ih]
    simp only [List.append_assoc]
    cases x with
    | nil => exact dotsA_crlf _ _
    | cons c x =>
      rw [dots_row (c :: x) _ (h _ (.head _)) (by simp)]
      exact congrArg _ (dotsA_crlf _ _)
theorem dotRow_free {r : List Nat} (h : FreeRow r) : FreeRow (dotRow r) := by
  unfold dotRow
  split
  · intro c hc
    rcases List.mem_cons.mp hc with rfl | hc
    · decide
    · exact h c hc
  · exact h
def undot (r : List Nat) : List Nat := if r.take 1 = [46] then r.drop 1 else r
theorem undot_dotRow (r : List Nat) : undot (dotRow r) = r := by
  unfold undot dotRow
  split
  · rfl
  · rename_i hn
    rw [if_neg]
    intro q
    cases r with
    | nil => cases q
    | cons c r => simp only [List.take, List.cons.injEq, and_true] at q; exact hn r (by rw [q])
theorem dotRow_dot (r : List Nat) : dotRow (46 :: r) = 46 :: 46 :: r := rfl
theorem dotRow_ne {c : Nat} (r : List Nat) (h : c ≠ 46) : dotRow (c :: r) = c :: r := by
  unfold dotRow
  split
  · rename_i q; cases q; exact absurd rfl h
  · rfl
theorem dotRow_two (r : List Nat) (h : (dotRow r).take 1 = [46]) : (dotRow r).take 2 = [46, 46] := by
  cases r with
  | nil => cases h
  | cons c r =>
    by_cases hc : c = 46
    · subst hc; rfl
    · rw [dotRow_ne r hc] at h
      simp only [List.take, List.cons.injEq, and_true] at h
      exact absurd h hc
theorem dots_len : ∀ (l : List Nat) (b : Bool), (dotsA b l).length ≤ 2 * l.length
  | [], _ => by simp [dotsA]
  | c :: r, b => by
    rw [dotsA]; split
    · have := dots_len r false; simp only [List.length_cons]; omega
    · have := dots_len r (c == 10); simp only [List.length_cons]; omega
theorem clean_jn : ∀ {rs : List (List Nat)}, (∀ r ∈ rs, FreeRow r) → Clean (jn CRLF rs)
  | [], _ => .nil
  | [x], h => Clean.free (h x (.head _))
  | x :: y :: rs, h => by
    rw [jn_two, List.append_assoc]
    exact (Clean.free (h x (.head _))).app (.crlf (clean_jn fun r hr => h r (.tail _ hr)))
theorem Clean.dots {l : List Nat} (h : Clean l) : Clean (dots l) := by
  obtain ⟨rs, hne, hf, rfl⟩ := h.rows
  rw [dots_jn hf hne]
  refine clean_jn fun r hr => ?_
  obtain ⟨x, hx, rfl⟩ := List.mem_map.mp hr
  exact dotRow_free (hf x hx)
theorem repA_len {y z : List Nat} (hz : z.length ≤ y.length) (hy : y ≠ []) : ∀ (l : List Nat) (k : Nat), (repA y z k l).length ≤ l.length - k
  | [], k => by cases k <;> simp [repA]
  | c :: r, 0 => by
    rw [repA]
    split
    · rename_i h
      have h1 := (List.isPrefixOf_iff_prefix.mp h).length_le
      have ih := repA_len hz hy r (y.length - 1)
      have : 1 ≤ y.length := by
        cases y with
        | nil => exact absurd rfl hy
        | cons a b => simp
      simp only [List.length_append, List.length_cons] at h1 ⊢
      omega
    · have ih := repA_len hz hy r 0
      simp only [List.length_cons] at ih ⊢
      omega
  | c :: r, k + 1 => by
    rw [repA]
    have ih := repA_len hz hy r k
    simp only [List.length_cons]
    omega
theorem rep_len {y z l : List Nat} (hz : z.length ≤ y.length) (hy : y ≠ []) : (rep y z l).length ≤ l.length := repA_len hz hy l 0
end

/-! part Base -/
section
/-- a text by its code points -/
abbrev S (l : List Nat) : PySem.Str := ⟨l.toArray⟩
theorem gen_toks {α : Type} {M : Model} {A : Around} {t : Sem α} {Q : α → Shared → Prop} {E : Value → Shared → Prop} {X : Nat} {h : Heap} {g d o}
    (k : ∀ tk : Nat, X ≤ tk → wpAny M A t Q E ⟨h, g, d, tk, o⟩) : wpAny M A t Q E ⟨h, g, d, X, o⟩ := k X (Nat.le_refl _)
section
open Builtin Builtin.Str
variable {prog : Program} {w : World} {A : Around} {E : Value → Shared → Prop} {s : Shared} {x y z : PySem.Str} {t u v : Nat} {Q : Value → Shared → Prop}
theorem replT (hu : u ≠ 0) (hv : v ≠ 0) (huv : u ≠ v) (hyz : (y == z) = false) (hs : 0 < s.toks) (hb : x.length + (x.length + 1) * z.length ≤ 16777216)
    (hq : ∀ (t' k : Nat), s.toks ≤ k → Q (.str (Txt.replace x y z) t') { s with toks := k }) : wpAny (model prog w) A (call (.builtin "str.replace") [.str x t, .str y u, .str z v]) Q E s := by
  have e : (2 : Nat) ^ 24 = 16777216 := by decide
  have hl : tooLong (x.length + (occurrences x y 0 x.length (x.length + 1)).length * z.length) = false := by
    have h1 := StrLaws.occ_length_le x y 0 x.length (x.length + 1)
    have h2 : (occurrences x y 0 x.length (x.length + 1)).length * z.length ≤ (x.length + 1) * z.length := Nat.mul_le_mul_right _ h1
    unfold tooLong sizeLine
    exact decide_eq_false (by omega)
  refine call_gives F.slot_str_replace (typeIs_str _ _ _) F.entry_str_replace (F.args_str_replace_3 _ _ _)
    (gives_str_replace x y z t u v fun _ => ⟨by simp [hu, hv], by simp [huv], hyz, hl⟩) ?_
  have hq' := hq
  unfold Txt.replace at hq'
  cases hc : ((occurrences x y 0 x.length (x.length + 1)).isEmpty || (y.length == 0 && z.length == 0))
  · rw [hc] at hq'
    simp only [Bool.false_eq_true, if_false] at hq' ⊢
    exact ⟨fits_replaced y hb, hq' _ _ (Nat.le_succ _)⟩
  · rw [hc] at hq'
    simp only [if_true] at hq' ⊢
    exact hq' t s.toks (Nat.le_refl _)
end

/-- a call of the def at `f` upon `vs` hands back the text `r`; it leaves what stood as it stood -/
def TCtr (w : World) (f : Addr) (vs : List Value) (d : Nat) (pre : Shared → Prop) (r : List Nat) : Prop :=
  ∀ (p : Program) (loose : List PySem.Str) (mean : ExcName → Option Value) (mg mb : PySem.Str → Option Value)
    (dp un : Nat) (gd : Option (List Code)) (cn : PySem.Str) (cs : Scope) (a : Addr) (ccd : Value) (cl : List (PySem.Str × Addr)) (outer : List Env) (A₀ : Around) (base h₀ : Heap) (L : Addr) (m : PySem.Str → Option Value)
    (news : List (Addr × Obj)) (s : Shared) (Q E : Value → Shared → Prop),
    Below A₀ base outer h₀ → Fr h₀ L s.heap m → (hd.heap_39 w.params).In h₀ → News h₀ L s.heap news → Top p loose mean mg mb h₀ → cs.kind = .function →
    dp + d < recursionLimit → un + 8 * d < cLine → pre s →
    (∀ (t : Nat) (h' : Heap) (tk' : Nat), Fr h₀ L h' m → News h₀ L h' news → s.toks ≤ tk' → Q (.str (S r) t) { s with heap := h', toks := tk' }) →
    wpAny (model PySem.Challenge.rw_ta0008_01.row.prog w) (ktrTop dp un gd cn cs L a ccd cl outer) (call (.ref f) vs) Q E s
theorem TCtr.use {w : World} {f : Addr} {vs : List Value} {d : Nat} {pre : Shared → Prop} {r : List Nat} (C : TCtr w f vs d pre r)
    {p : Program} {loose : List PySem.Str} {mean : ExcName → Option Value} {mg mb : PySem.Str → Option Value}
    {dp un : Nat} {gd : Option (List Code)} {cn : PySem.Str} {cs : Scope} {a : Addr} {ccd : Value} {cl : List (PySem.Str × Addr)} {outer : List Env} {A₀ : Around} {base h₀ : Heap} {L : Addr} {m : PySem.Str → Option Value}
    {news : List (Addr × Obj)} {s : Shared} {Q E : Value → Shared → Prop}
    (B : Below A₀ base outer h₀) (F : Fr h₀ L s.heap m) (X : (hd.heap_39 w.params).In h₀) (N : News h₀ L s.heap news) (T : Top p loose mean mg mb h₀) (hk : cs.kind = .function)
    (hd : dp + d < recursionLimit) (hu : un + 8 * d < cLine) (hp : pre s)
    (k : ∀ (t : Nat) (h' : Heap) (tk' : Nat), Fr h₀ L h' m → News h₀ L h' news → s.toks ≤ tk' → Q (.str (S r) t) { s with heap := h', toks := tk' }) :
    wpAny (model PySem.Challenge.rw_ta0008_01.row.prog w) (ktrTop dp un gd cn cs L a ccd cl outer) (call (.ref f) vs) Q E s :=
  C p loose mean mg mb dp un gd cn cs a ccd cl outer A₀ base h₀ L m news s Q E B F X N T hk hd hu hp k

/-- as TCtr, with nothing told of tokens -/
def TCtr0 (w : World) (f : Addr) (vs : List Value) (d : Nat) (r : List Nat) : Prop :=
  ∀ (p : Program) (loose : List PySem.Str) (mean : ExcName → Option Value) (mg mb : PySem.Str → Option Value)
    (dp un : Nat) (gd : Option (List Code)) (cn : PySem.Str) (cs : Scope) (a : Addr) (ccd : Value) (cl : List (PySem.Str × Addr)) (outer : List Env) (A₀ : Around) (base h₀ : Heap) (L : Addr) (m : PySem.Str → Option Value)
    (news : List (Addr × Obj)) (s : Shared) (Q E : Value → Shared → Prop),
    Below A₀ base outer h₀ → Fr h₀ L s.heap m → (hd.heap_39 w.params).In h₀ → News h₀ L s.heap news → Top p loose mean mg mb h₀ → cs.kind = .function →
    dp + d < recursionLimit → un + 8 * d < cLine →
    (∀ (t : Nat) (h' : Heap) (tk' : Nat), Fr h₀ L h' m → News h₀ L h' news → Q (.str (S r) t) { s with heap := h', toks := tk' }) →
    wpAny (model PySem.Challenge.rw_ta0008_01.row.prog w) (ktrTop dp un gd cn cs L a ccd cl outer) (call (.ref f) vs) Q E s
theorem TCtr0.use {w : World} {f : Addr} {vs : List Value} {d : Nat} {r : List Nat} (C : TCtr0 w f vs d r)
    {p : Program} {loose : List PySem.Str} {mean : ExcName → Option Value} {mg mb : PySem.Str → Option Value}
    {dp un : Nat} {gd : Option (List Code)} {cn : PySem.Str} {cs : Scope} {a : Addr} {ccd : Value} {cl : List (PySem.Str × Addr)} {outer : List Env} {A₀ : Around} {base h₀ : Heap} {L : Addr} {m : PySem.Str → Option Value}
    {news : List (Addr × Obj)} {s : Shared} {Q E : Value → Shared → Prop}
    (B : Below A₀ base outer h₀) (F : Fr h₀ L s.heap m) (X : (hd.heap_39 w.params).In h₀) (N : News h₀ L s.heap news) (T : Top p loose mean mg mb h₀) (hk : cs.kind = .function)
    (hd : dp + d < recursionLimit) (hu : un + 8 * d < cLine)
    (k : ∀ (t : Nat) (h' : Heap) (tk' : Nat), Fr h₀ L h' m → News h₀ L h' news → Q (.str (S r) t) { s with heap := h', toks := tk' }) :
    wpAny (model PySem.Challenge.rw_ta0008_01.row.prog w) (ktrTop dp un gd cn cs L a ccd cl outer) (call (.ref f) vs) Q E s :=
  C p loose mean mg mb dp un gd cn cs a ccd cl outer A₀ base h₀ L m news s Q E B F X N T hk hd hu k
end

/-! part Txt1 -/
section
section
open Builtin Builtin.Str StrLaws
def occL (y : List Nat) : Nat → Nat → List Nat → List Nat
  | _, _, [] => []
  | i, 0, c :: r => if y.isPrefixOf (c :: r) = true then i :: occL y (i + 1) (y.length - 1) r else occL y (i + 1) 0 r
  | i, k + 1, _ :: r => occL y (i + 1) k r
theorem prefix_take (y l : List Nat) : y.isPrefixOf l = (l.take y.length == y) := by
  rw [Bool.eq_iff_iff, List.isPrefixOf_iff_prefix, List.prefix_iff_eq_take, beq_iff_eq]
  exact eq_comm
theorem subAt_S (L y : List Nat) (i : Nat) : subAt (S L) (S y) i = y.isPrefixOf (L.drop i) := by
  rw [subAt_eq, prefix_take]
  simp [PySem.Str.length]
theorem occ_go {L y : List Nat} (hy : y ≠ []) : ∀ (l : List Nat) (i : Nat) (found : Array Nat) (free : Nat), L.drop i = l → i ≤ L.length → found.size ≤ i →
    (forIn (List.range' i (L.length + 1 - i)) (found, free) (occBody (S L) (S y) L.length (L.length + 1))).run.fst.toList = found.toList ++ occL y i (free - i) l
  | [], i, found, free, hd, hi, hf => by
    have hn : i = L.length := by
      have := congrArg List.length hd
      simp at this; omega
    subst hn
    have hy1 : 1 ≤ y.length := by
      cases y with
      | nil => exact absurd rfl hy
      | cons a b => simp
    have e : L.length + 1 - L.length = 1 := by omega
    rw [e]
    have hl : (S y).length = y.length := by simp [PySem.Str.length]
    simp only [List.range'_one, List.forIn_cons, occBody]
    rw [if_neg (fun q => by have := q.1.2; rw [hl] at this; omega)]
    simp [occL]
  | c :: r, i, found, free, hd, hi, hf => by
    have hlt : i < L.length := by
      have := congrArg List.length hd
      simp at this; omega
    have hd' : L.drop (i + 1) = r := by
      rw [← List.tail_drop, hd]; rfl
    have e : L.length + 1 - i = (L.length + 1 - (i + 1)) + 1 := by omega
    rw [e, List.range'_succ, List.forIn_cons]
    have hl : (S y).length = y.length := by simp [PySem.Str.length]
    by_cases hfree : free ≤ i
    · have hk : free - i = 0 := by omega
      rw [hk, occL]
      by_cases hp : y.isPrefixOf (c :: r) = true
      · have hlen : i + y.length ≤ L.length := by
          have h1 := (List.isPrefixOf_iff_prefix.mp hp).length_le
          have h2 := congrArg List.length hd
          simp only [List.length_drop] at h2
          omega
        have hc : ((found.size < L.length + 1 ∧ free ≤ i) ∧ i + (S y).length ≤ L.length) ∧ subAt (S L) (S y) i = true := ⟨⟨⟨by omega, hfree⟩, by rw [hl]; exact hlen⟩, by rw [subAt_S, hd]; exact hp⟩
        rw [if_pos hp]
        unfold occBody
        rw [if_pos hc]
        have ih := occ_go hy r (i + 1) (found.push i) (i + (S y).length) hd' (by omega) (by simp; omega)
        unfold occBody at ih
        refine ih.trans ?_
        rw [hl, show i + y.length - (i + 1) = y.length - 1 by omega]
        simp
      · have hc : ¬ (((found.size < L.length + 1 ∧ free ≤ i) ∧ i + (S y).length ≤ L.length) ∧ subAt (S L) (S y) i = true) := fun q => hp (by have := q.2; rw [subAt_S, hd] at this; exact this)
        rw [if_neg hp]
        unfold occBody
        rw [if_neg hc]
        have ih := occ_go hy r (i + 1) found free hd' (by omega) (by omega)
        unfold occBody at ih
        refine ih.trans ?_
        rw [show free - (i + 1) = 0 by omega]
    · have hc : ¬ (((found.size < L.length + 1 ∧ free ≤ i) ∧ i + (S y).length ≤ L.length) ∧ subAt (S L) (S y) i = true) := fun q => hfree q.1.1.2
      obtain ⟨k, hk⟩ : ∃ k, free - i = k + 1 := ⟨free - i - 1, by omega⟩
      rw [hk, occL]
      unfold occBody
      rw [if_neg hc]
      have ih := occ_go hy r (i + 1) found free hd' (by omega) (by omega)
      unfold occBody at ih
      refine ih.trans ?_
      rw [show free - (i + 1) = k by omega]
theorem occ_S {L y : List Nat} (hy : y ≠ []) : occurrences (S L) (S y) 0 (S L).length ((S L).length + 1) = occL y 0 0 L := by
  rw [occ_eq]
  have hl : (S L).length = L.length := by simp [PySem.Str.length]
  rw [hl]
  exact (occ_go hy L 0 #[] 0 rfl (Nat.zero_le _) (Nat.le_refl _)).trans (by simp)

theorem strSub_S (L : List Nat) (i j : Nat) : strSub (S L) i j = S ((L.drop i).take (j - i)) := by
  refine PySem.Str.ext' ?_
  apply Array.ext'
  rw [strSub_toList]
theorem parts_go {L y : List Nat} (hy : y ≠ []) : ∀ (l : List Nat) (i k st : Nat) (cur : List Nat), L.drop i = l → i ≤ L.length → (k = 0 → st ≤ i ∧ cur = (L.drop st).take (i - st)) → (0 < k → st = i + k ∧ cur = [] ∧ st ≤ L.length) →
    ((st :: (occL y i k l).map (· + y.length)).zip (occL y i k l ++ [L.length])).map (fun p => strSub (S L) p.1 p.2) = (splA y k cur l).map S
  | [], i, k, st, cur, hd, hi, h0, h1 => by
    have hn : i = L.length := by
      have := congrArg List.length hd
      simp at this; omega
    cases k with
    | zero =>
      obtain ⟨_, rfl⟩ := h0 rfl
      subst hn
      simp only [occL, splA, List.map_nil, List.nil_append, List.zip_cons_cons, List.zip_nil_left, List.map_cons, strSub_S]
    | succ k =>
      obtain ⟨h2, _, h3⟩ := h1 (Nat.succ_pos _)
      omega
  | c :: r, i, 0, st, cur, hd, hi, h0, h1 => by
    have hlt : i < L.length := by
      have := congrArg List.length hd
      simp at this; omega
    have hd' : L.drop (i + 1) = r := by
      rw [← List.tail_drop, hd]; rfl
    obtain ⟨hs, rfl⟩ := h0 rfl
    rw [occL, splA]
    by_cases hp : y.isPrefixOf (c :: r) = true
    · rw [if_pos hp, if_pos hp]
      have hlen : i + y.length ≤ L.length := by
        have h1 := (List.isPrefixOf_iff_prefix.mp hp).length_le
        have h2 := congrArg List.length hd
        simp only [List.length_drop] at h2
        omega
      have hy1 : 1 ≤ y.length := by
        cases y with
        | nil => exact absurd rfl hy
        | cons a b => simp
      have ih := parts_go hy r (i + 1) (y.length - 1) (i + y.length) [] hd' (by omega) (fun h => ⟨by omega, by rw [show i + 1 - (i + y.length) = 0 by omega, List.take_zero]⟩) (fun h => ⟨by omega, rfl, hlen⟩)
      rw [List.map_cons, List.cons_append, List.zip_cons_cons, List.map_cons, List.map_cons, ih, strSub_S]
    · rw [if_neg hp, if_neg hp]
      refine parts_go hy r (i + 1) 0 st _ hd' (by omega) (fun _ => ⟨by omega, ?_⟩) (fun h => absurd h (Nat.lt_irrefl _))
      rw [show i + 1 - st = (i - st) + 1 by omega, List.take_add_one]
      have : (L.drop st)[i - st]? = some c := by
        rw [List.getElem?_drop, show st + (i - st) = i by omega]
        have : (L.drop i)[0]? = some c := by rw [hd]; rfl
        simpa using this
      rw [this]; rfl
  | c :: r, i, k + 1, st, cur, hd, hi, h0, h1 => by
    have hd' : L.drop (i + 1) = r := by
      rw [← List.tail_drop, hd]; rfl
    have hlt : i < L.length := by
      have := congrArg List.length hd
      simp at this; omega
    obtain ⟨h2, rfl, h3⟩ := h1 (Nat.succ_pos _)
    rw [occL, splA]
    exact parts_go hy r (i + 1) k st [] hd' (by omega) (fun h => ⟨by omega, by rw [show i + 1 - st = 0 by omega, List.take_zero]⟩) (fun h => ⟨by omega, rfl, h3⟩)
theorem parts_S {L y : List Nat} (hy : y ≠ []) : partsBetween (S L) (occurrences (S L) (S y) 0 (S L).length ((S L).length + 1)) (S y).length = (spl y L).map S := by
  rw [occ_S hy]
  have h := parts_go hy L 0 0 0 [] rfl (Nat.zero_le _) (fun _ => ⟨Nat.le_refl _, by simp⟩) (fun h => absurd h (Nat.lt_irrefl _))
  have hl : (S L).length = L.length := by simp [PySem.Str.length]
  have hl' : (S y).length = y.length := by simp [PySem.Str.length]
  unfold partsBetween
  rw [hl, hl']
  exact h
theorem join_S (z : List Nat) : ∀ ps : List (List Nat), PySem.Str.join (S z) (ps.map S) = S (jn z ps)
  | [] => rfl
  | [x] => rfl
  | x :: y :: r => by
    have ih := join_S z (y :: r)
    show S x ++ S z ++ PySem.Str.join (S z) ((y :: r).map S) = _
    rw [ih, jn_two]
    exact PySem.Str.ext' (by simp [PySem.Str.cps_append])
theorem spl_of_occ_nil {y : List Nat} (hy : y ≠ []) : ∀ (l : List Nat) (i : Nat) (cur : List Nat), occL y i 0 l = [] → splA y 0 cur l = [cur ++ l]
  | [], i, cur, _ => by simp [splA]
  | c :: r, i, cur, h => by
    rw [occL] at h
    rw [splA]
    by_cases hp : y.isPrefixOf (c :: r) = true
    · rw [if_pos hp] at h; cases h
    · rw [if_neg hp] at h
      rw [if_neg hp, spl_of_occ_nil hy r (i + 1) _ h]; simp
theorem replace_S {x y z : List Nat} (hy : y ≠ []) : Txt.replace (S x) (S y) (S z) = S (rep y z x) := by
  have hl' : (S y).length = y.length := by simp [PySem.Str.length]
  have hy0 : ((S y).length == 0) = false := by
    rw [hl']
    cases y with
    | nil => exact absurd rfl hy
    | cons a b => simp
  unfold Txt.replace
  rw [hy0, Bool.false_and, Bool.or_false]
  by_cases he : (occurrences (S x) (S y) 0 (S x).length ((S x).length + 1)).isEmpty = true
  · rw [if_pos he]
    rw [occ_S hy, List.isEmpty_iff] at he
    have := spl_of_occ_nil hy x 0 [] he
    rw [← jn_spl]
    unfold spl
    rw [this]; rfl
  · rw [if_neg he, parts_S hy, glued_eq_join, join_S, jn_spl]
theorem strKind_ascii {y : List Nat} (h : ∀ c ∈ y, c < 256) : Builtin.Str.strKind (S y) = 1 := by
  unfold Builtin.Str.strKind
  rw [if_pos]
  simpa using h
theorem strKind_ge (x : PySem.Str) : 1 ≤ Builtin.Str.strKind x := by unfold Builtin.Str.strKind; (repeat' split) <;> omega
theorem split_S {x y : List Nat} (hy : y ≠ []) (ha : ∀ c ∈ y, c < 256) : Txt.split (S x) (S y) = (spl y x).map S := by
  unfold Txt.split
  have hk : decide (Builtin.Str.strKind (S x) < Builtin.Str.strKind (S y)) = false := by
    rw [strKind_ascii ha]; have := strKind_ge (S x); exact decide_eq_false (by omega)
  have hl : (S x).length = x.length := by simp [PySem.Str.length]
  have hl' : (S y).length = y.length := by simp [PySem.Str.length]
  rw [hk, Bool.or_false]
  by_cases he : (occurrences (S x) (S y) 0 (S x).length ((S x).length + 1)).isEmpty = true
  · have e : spl y x = [x] := by
      rw [occ_S hy, List.isEmpty_iff] at he
      have := spl_of_occ_nil hy x 0 [] he
      unfold spl; rw [this]; rfl
    rw [e, if_pos he]
    split <;> rfl
  · rw [if_neg he, parts_S hy]
    rw [if_neg]
    intro q
    have q : x.length < y.length := by rw [hl, hl'] at q; exact of_decide_eq_true q
    refine he ?_
    rw [occ_S hy, List.isEmpty_iff]
    have : ∀ (l : List Nat) (i : Nat), l.length < y.length → occL y i 0 l = [] := by
      intro l
      induction l with
      | nil => intro i _; rfl
      | cons c r ih =>
        intro i hl
        rw [occL, if_neg, ih]
        · simp at hl; omega
        · intro hp
          have := (List.isPrefixOf_iff_prefix.mp hp).length_le
          omega
    exact this x 0 q
end
end

/-! part Rules -/
section
theorem has_one (l : List Nat) (c : Nat) : (!(Builtin.Str.occurrences (S l) (S [c]) 0 (S l).length 1).isEmpty) = decide (c ∈ l) := by
  rw [Bool.eq_iff_iff, StrLaws.found_iff, decide_eq_true_eq, List.mem_iff_getElem?]
  constructor
  · rintro ⟨i, h⟩
    exact ⟨i, (StrLaws.subAt_one (S l) c i).mp h⟩
  · rintro ⟨i, h⟩
    exact ⟨i, (StrLaws.subAt_one (S l) c i).mpr h⟩
theorem in_one {prog : Program} {w : World} {A : Around} {E : Value → Shared → Prop} {s : Shared} {l : List Nat} {c : Nat} {y : PySem.Str} {t u : Nat} {Q : Value → Shared → Prop} (hy : y = S [c])
    (h : Q (.bool (decide (c ∈ l))) s) : wpAny (model prog w) A (compareOp .In (.str y u) (.str (S l) t)) Q E s := by
  subst hy
  exact in_str (by rw [has_one]; exact h)
theorem Fr.congr {h₀ h : Heap} {L : Addr} {m m' : PySem.Str → Option Value} (F : Fr h₀ L h m) (e : ∀ y, m y = m' y) : Fr h₀ L h m' := by
  rw [← show m = m' from funext e]; exact F
theorem Fr.nf1 {h₀ h : Heap} {L : Addr} {m : PySem.Str → Option Value} {x : PySem.Str} {v : Value} (F : Fr h₀ L h m) (hx : m x = some v) : Fr h₀ L h (fun y => if y = x then some v else m y) :=
  Fr.congr F fun y => by
    by_cases q : y = x
    · subst q; rw [if_pos rfl]; exact hx
    · rw [if_neg q]
theorem S_len (l : List Nat) : (S l).length = l.length := by simp [PySem.Str.length]
theorem replS {prog : Program} {w : World} {A : Around} {E : Value → Shared → Prop} {s : Shared} {x y z : List Nat} {ys zs : PySem.Str} {t u v : Nat} {Q : Value → Shared → Prop}
    (hu : u ≠ 0) (hv : v ≠ 0) (huv : u ≠ v) (hy : ys = S y) (hz : zs = S z) (hyz : (y == z) = false) (hy0 : y ≠ []) (hs : 0 < s.toks) (hb : x.length + (x.length + 1) * z.length ≤ 16777216)
    (hq : ∀ (t' k : Nat), s.toks ≤ k → Q (.str (S (rep y z x)) t') { s with toks := k }) : wpAny (model prog w) A (call (.builtin "str.replace") [.str (S x) t, .str ys u, .str zs v]) Q E s := by
  subst hy hz
  refine replT hu hv huv ?_ hs (by rw [S_len, S_len]; exact hb) (by rw [replace_S hy0]; exact hq)
  cases h : S y == S z with
  | false => rfl
  | true =>
    have h1 := eq_of_beq h
    have h2 : y = z := by
      have := congrArg (fun q : PySem.Str => q.cps.toList) h1
      simpa using this
    rw [h2] at hyz
    simp at hyz
theorem if_dec {b : Bool} {P R : Prop} (h1 : b = true → P) (h2 : b = false → R) : if b = true then P else R := by
  cases b with
  | true => exact h1 rfl
  | false => exact h2 rfl
abbrev sText : PySem.Str := PySem.Str.ofString "text"
abbrev mText (l : List Nat) (t : Nat) (m : PySem.Str → Option Value) : PySem.Str → Option Value := fun y => if y = sText then some (.str (S l) t) else m y
def RepI (h₀ : Heap) (L : Addr) (m : PySem.Str → Option Value) (news : List (Addr × Obj)) (g : Array GenState) (d : Drawn) (tk : Nat) (o : OsState) (r : List Nat) (f : Flow) (s' : Shared) : Prop :=
  f = .next ∧ ∃ (h' : Heap) (t' tk' : Nat), s' = ⟨h', g, d, tk', o⟩ ∧ Fr h₀ L h' (mText r t' m) ∧ News h₀ L h' news ∧ tk ≤ tk'
theorem RepI.mk {h₀ : Heap} {L : Addr} {m m' : PySem.Str → Option Value} {news : List (Addr × Obj)} {g d tk o h' tk'} {r r' : List Nat} {t' : Nat} (F : Fr h₀ L h' m') (N : News h₀ L h' news) (e : ∀ y, m' y = mText r' t' m y) (er : r' = r) (hk : tk ≤ tk') :
    RepI h₀ L m news g d tk o r .next ⟨h', g, d, tk', o⟩ := by
  subst er
  exact ⟨rfl, h', t', tk', rfl, Fr.congr F e, N, hk⟩
theorem cut_rep {M : Model} {A : Around} {tr : Sem Flow} {h₀ hp : Heap} {L : Addr} {m : PySem.Str → Option Value} {news : List (Addr × Obj)} {g d tk o} {l : List Nat} {t : Nat} {Q : Flow → Shared → Prop} {E : Value → Shared → Prop} (c : Nat) (z : List Nat)
    (F : Fr h₀ L hp (mText l t m)) (N : News h₀ L hp news) (hl : l.length ≤ 2000000) (hs : 0 < tk)
    (h1 : Fr h₀ L hp (mText l t m) → News h₀ L hp news → l.length ≤ 2000000 → 0 < tk → wpAny M A tr (RepI h₀ L m news g d tk o (rep [c] z l)) (fun _ _ => False) ⟨hp, g, d, tk, o⟩)
    (h2 : ∀ (h' : Heap) (t' tk' : Nat), Fr h₀ L h' (mText (rep [c] z l) t' m) → News h₀ L h' news → tk ≤ tk' → Q .next ⟨h', g, d, tk', o⟩) : wpAny M A tr Q E ⟨hp, g, d, tk, o⟩ := by
  refine wpAny_mono (h1 F N hl hs) (fun f s' q => ?_) (fun _ _ q => q.elim)
  obtain ⟨rfl, h', t', tk', rfl, F', N', hk'⟩ := q
  exact h2 h' t' tk' F' N' hk'
theorem Fr.bind1 {h₀ h : Heap} {L : Addr} {b : List (PySem.Str × Value)} {x : PySem.Str} {v : Value} (F : Fr h₀ L h (fun y => List.lookup y b)) (e : b = [(x, v)]) : Fr h₀ L h (fun y => if y = x then some v else none) := by
  subst e
  refine Fr.congr F fun y => ?_
  simp only [List.lookup]
  by_cases h : y = x
  · subst h; simp
  · have : (y == x) = false := by simpa using h
    simp [this, h]
section
variable {prog : Program} {w : World} {A : Around} {E : Value → Shared → Prop} {s : Shared} {Q : Value → Shared → Prop}
theorem addS {x y : PySem.Str} {a b : List Nat} {t u : Nat} (hx : x = S a) (hy : y = S b) (hs : 0 < s.toks) (hl : a.length + b.length ≤ 16777216)
    (hq : ∀ (t' k : Nat), s.toks ≤ k → Q (.str (S (a ++ b)) t') { s with toks := k }) : wpAny (model prog w) A (binaryOp .Add (.str x t) (.str y u)) Q E s := by
  subst hx hy
  have e : S a ++ S b = S (a ++ b) := PySem.Str.ext' (by simp [PySem.Str.cps_append])
  have e2 : sizeLine = 16777216 := by decide
  refine P.add_str ?_
  rw [e]
  by_cases h1 : ((S a).length == 0) = true
  · rw [if_pos h1]
    have : a = [] := by rw [S_len] at h1; simpa using h1
    subst this
    exact hq u s.toks (Nat.le_refl _)
  · rw [if_neg h1]
    by_cases h2 : ((S b).length == 0) = true
    · rw [if_pos h2]
      have : b = [] := by rw [S_len] at h2; simpa using h2
      subst this
      have := hq t s.toks (Nat.le_refl _)
      rw [List.append_nil] at this
      exact this
    · rw [if_neg h2]
      exact ⟨by rw [S_len, List.length_append, e2]; exact hl, hq _ _ (Nat.le_succ _)⟩
theorem chrS {i : Int} {n t : Nat} (hi : i = (n : Int)) (hn : n ≤ 1114111) (h : Q (.str (S [n]) s.toks) { s with toks := s.toks + 1 }) : wpAny (model prog w) A (call (.builtin "chr") [.int i t]) Q E s := by
  subst hi
  exact chr_of_range (by omega) (by omega) h
end
theorem lenS {prog : Program} {w : World} {A : Around} {E : Value → Shared → Prop} {s : Shared} {Q : Value → Shared → Prop} {l : List Nat} {t : Nat} (hl : l.length ≤ 16777216)
    (h : Q (.int (l.length : Int) (s.toks + 1)) { s with toks := s.toks + 1 + 1 }) : wpAny (model prog w) A (call (.builtin "len") [.str (S l) t]) Q E s := by
  refine len_str (by rw [S_len]; omega) ?_
  rw [S_len]; exact h
end

/-! part Loops -/
section
section
variable {prog : Program} {w : World} {A : Around} {E : Value → Shared → Prop} {s : Shared} {env : Env}
def WEnd (I : Nat → Shared → Prop) (n : Nat) (Q : Flow → Shared → Prop) (f : Flow) (s : Shared) : Prop := match f with
  | .next => ∃ m, m < n ∧ I m s
  | .cont => ∃ m, m < n ∧ I m s
  | .brk => Q .next s
  | .ret v => Q (.ret v) s
theorem while_ind {test : PySem.Expr} {body orelse : List Stmt} {pos : Pos} {Q : Flow → Shared → Prop} (I : Nat → Shared → Prop)
    (turn : ∀ n s, I n s → wpAny (model prog w) A (isTrue test env (eval test env)) (fun b s₂ => if b = true then wpAny (model prog w) A (execs body env) (WEnd I n Q) (fun _ _ => False) s₂ else wpAny (model prog w) A (execs orelse env) Q (fun _ _ => False) s₂) (fun _ _ => False) s)
    (n : Nat) (h : I n s) : wpAny (model prog w) A (exec (.While test body orelse pos) env) Q E s := by
  refine wpAny_While (codeAny_whileLoop I (fun n s hI => ?_) n h)
  refine wpAny_mono (turn n s hI) (fun b s₂ h₂ => ?_) (fun _ _ q => q.elim)
  cases b with
  | false =>
    rw [if_neg Bool.false_ne_true] at h₂ ⊢
    exact wpAny_mono h₂ (fun _ _ q => q) (fun _ _ q => q.elim)
  | true =>
    rw [if_pos rfl] at h₂ ⊢
    refine wpAny_mono h₂ (fun f s₃ q => ?_) (fun _ _ q => q.elim)
    cases f <;> exact q
/-- the same, the turn's end kept shut: a post with the invariant in it would stand anew in each step's term -/
theorem while_indP {test : PySem.Expr} {body orelse : List Stmt} {pos : Pos} {Q : Flow → Shared → Prop} (I : Nat → Shared → Prop)
    (turn : ∀ (PP : Flow → Shared → Prop) n s, (∀ f s', WEnd I n Q f s' → PP f s') → I n s → wpAny (model prog w) A (isTrue test env (eval test env)) (fun b s₂ => if b = true then wpAny (model prog w) A (execs body env) PP (fun _ _ => False) s₂ else wpAny (model prog w) A (execs orelse env) Q (fun _ _ => False) s₂) (fun _ _ => False) s)
    (n : Nat) (h : I n s) : wpAny (model prog w) A (exec (.While test body orelse pos) env) Q E s :=
  while_ind I (fun n s hI => turn (WEnd I n Q) n s (fun _ _ q => q) hI) n h
/-- the iterator's object at the i-th item of the list l -/
def IterO (l : Addr) (i : Nat) (o : Obj) : Prop := o.cls = .type "list_iterator" ∧ o.data = .fields #[.ref l, .int i 0]
/-- a turn's end: what stands is told by J -/
def FEnd (h₀ : Heap) (L it : Addr) (o : Obj) (g : Array GenState) (d : Drawn) (os : OsState) (J : (PySem.Str → Option Value) → List (Addr × Obj) → Nat → Prop) (Q : Flow → Shared → Prop) (f : Flow) (s : Shared) : Prop := match f with
  | .brk => Q .next s
  | .ret v => Q (.ret v) s
  | _ => ∃ h' tk' m' nw, s = ⟨h', g, d, tk', os⟩ ∧ Fr h₀ L h' m' ∧ News h₀ L h' ((it, o) :: nw) ∧ (∀ p ∈ nw, p.1 ≠ it) ∧ J m' nw tk'
theorem News.sub {h₀ h : Heap} {L : Addr} {a b : List (Addr × Obj)} (N : News h₀ L h a) (hs : ∀ p ∈ b, p ∈ a) : News h₀ L h b := fun p hp => N p (hs p hp)
theorem for_list {nm : PySem.Str} {sc : Scope} {L a : Addr} {cd : Value} {h₀ hp : Heap} {g : Array GenState} {d : Drawn} {tk : Nat} {os : OsState} {x : PySem.Str} {px : Pos} {ax : Addr} {items : List Value} {body : List Stmt} {Q : Flow → Shared → Prop}
    {m : PySem.Str → Option Value} {news : List (Addr × Obj)}
    (J : Nat → (PySem.Str → Option Value) → List (Addr × Obj) → Nat → Prop)
    (hh : A.handled = none) (hk : sc.kind = .function) (hx : (envOf nm sc L a cd).kindOf x = some .local)
    (F : Fr h₀ L hp m) (N : News h₀ L hp news) (hl : hp.IsList ax items.toArray)
    (hst : ∀ i m₁ nw tk₁ h₁, J i m₁ nw tk₁ → Fr h₀ L h₁ m₁ → News h₀ L h₁ nw → h₁.IsList ax items.toArray)
    (h0 : J 0 m news tk)
    (turn : ∀ i v m₁ nw tk₁ h₁ it o, items[i]? = some v → J i m₁ nw tk₁ → IterO ax (i + 1) o → (∀ p ∈ nw, p.1 ≠ it) → Fr h₀ L h₁ (fun y => if y = x then some v else m₁ y) → News h₀ L h₁ ((it, o) :: nw) →
      wpAny (model prog w) A (execs body (envOf nm sc L a cd)) (FEnd h₀ L it o g d os (J (i + 1)) Q) (fun _ _ => False) ⟨h₁, g, d, tk₁ + 1, os⟩)
    (done : ∀ m₁ nw tk₁ h₁, J items.length m₁ nw tk₁ → Fr h₀ L h₁ m₁ → News h₀ L h₁ nw → Q .next ⟨h₁, g, d, tk₁, os⟩) :
    wpAny (model prog w) A (pyIter (.ref ax)) (fun itv s₂ => codeAny (model prog w) A (.forLoop (.Name x px) itv body [] (envOf nm sc L a cd)) (fun r s' => match r with | .ok f => Q f s' | .error e => cameBackBy (model prog w) A (envOf nm sc L a cd) E e s') s₂) E ⟨hp, g, d, tk, os⟩ := by
  refine wpAny_pyIter_list hl ?_
  dsimp only
  have F1 := F.push ({ cls := .type "list_iterator", data := .fields #[.ref ax, .int 0 0] } : Obj)
  have N1 := News.push F N ({ cls := .type "list_iterator", data := .fields #[.ref ax, .int 0 0] } : Obj)
  have hlt : ∀ p ∈ news, p.1 ≠ hp.objs.size := fun p hp' => Nat.ne_of_lt (Heap.lt_size (N p hp').1)
  obtain ⟨ol, hol, _⟩ := id hl
  have hax : ax ≠ hp.objs.size := Nat.ne_of_lt (Heap.lt_size hol)
  refine codeAny_forLoop (fun n s' => ∃ h₁ tk₁ m₁ nw i o, s' = ⟨h₁, g, d, tk₁, os⟩ ∧ IterO ax i o ∧ Fr h₀ L h₁ m₁ ∧ News h₀ L h₁ ((hp.objs.size, o) :: nw) ∧ (∀ p ∈ nw, p.1 ≠ hp.objs.size) ∧ J i m₁ nw tk₁ ∧ i ≤ items.length ∧ n = items.length + 1 - i) ?_ (items.length + 1)
    ⟨_, tk, m, news, 0, _, rfl, ⟨rfl, rfl⟩, F1, N1, hlt, h0, Nat.zero_le _, rfl⟩
  rintro n s' ⟨h₁, tk₁, m₁, nw, i, o, rfl, hO, F₁, N₁, hnw, hJ, hi, rfl⟩
  have hit : h₁.IsListIter hp.objs.size ax i := ⟨o, (N₁ _ (.head _)).1, hO.1, hO.2⟩
  have hl₁ := hst i m₁ nw tk₁ h₁ hJ F₁ (News.sub N₁ fun p hp' => .tail _ hp')
  have hitL : hp.objs.size ≠ L := (N₁ _ (.head _)).2.1
  have hit0 : h₀.get? hp.objs.size = none := (N₁ _ (.head _)).2.2
  cases hv : items[i]? with
  | none =>
    have hsz : i = items.length := Nat.le_antisymm hi (by simpa using hv)
    refine wpAny_pyNext_list_end hh hit hl₁ (by simpa using hv) fun h₂ he₂ => wpAny_execs_nil ?_
    have F₂ : Fr h₀ L h₂ m₁ := ⟨F₁.ns.extBut he₂ (Ne.symm hitL), fun b o' e => he₂ b o' (fun q => by rw [q, hit0] at e; cases e) (F₁.keep b o' e), F₁.above⟩
    have N₂ : News h₀ L h₂ nw := fun p hp' => ⟨he₂ _ _ (hnw p hp') (N₁ p (.tail _ hp')).1, (N₁ p (.tail _ hp')).2⟩
    exact done m₁ nw tk₁ h₂ (hsz ▸ hJ) F₂ N₂
  | some v =>
    have hlt' : i < items.length := (List.getElem?_eq_some_iff.mp hv).1
    refine wpAny_pyNext_list_item hit hl₁ (by simpa using hv) fun h₂ hit₂ hs₂ => ?_
    obtain ⟨o₂, ho₂, hc₂, hd₂⟩ := hit₂
    have F₂ : Fr h₀ L h₂ m₁ := ⟨F₁.ns.sameBut hs₂ (Ne.symm hitL), fun b o' e => (hs₂.2 b (fun q => by rw [q, hit0] at e; cases e)).trans (F₁.keep b o' e), F₁.above⟩
    have N₂ : News h₀ L h₂ ((hp.objs.size, o₂) :: nw) := by
      intro p hp'
      rcases List.mem_cons.mp hp' with rfl | hp'
      · exact ⟨ho₂, hitL, hit0⟩
      · exact ⟨(hs₂.2 _ (hnw p hp')).trans (N₁ p (.tail _ hp')).1, (N₁ p (.tail _ hp')).2⟩
    refine wpAny_assign_Name (stN F₂ N₂ (fun h₃ F₃ N₃ => ?_) hk hx)
    refine wpAny_mono (turn i v m₁ nw tk₁ h₃ hp.objs.size o₂ hv hJ ⟨hc₂, hd₂⟩ hnw F₃ N₃) (fun f s₃ q => ?_) (fun _ _ q => q.elim)
    cases f with
    | brk => exact q
    | ret v => exact q
    | next =>
      obtain ⟨h', tk', m', nw', rfl, F', N', hn', hJ'⟩ := q
      exact ⟨items.length + 1 - (i + 1), by omega, h', tk', m', nw', i + 1, o₂, rfl, ⟨hc₂, hd₂⟩, F', N', hn', hJ', hlt', rfl⟩
    | cont =>
      obtain ⟨h', tk', m', nw', rfl, F', N', hn', hJ'⟩ := q
      exact ⟨items.length + 1 - (i + 1), by omega, h', tk', m', nw', i + 1, o₂, rfl, ⟨hc₂, hd₂⟩, F', N', hn', hJ', hlt', rfl⟩
end
/-- what the frame's map holds -/
def Bnd (m : PySem.Str → Option Value) : List (PySem.Str × Value) → Prop
  | [] => True
  | p :: r => m p.1 = some p.2 ∧ Bnd m r
theorem Bnd.look {m : PySem.Str → Option Value} : ∀ {kv : List (PySem.Str × Value)}, Bnd m kv → ∀ {x : PySem.Str} {v : Value}, kv.lookup x = some v → m x = some v
  | [], _, x, v, h => by cases h
  | (y, u) :: r, hb, x, v, h => by
    rw [List.lookup_cons] at h
    cases q : x == y with
    | true =>
      rw [q] at h
      cases h
      rw [eq_of_beq q]; exact hb.1
    | false => rw [q] at h; exact Bnd.look hb.2 h
theorem Bnd.put {m : PySem.Str → Option Value} {x : PySem.Str} (v : Value) : ∀ {kv : List (PySem.Str × Value)}, Bnd m kv → (kv.all fun p => p.1 != x) = true → Bnd (fun y => if y = x then some v else m y) kv
  | [], _, _ => trivial
  | (y, u) :: r, hb, h => by
    rw [List.all_cons, Bool.and_eq_true] at h
    have hne : y ≠ x := by simpa using h.1
    exact ⟨by show (if y = x then some v else m y) = some u; rw [if_neg hne]; exact hb.1, Bnd.put v hb.2 h.2⟩
theorem Fr.nf {h₀ h : Heap} {L : Addr} {m : PySem.Str → Option Value} {kv : List (PySem.Str × Value)} (F : Fr h₀ L h m) (hb : Bnd m kv) : Fr h₀ L h (fun y => match kv.lookup y with | some v => some v | none => m y) :=
  Fr.congr F fun y => by
    cases q : kv.lookup y with
    | none => rfl
    | some v => exact hb.look q
/-- the frame in a turn: the loop's name, and what stood -/
theorem Fr.turn {h₀ h : Heap} {L : Addr} {m : PySem.Str → Option Value} {kv : List (PySem.Str × Value)} {x : PySem.Str} {v : Value} (F : Fr h₀ L h (fun y => if y = x then some v else m y)) (hb : Bnd m kv) (hx : (kv.all fun p => p.1 != x) = true) :
    Fr h₀ L h (fun y => match ((x, v) :: kv).lookup y with | some v => some v | none => m y) :=
  Fr.congr (Fr.nf F (kv := (x, v) :: kv) ⟨if_pos rfl, hb.put v hx⟩) fun y => by
    cases q : ((x, v) :: kv).lookup y with
    | some u => rfl
    | none =>
      have : y ≠ x := fun e => by rw [e, List.lookup_cons] at q; simp at q
      exact if_neg this
theorem pick_tail (v : Value) (vs : List Value) : kms_pick (v :: vs) (some 1) none = vs := by
  unfold kms_pick kms_lo kms_hi
  have h1 : ¬ ((1 : Int) < 0) := by decide
  simp only [h1, if_false]
  have h2 : min (1 : Int).toNat (v :: vs).length = 1 := by
    show min 1 _ = 1
    simp
  rw [h2]
  simp
section
variable {prog : Program} {w : World} {A : Around} {E : Value → Shared → Prop} {s : Shared} {env : Env}
theorem for_striter {nm : PySem.Str} {sc : Scope} {L a : Addr} {cd : Value} {h₀ hp : Heap} {g : Array GenState} {d : Drawn} {tk : Nat} {os : OsState} {x : PySem.Str} {px : Pos} {y : PySem.Str} {t it : Nat} {ty : String} {body : List Stmt} {Q : Flow → Shared → Prop}
    {m : PySem.Str → Option Value} {news : List (Addr × Obj)} {o₀ : Obj}
    (J : Nat → (PySem.Str → Option Value) → List (Addr × Obj) → Nat → Prop)
    (hk : sc.kind = .function) (hx : (envOf nm sc L a cd).kindOf x = some .local)
    (hitem : ∀ {s : Shared} {i c : Nat} {Q : Option Value → Shared → Prop} {E : Value → Shared → Prop}, s.heap.IsStrIter it ty y t i → y.cps[i]? = some c → (∀ h', h'.IsStrIter it ty y t (i + 1) → Heap.SameBut it s.heap h' → Q (some (.str ⟨#[c]⟩ s.toks)) { s with heap := h', toks := s.toks + 1 }) → wpAny (model prog w) A (pyNext (.ref it)) Q E s)
    (hend : ∀ {s : Shared} {i : Nat} {Q : Option Value → Shared → Prop} {E : Value → Shared → Prop}, s.heap.IsStrIter it ty y t i → y.cps[i]? = none → (∀ h', Heap.ExtBut it s.heap h' → Q none { s with heap := h' }) → wpAny (model prog w) A (pyNext (.ref it)) Q E s)
    (F1 : Fr h₀ L hp m) (N1 : News h₀ L hp ((it, o₀) :: news)) (hlt : ∀ p ∈ news, p.1 ≠ it) (hi0 : hp.IsStrIter it ty y t 0)
    (h0 : J 0 m news tk)
    (turn : ∀ i c m₁ nw tk₁ h₁ o (t' : Nat), y.cps[i]? = some c → J i m₁ nw tk₁ → (∀ p ∈ nw, p.1 ≠ it) → Fr h₀ L h₁ (fun z => if z = x then some (.str (S [c]) t') else m₁ z) → News h₀ L h₁ ((it, o) :: nw) →
      wpAny (model prog w) A (execs body (envOf nm sc L a cd)) (FEnd h₀ L it o g d os (J (i + 1)) Q) (fun _ _ => False) ⟨h₁, g, d, tk₁ + 2, os⟩)
    (done : ∀ m₁ nw tk₁ h₁, J y.cps.size m₁ nw tk₁ → Fr h₀ L h₁ m₁ → News h₀ L h₁ nw → Q .next ⟨h₁, g, d, tk₁, os⟩) :
    codeAny (model prog w) A (.forLoop (.Name x px) (.ref it) body [] (envOf nm sc L a cd)) (fun r s' => match r with | .ok f => Q f s' | .error e => cameBackBy (model prog w) A (envOf nm sc L a cd) E e s') ⟨hp, g, d, tk, os⟩ := by
  refine codeAny_forLoop (fun n s' => ∃ h₁ tk₁ m₁ nw i o, s' = ⟨h₁, g, d, tk₁, os⟩ ∧ h₁.IsStrIter it ty y t i ∧ Fr h₀ L h₁ m₁ ∧ News h₀ L h₁ ((it, o) :: nw) ∧ (∀ p ∈ nw, p.1 ≠ it) ∧ J i m₁ nw tk₁ ∧ i ≤ y.cps.size ∧ n = y.cps.size + 1 - i) ?_ (y.cps.size + 1)
    ⟨_, tk, m, news, 0, _, rfl, hi0, F1, N1, hlt, h0, Nat.zero_le _, rfl⟩
  rintro n s' ⟨h₁, tk₁, m₁, nw, i, o, rfl, hit, F₁, N₁, hnw, hJ, hi, rfl⟩
  have hitL : it ≠ L := (N₁ _ (.head _)).2.1
  have hit0 : h₀.get? it = none := (N₁ _ (.head _)).2.2
  cases hv : y.cps[i]? with
  | none =>
    have hsz : i = y.cps.size := Nat.le_antisymm hi (by simpa using hv)
    refine hend (s := ⟨h₁, g, d, tk₁, os⟩) hit hv fun h₂ he₂ => wpAny_execs_nil ?_
    have F₂ : Fr h₀ L h₂ m₁ := ⟨F₁.ns.extBut he₂ (Ne.symm hitL), fun b o' e => he₂ b o' (fun q => by rw [q, hit0] at e; cases e) (F₁.keep b o' e), F₁.above⟩
    have N₂ : News h₀ L h₂ nw := fun p hp' => ⟨he₂ _ _ (hnw p hp') (N₁ p (.tail _ hp')).1, (N₁ p (.tail _ hp')).2⟩
    exact done m₁ nw tk₁ h₂ (hsz ▸ hJ) F₂ N₂
  | some c =>
    have hlt' : i < y.cps.size := (Array.getElem?_eq_some_iff.mp hv).1
    refine hitem (s := ⟨h₁, g, d, tk₁, os⟩) hit hv fun h₂ hit₂ hs₂ => ?_
    obtain ⟨o₂, ho₂, hc₂, hd₂⟩ := hit₂
    have F₂ : Fr h₀ L h₂ m₁ := ⟨F₁.ns.sameBut hs₂ (Ne.symm hitL), fun b o' e => (hs₂.2 b (fun q => by rw [q, hit0] at e; cases e)).trans (F₁.keep b o' e), F₁.above⟩
    have N₂ : News h₀ L h₂ ((it, o₂) :: nw) := by
      intro p hp'
      rcases List.mem_cons.mp hp' with rfl | hp'
      · exact ⟨ho₂, hitL, hit0⟩
      · exact ⟨(hs₂.2 _ (hnw p hp')).trans (N₁ p (.tail _ hp')).1, (N₁ p (.tail _ hp')).2⟩
    refine wpAny_assign_Name (stN F₂ N₂ (fun h₃ F₃ N₃ => ?_) hk hx)
    refine wpAny_mono (turn i c m₁ nw tk₁ h₃ o₂ tk₁ hv hJ hnw F₃ N₃) (fun f s₃ q => ?_) (fun _ _ q => q.elim)
    cases f with
    | brk => exact q
    | ret v => exact q
    | next =>
      obtain ⟨h', tk', m', nw', rfl, F', N', hn', hJ'⟩ := q
      exact ⟨y.cps.size + 1 - (i + 1), by omega, h', tk', m', nw', i + 1, o₂, rfl, ⟨o₂, (N' _ (.head _)).1, hc₂, hd₂⟩, F', N', hn', hJ', hlt', rfl⟩
    | cont =>
      obtain ⟨h', tk', m', nw', rfl, F', N', hn', hJ'⟩ := q
      exact ⟨y.cps.size + 1 - (i + 1), by omega, h', tk', m', nw', i + 1, o₂, rfl, ⟨o₂, (N' _ (.head _)).1, hc₂, hd₂⟩, F', N', hn', hJ', hlt', rfl⟩
theorem for_str {nm : PySem.Str} {sc : Scope} {L a : Addr} {cd : Value} {h₀ hp : Heap} {g : Array GenState} {d : Drawn} {tk : Nat} {os : OsState} {x : PySem.Str} {px : Pos} {y : PySem.Str} {t : Nat} {body : List Stmt} {Q : Flow → Shared → Prop}
    {m : PySem.Str → Option Value} {news : List (Addr × Obj)}
    (J : Nat → (PySem.Str → Option Value) → List (Addr × Obj) → Nat → Prop)
    (hh : A.handled = none) (hk : sc.kind = .function) (hx : (envOf nm sc L a cd).kindOf x = some .local)
    (F : Fr h₀ L hp m) (N : News h₀ L hp news)
    (h0 : J 0 m news tk)
    (turn : ∀ i c m₁ nw tk₁ h₁ it o (t' : Nat), y.cps[i]? = some c → J i m₁ nw tk₁ → (∀ p ∈ nw, p.1 ≠ it) → Fr h₀ L h₁ (fun z => if z = x then some (.str (S [c]) t') else m₁ z) → News h₀ L h₁ ((it, o) :: nw) →
      wpAny (model prog w) A (execs body (envOf nm sc L a cd)) (FEnd h₀ L it o g d os (J (i + 1)) Q) (fun _ _ => False) ⟨h₁, g, d, tk₁ + 2, os⟩)
    (done : ∀ m₁ nw tk₁ h₁, J y.cps.size m₁ nw tk₁ → Fr h₀ L h₁ m₁ → News h₀ L h₁ nw → Q .next ⟨h₁, g, d, tk₁, os⟩) :
    wpAny (model prog w) A (pyIter (.str y t)) (fun itv s₂ => codeAny (model prog w) A (.forLoop (.Name x px) itv body [] (envOf nm sc L a cd)) (fun r s' => match r with | .ok f => Q f s' | .error e => cameBackBy (model prog w) A (envOf nm sc L a cd) E e s') s₂) E ⟨hp, g, d, tk, os⟩ := by
  have hlt : ∀ p ∈ news, p.1 ≠ hp.objs.size := fun p hp' => Nat.ne_of_lt (Heap.lt_size (N p hp').1)
  cases ha : y.cps.all (· < 128) with
  | true =>
    refine wpAny_pyIter_ascii ha ?_
    dsimp only
    exact for_striter J hk hx (fun h1 h2 h3 => wpAny_pyNext_ascii_item h1 h2 h3) (fun h1 h2 h3 => wpAny_pyNext_ascii_end hh h1 h2 h3) (F.push _) (News.push F N _) hlt ⟨_, Heap.get?_push_size _ rfl, rfl, rfl⟩ h0 (fun i c m₁ nw tk₁ h₁ o t' => turn i c m₁ nw tk₁ h₁ _ o t') done
  | false =>
    refine wpAny_pyIter_wide ha ?_
    dsimp only
    exact for_striter J hk hx (fun h1 h2 h3 => wpAny_pyNext_wide_item h1 h2 h3) (fun h1 h2 h3 => wpAny_pyNext_wide_end hh h1 h2 h3) (F.push _) (News.push F N _) hlt ⟨_, Heap.get?_push_size _ rfl, rfl, rfl⟩ h0 (fun i c m₁ nw tk₁ h₁ o t' => turn i c m₁ nw tk₁ h₁ _ o t') done
end
end

/-! part LRules -/
section
section
open Builtin Builtin.Str
theorem tslice_ss (l : List Nat) {a b : Nat} (hab : a ≤ b) : Txt.slice (S l) (some (a : Int)) (some (b : Int)) = S ((l.drop a).take (b - a)) := by
  have hn : (S l).length = l.length := S_len l
  have e : strSliceIndices (some (a : Int)) (some (b : Int)) 1 (S l).length = strSliceIndices (some ((min a l.length : Nat) : Int)) (some ((min b l.length : Nat) : Int)) 1 (S l).length := by
    rw [hn]
    unfold strSliceIndices
    have h1 : ¬ ((a : Int) < 0) := by omega
    have h2 : ¬ ((b : Int) < 0) := by omega
    have h3 : ¬ (((min a l.length : Nat) : Int) < 0) := by omega
    have h4 : ¬ (((min b l.length : Nat) : Int) < 0) := by omega
    simp only [h1, h2, h3, h4, if_false, show ((1 : Int) > 0) = True from by simp, if_true]
    congr 1 <;> omega
  have e2 : Txt.slice (S l) (some (a : Int)) (some (b : Int)) = Txt.slice (S l) (some ((min a l.length : Nat) : Int)) (some ((min b l.length : Nat) : Int)) := by
    unfold Txt.slice; rw [e]
  have h := slice_closesL (x := S l) (i := ((min a l.length : Nat) : Int)) (j := ((min b l.length : Nat) : Int)) (by omega) (by omega) (by rw [hn]; omega)
  rw [e2, eq_of_beq h]
  refine congrArg (fun q : List Nat => (⟨q.toArray⟩ : PySem.Str)) ?_
  show ((S l).cps.toList.drop _).take _ = _
  have e3 : (S l).cps.toList = l := by simp
  rw [e3]
  have h5 : ((min a l.length : Nat) : Int).toNat = min a l.length := by omega
  have h6 : (((min b l.length : Nat) : Int) - ((min a l.length : Nat) : Int)).toNat = min b l.length - min a l.length := by omega
  rw [h5, h6]
  by_cases ha : a ≤ l.length
  · rw [Nat.min_eq_left ha]
    by_cases hb : b ≤ l.length
    · rw [Nat.min_eq_left hb]
    · rw [Nat.min_eq_right (by omega), List.take_of_length_le (by simp), List.take_of_length_le (by simp; omega)]
  · rw [Nat.min_eq_right (by omega), Nat.min_eq_right (by omega), List.drop_of_length_le (Nat.le_refl _), List.drop_of_length_le (by omega)]
    simp
theorem tslice_sn (l : List Nat) (a : Nat) : Txt.slice (S l) (some (a : Int)) none = S (l.drop a) := by
  have e : Txt.slice (S l) (some (a : Int)) none = Txt.slice (S l) (some (a : Int)) (some ((S l).length : Int)) := by
    unfold Txt.slice; rw [StrLaws.sliceIdx_none_hi]
  rw [e, S_len]
  by_cases ha : a ≤ l.length
  · rw [tslice_ss l ha, List.take_of_length_le (by simp)]
  · have e2 : Txt.slice (S l) (some (a : Int)) (some (l.length : Int)) = Txt.slice (S l) (some (l.length : Int)) (some (l.length : Int)) := by
      unfold Txt.slice
      have : strSliceIndices (some (a : Int)) (some (l.length : Int)) 1 (S l).length = strSliceIndices (some (l.length : Int)) (some (l.length : Int)) 1 (S l).length := by
        rw [S_len]
        unfold strSliceIndices
        have h1 : ¬ ((a : Int) < 0) := by omega
        have h2 : ¬ ((l.length : Int) < 0) := by omega
        simp only [h1, h2, if_false, show ((1 : Int) > 0) = True from by simp, if_true]
        congr 1; omega
      rw [this]
    have e3 : l.drop a = [] := List.drop_of_length_le (by omega)
    rw [e2, tslice_ss l (Nat.le_refl _), e3]
    simp
theorem tslice_ns (l : List Nat) (b : Nat) : Txt.slice (S l) none (some (b : Int)) = S (l.take b) := by
  have e : Txt.slice (S l) none (some (b : Int)) = Txt.slice (S l) (some ((0 : Nat) : Int)) (some (b : Int)) := by
    unfold Txt.slice; rw [StrLaws.sliceIdx_none_lo]; rfl
  rw [e, tslice_ss l (Nat.zero_le _)]; simp
end
section
variable {prog : Program} {w : World} {A : Around} {E : Value → Shared → Prop} {s : Shared} {value slice : PySem.Expr} {l : List Nat} {t : Nat} {h₀ : Heap} {L : Addr} {m : PySem.Str → Option Value} {news : List (Addr × Obj)} {Q : Value → Shared → Prop}
theorem tsl_ns {j : Int} {uj : Nat} (hF : Fr h₀ L s.heap m) (hN : News h₀ L s.heap news) (hj : 0 ≤ j) (hl : l.length ≤ 16777216) (h : ∀ h' (t' k : Nat), Fr h₀ L h' m → News h₀ L h' news → Q (.str (S (l.take j.toNat)) t') { s with heap := h', toks := k })
    (hs : subscripted slice false (.str (S l) t) (.ref s.heap.objs.size) = operate [.ref s.heap.objs.size, .str (S l) t] (getItem (.str (S l) t) (.ref s.heap.objs.size)))
    (ht : ∀ r, letTemporaryGo value (.str (S l) t) r = pure ()) :
    wpAny (model prog w) A (subscriptTail value slice (.str (S l) t) (.ref s.heap.objs.size)) Q E { s with heap := s.heap.push { cls := .type "slice", data := .fields #[.none, .int j uj, .none] } } := by
  have e2 : sizeLine = 16777216 := by decide
  obtain ⟨b, rfl⟩ : ∃ b : Nat, j = (b : Int) := ⟨j.toNat, by omega⟩
  refine slice_strN_ns hF hN (fun h' t' k F' N' => ?_) hs ht (by rw [S_len, e2]; exact hl)
  rw [tslice_ns]; exact h h' t' k F' N'
theorem tsl_sn {i : Int} {ui : Nat} (hF : Fr h₀ L s.heap m) (hN : News h₀ L s.heap news) (hi : 0 ≤ i) (hl : l.length ≤ 16777216) (h : ∀ h' (t' k : Nat), Fr h₀ L h' m → News h₀ L h' news → Q (.str (S (l.drop i.toNat)) t') { s with heap := h', toks := k })
    (hs : subscripted slice false (.str (S l) t) (.ref s.heap.objs.size) = operate [.ref s.heap.objs.size, .str (S l) t] (getItem (.str (S l) t) (.ref s.heap.objs.size)))
    (ht : ∀ r, letTemporaryGo value (.str (S l) t) r = pure ()) :
    wpAny (model prog w) A (subscriptTail value slice (.str (S l) t) (.ref s.heap.objs.size)) Q E { s with heap := s.heap.push { cls := .type "slice", data := .fields #[.int i ui, .none, .none] } } := by
  have e2 : sizeLine = 16777216 := by decide
  obtain ⟨b, rfl⟩ : ∃ b : Nat, i = (b : Int) := ⟨i.toNat, by omega⟩
  refine slice_strN_sn hF hN (fun h' t' k F' N' => ?_) hs ht (by rw [S_len, e2]; exact hl)
  rw [tslice_sn]; exact h h' t' k F' N'
theorem tsl_ss {i j : Int} {ui uj : Nat} (hF : Fr h₀ L s.heap m) (hN : News h₀ L s.heap news) (hi : 0 ≤ i) (hij : i ≤ j) (hl : l.length ≤ 16777216) (h : ∀ h' (t' k : Nat), Fr h₀ L h' m → News h₀ L h' news → Q (.str (S ((l.drop i.toNat).take (j - i).toNat)) t') { s with heap := h', toks := k })
    (hs : subscripted slice false (.str (S l) t) (.ref s.heap.objs.size) = operate [.ref s.heap.objs.size, .str (S l) t] (getItem (.str (S l) t) (.ref s.heap.objs.size)))
    (ht : ∀ r, letTemporaryGo value (.str (S l) t) r = pure ()) :
    wpAny (model prog w) A (subscriptTail value slice (.str (S l) t) (.ref s.heap.objs.size)) Q E { s with heap := s.heap.push { cls := .type "slice", data := .fields #[.int i ui, .int j uj, .none] } } := by
  have e2 : sizeLine = 16777216 := by decide
  obtain ⟨a, rfl⟩ : ∃ b : Nat, i = (b : Int) := ⟨i.toNat, by omega⟩
  obtain ⟨b, rfl⟩ : ∃ b : Nat, j = (b : Int) := ⟨j.toNat, by omega⟩
  refine slice_strN_ss hF hN (fun h' t' k F' N' => ?_) hs ht (by rw [S_len, e2]; exact hl)
  rw [tslice_ss _ (by omega)]
  have := h h' t' k F' N'
  rw [show ((b : Int) - (a : Int)).toNat = b - a by omega, Int.toNat_natCast] at this
  exact this
theorem lsl {lst : Addr} {vs : List Value} {vl vu : Value} {lo hi : Option Int} (F : Fr h₀ L s.heap m) (N : News h₀ L s.heap news) (hl : s.heap.IsList lst vs.toArray) (pl : IsPart vl lo) (pu : IsPart vu hi) (hz : vs.length ≤ 16777216)
    (h : ∀ D h', Fr h₀ L h' m → News h₀ L h' ((D, listOf (kms_pick vs lo hi).toArray 0) :: news) → (∀ p ∈ news, p.1 < D) → Q (.ref D) { s with heap := h' })
    (hs : subscripted slice false (.ref lst) (.ref s.heap.objs.size) = operate [.ref s.heap.objs.size, .ref lst] (getItem (.ref lst) (.ref s.heap.objs.size))) (ht : ∀ r, letTemporaryGo value (.ref lst) r = pure ()) :
    wpAny (model prog w) A (subscriptTail value slice (.ref lst) (.ref s.heap.objs.size)) Q E { s with heap := s.heap.push { cls := .type "slice", data := .fields #[vl, vu, .none] } } := by
  have e2 : sizeLine = 16777216 := by decide
  exact kms_slice_lit F N hl pl pu (zs := kms_pick vs lo hi) rfl h hs ht (by rw [e2]; simpa using hz)
theorem ladd {a b : Addr} {vs ws : List Value} (F : Fr h₀ L s.heap m) (N : News h₀ L s.heap news) (ha : s.heap.IsList a vs.toArray) (hb : s.heap.IsList b ws.toArray) (hz : vs.length + ws.length ≤ 16777216)
    (h : ∀ D h', Fr h₀ L h' m → News h₀ L h' ((D, listOf (vs ++ ws).toArray 0) :: news) → (∀ p ∈ news, p.1 < D) → Q (.ref D) { s with heap := h' }) : wpAny (model prog w) A (binaryOp .Add (.ref a) (.ref b)) Q E s := by
  have e2 : sizeLine = 16777216 := by decide
  exact kmk_add_lit F N ha hb (zs := vs ++ ws) (by simp) h (by rw [e2]; simpa using hz)
theorem lappend {D : Addr} {vs : List Value} {n : Nat} {x : Value} {news' : List (Addr × Obj)} (F : Fr h₀ L s.heap m) (N : News h₀ L s.heap news) (U : Upd D (listOf vs.toArray n) (listOf (vs ++ [x]).toArray (n + 1)) news news') (hz : vs.length ≤ 16777216)
    (h : ∀ h', Fr h₀ L h' m → News h₀ L h' news' → Q .none { s with heap := h' }) : wpAny (model prog w) A (call (.builtin "list.append") [.ref D, x]) Q E s := by
  have e2 : sizeLine = 16777216 := by decide
  refine append_K F N (its := vs.toArray) (n := n) (x := x) (news' := news') ?_ h (by rw [e2]; simpa using hz)
  rw [List.push_toArray]; exact U
theorem litem {lst : Addr} {vs : List Value} {k : Int} {u : Nat} {v : Value} (hl : s.heap.IsList lst vs.toArray) (h0 : 0 ≤ k) (hhi : k < 2 ^ 63) (hx : vs[k.toNat]? = some v) (h : Q v s)
    (hs : subscripted slice false (.ref lst) (.int k u) = operate [.ref lst, .int k u] (getItem (.ref lst) (.int k u))) :
    wpAny (model prog w) A (subscriptTail value slice (.ref lst) (.int k u)) Q E s :=
  tail_any hl.typeIs slot_list_getitem.lookup (wpAny_getItem_list hl h0 hhi (by simpa using hx) h) hs
theorem splitS {x y : List Nat} {ys : PySem.Str} {u : Nat} (F : Fr h₀ L s.heap m) (N : News h₀ L s.heap news) (hy : ys = S y) (hy0 : y ≠ []) (ha : ∀ c ∈ y, c < 256) (hx : x.length ≤ 8000000)
    (h : ∀ (D : Addr) (ps : List (PySem.Str × Nat)) h' (k : Nat), ps.map (·.1) = (spl y x).map S → Fr h₀ L h' m → News h₀ L h' ((D, listOf (strValues ps).toArray 0) :: news) → (∀ p ∈ news, p.1 < D) → Q (.ref D) { s with heap := h', toks := k }) :
    wpAny (model prog w) A (call (.builtin "str.split") [.str (S x) t, .str ys u]) Q E s := by
  have e2 : sizeLine = 16777216 := by decide
  subst hy
  refine splitN1 F N ?_ (fun l h' k e1 F' N' => h _ l h' k (by rw [e1, split_S hy0 ha]) F' N' fun p hp => Heap.lt_size (N p hp).1) (by rw [S_len, e2]; omega)
  rw [S_len]
  cases y with
  | nil => exact absurd rfl hy0
  | cons a b => rfl
end
section
variable {prog : Program} {w : World} {A : Around} {E : Value → Shared → Prop} {s : Shared} {h₀ : Heap} {L : Addr} {m : PySem.Str → Option Value} {news : List (Addr × Obj)} {Q : Value → Shared → Prop}
theorem head_vals {ps : List (PySem.Str × Nat)} {ls : List (List Nat)} {n : List Nat} (e : ps.map (·.1) = ls.map S) (h : ls.head? = some n) : ∃ t ps', ps = (S n, t) :: ps' ∧ ps'.map (·.1) = ls.tail.map S := by
  cases ls with
  | nil => cases h
  | cons a r =>
    cases h
    cases ps with
    | nil => cases e
    | cons p r' =>
      simp only [List.map_cons, List.cons.injEq] at e
      exact ⟨p.2, r', by rw [← e.1], e.2⟩
theorem item0 {value slice : PySem.Expr} {D : Addr} {ps : List (PySem.Str × Nat)} {ls : List (List Nat)} {n : List Nat} {u : Nat} (hl : s.heap.IsList D (strValues ps).toArray) (e : ps.map (·.1) = ls.map S) (h : ls.head? = some n) (hq : ∀ t : Nat, Q (.str (S n) t) s)
    (hs : subscripted slice false (.ref D) (.int 0 u) = operate [.ref D, .int 0 u] (getItem (.ref D) (.int 0 u))) : wpAny (model prog w) A (subscriptTail value slice (.ref D) (.int 0 u)) Q E s := by
  obtain ⟨t, ps', rfl, _⟩ := head_vals e h
  exact litem hl (by decide) (by decide) rfl (hq t) hs
theorem notin_mem {l : List Nat} {c : Nat} {y : PySem.Str} {t u : Nat} (hy : y = S [c]) (hm : c ∈ l) (h : Q (.bool false) s) : wpAny (model prog w) A (compareOp .NotIn (.str y u) (.str (S l) t)) Q E s := by
  subst hy
  refine notIn_str ?_
  rw [has_one, decide_eq_true hm]; exact h
theorem in_not {l : List Nat} {c : Nat} {y : PySem.Str} {t u : Nat} (hy : y = S [c]) (hm : c ∉ l) (h : Q (.bool false) s) : wpAny (model prog w) A (compareOp .In (.str y u) (.str (S l) t)) Q E s :=
  in_one hy (by rw [decide_eq_false hm]; exact h)
end
section
variable {prog : Program} {w : World} {A : Around} {E : Value → Shared → Prop} {s : Shared} {Q : Value → Shared → Prop}
theorem addN {x y : PySem.Str} {a b : List Nat} {t u : Nat} (hx : x = S a) (hy : y = S b) (hl : a.length + b.length ≤ 16777216)
    (hq : ∀ (t' k : Nat), Q (.str (S (a ++ b)) t') { s with toks := k }) : wpAny (model prog w) A (binaryOp .Add (.str x t) (.str y u)) Q E s := by
  subst hx hy
  have e : S a ++ S b = S (a ++ b) := PySem.Str.ext' (by simp [PySem.Str.cps_append])
  have e2 : sizeLine = 16777216 := by decide
  refine P.add_str ?_
  rw [e]
  by_cases h1 : ((S a).length == 0) = true
  · rw [if_pos h1]
    have : a = [] := by rw [S_len] at h1; simpa using h1
    subst this
    exact hq u s.toks
  · rw [if_neg h1]
    by_cases h2 : ((S b).length == 0) = true
    · rw [if_pos h2]
      have : b = [] := by rw [S_len] at h2; simpa using h2
      subst this
      have := hq t s.toks
      rw [List.append_nil] at this
      exact this
    · rw [if_neg h2]
      exact ⟨by rw [S_len, List.length_append, e2]; exact hl, hq _ _⟩
end
section
variable {prog : Program} {w : World} {A : Around} {E : Value → Shared → Prop} {s : Shared} {Q : Value → Shared → Prop}
theorem post_join2 {sep : PySem.Str} : ∀ (l : List (PySem.Str × Nat)), ((Txt.join sep (l.map (·.1))).length ≤ sizeLine ∧ ∀ t' k : Nat, s.toks ≤ k → Q (.str (Txt.join sep (l.map (·.1))) t') { s with toks := k }) → (joinMade sep l).post Q s
  | [], h => ⟨h.1, h.2 _ _ (Nat.le_succ _)⟩
  | [p], h => h.2 p.2 s.toks (Nat.le_refl _)
  | _ :: _ :: _, h => ⟨h.1, h.2 _ _ (Nat.le_succ _)⟩
theorem join_T (z : List Nat) (ls : List (List Nat)) : Txt.join (S z) (ls.map S) = S (jn z ls) := by
  unfold Txt.join
  rw [StrLaws.glued_eq_join, join_S]
theorem joinS {D : Addr} {ps : List (PySem.Str × Nat)} {ls : List (List Nat)} {y : PySem.Str} {z : List Nat} {t : Nat} (hl : s.heap.IsList D (strValues ps).toArray) (hp : ps.map (·.1) = ls.map S) (hy : y = S z) (hz : (ls.map List.length).sum + ls.length * z.length ≤ 16000000)
    (hq : ∀ t' k : Nat, s.toks ≤ k → Q (.str (S (jn z ls)) t') { s with toks := k }) : wpAny (model prog w) A (call (.builtin "str.join") [.str y t, .ref D]) Q E s := by
  subst hy
  have e2 : sizeLine = 16777216 := by decide
  have hf : Builtin.Str.tooLong ((ps.map (·.1)).toArray.foldl (fun a p => a + p.length + (S z).length) 0) = false := by
    rw [StrLaws.joinTotal, hp, List.map_map, List.length_map, S_len]
    have : (ls.map (PySem.Str.length ∘ S)) = ls.map List.length := List.map_congr_left fun a _ => S_len a
    rw [this]
    unfold Builtin.Str.tooLong
    exact decide_eq_false (by omega)
  refine call_meets F.slot_str_join (typeIs_str _ _ _) F.entry_str_join (F.args_str_join_2 _ _) (meets_str_join_list (S z) t D ps hf) ⟨hl, post_join2 ps ⟨joinFit_length hf, ?_⟩⟩
  rw [hp, join_T]
  exact hq
end
section
variable {prog : Program} {w : World} {A : Around} {E : Value → Shared → Prop} {s : Shared} {Q : Value → Shared → Prop} {a b : List Nat} {x y : PySem.Str} {t u : Nat}
theorem S_inj {a b : List Nat} (h : S a = S b) : a = b := by
  have := congrArg (fun z : PySem.Str => z.cps.toList) h
  simpa using this
theorem eqS (hx : x = S a) (hy : y = S b) (h : Q (.bool (decide (a = b))) s) : wpAny (model prog w) A (compareOp .Eq (.str x t) (.str y u)) Q E s := by
  subst hx hy
  refine eq_str ?_
  have : (S a == S b) = decide (a = b) := by
    by_cases q : a = b
    · subst q; simp
    · rw [decide_eq_false q]; exact beq_eq_false_iff_ne.mpr fun h => q (S_inj h)
  rw [this]; exact h
theorem neS (hx : x = S a) (hy : y = S b) (h : Q (.bool (decide (a ≠ b))) s) : wpAny (model prog w) A (compareOp .NotEq (.str x t) (.str y u)) Q E s := by
  subst hx hy
  refine ne_str ?_
  have : (S a != S b) = decide (a ≠ b) := by
    by_cases q : a = b
    · subst q; simp
    · rw [decide_eq_true q]; exact bne_iff_ne.mpr fun h => q (S_inj h)
  rw [this]; exact h
theorem eqS_t (hx : x = S a) (hy : y = S b) (he : a = b) (h : Q (.bool true) s) : wpAny (model prog w) A (compareOp .Eq (.str x t) (.str y u)) Q E s := eqS hx hy (by rw [decide_eq_true he]; exact h)
theorem eqS_f (hx : x = S a) (hy : y = S b) (he : a ≠ b) (h : Q (.bool false) s) : wpAny (model prog w) A (compareOp .Eq (.str x t) (.str y u)) Q E s := eqS hx hy (by rw [decide_eq_false he]; exact h)
theorem neS_t (hx : x = S a) (hy : y = S b) (he : a ≠ b) (h : Q (.bool true) s) : wpAny (model prog w) A (compareOp .NotEq (.str x t) (.str y u)) Q E s := neS hx hy (by rw [decide_eq_true he]; exact h)
theorem neS_f (hx : x = S a) (hy : y = S b) (he : a = b) (h : Q (.bool false) s) : wpAny (model prog w) A (compareOp .NotEq (.str x t) (.str y u)) Q E s := neS hx hy (by rw [decide_eq_false (fun q => q he)]; exact h)
end
theorem allNe {d : Addr} {l : List (Addr × Obj)} (h : ∀ p ∈ l, p.1 < d) : ∀ p ∈ l, p.1 ≠ d := fun p hp => Nat.ne_of_lt (h p hp)
theorem AllLt.to {d : Addr} (l : List (Addr × Obj)) : AllLt d l → ∀ p ∈ l, p.1 < d := by
  induction l with
  | nil => intro _ p hp; cases hp
  | cons q r ih =>
    intro h p hp
    unfold AllLt at h
    rcases List.mem_cons.mp hp with e | hp
    · rw [e]; exact h.1
    · exact ih h.2 p hp
end

/-! part P2 -/
section
def nmA (c : Nat) : Option (List Nat) :=
  if c = 38 then some [97, 109, 112] else if c = 60 then some [108, 116] else if c = 62 then some [103, 116] else
  if c = 34 then some [113, 117, 111, 116] else if c = 13 then some [35, 49, 51] else if c = 10 then some [35, 49, 48] else if c = 9 then some [35, 48, 57] else none
def nmC (c : Nat) : Option (List Nat) :=
  if c = 38 then some [97, 109, 112] else if c = 60 then some [108, 116] else if c = 62 then some [103, 116] else none
def escN (nm : Nat → Option (List Nat)) (c : Nat) : List Nat := match nm c with
  | some n => 38 :: (n ++ [59])
  | none => [c]
theorem escA_N (l : List Nat) : escA l = l.flatMap (escN nmA) := by
  refine flatMap_congr1 (fun c => ?_) l
  unfold escA1 escN nmA
  by_cases h1 : c = 38
  · subst h1; rfl
  by_cases h2 : c = 60
  · subst h2; rfl
  by_cases h3 : c = 62
  · subst h3; rfl
  by_cases h4 : c = 34
  · subst h4; rfl
  by_cases h5 : c = 13
  · subst h5; rfl
  by_cases h6 : c = 10
  · subst h6; rfl
  by_cases h7 : c = 9
  · subst h7; rfl
  simp [h1, h2, h3, h4, h5, h6, h7]
theorem escC_N (l : List Nat) : escC l = l.flatMap (escN nmC) := by
  refine flatMap_congr1 (fun c => ?_) l
  unfold escC1 escN nmC
  by_cases h1 : c = 38
  · subst h1; rfl
  by_cases h2 : c = 60
  · subst h2; rfl
  by_cases h3 : c = 62
  · subst h3; rfl
  simp [h1, h2, h3]
/-- what a table of names is held to, with the signs that mustn't stand bare -/
structure NmOk (nm : Nat → Option (List Nat)) (bare : List Nat) : Prop where
  all : ∀ c n, nm c = some n → nmA c = some n ∧ (c = 38 ∨ c ∈ bare)
  amp : nm 38 ≠ none
  free : ∀ c, nm c = none → c ∉ bare
  bare59 : 59 ∉ bare
  bareN : ∀ c n, nmA c = some n → ∀ d ∈ n, d ∉ bare
theorem nmOkA : NmOk nmA [60, 62, 34, 13, 10, 9] where
  all := fun c n h => ⟨h, by
    unfold nmA at h
    repeat' split at h
    all_goals first | (cases h; done) | (rename_i hc; subst hc; decide)⟩
  amp := by decide
  free := fun c h hm => (by decide : ∀ c ∈ [60, 62, 34, 13, 10, 9], nmA c ≠ none) c hm h
  bare59 := by decide
  bareN := fun c n h d hd => by
    unfold nmA at h
    repeat' split at h
    all_goals first | (cases h; done) | (cases h; revert d; decide)
theorem nmOkC : NmOk nmC [60, 62] where
  all := fun c n h => by
    unfold nmC at h
    repeat' split at h
    all_goals first | (cases h; done) | (rename_i hc; subst hc; cases h; decide)
  amp := by decide
  free := fun c h hm => (by decide : ∀ c ∈ [60, 62], nmC c ≠ none) c hm h
  bare59 := by decide
  bareN := fun c n h d hd => by
    unfold nmA at h
    repeat' split at h
    all_goals first | (cases h; done) | (cases h; revert d; decide)
theorem nmA_free {c : Nat} {n : List Nat} (h : nmA c = some n) : 38 ∉ n ∧ 59 ∉ n := by
  unfold nmA at h
  repeat' split at h
  all_goals first | (cases h; decide) | cases h
/-- the first piece, and each special sign with what stands behind it -/
def pcs (nm : Nat → Option (List Nat)) : List Nat → List Nat × List (Nat × List Nat)
  | [] => ([], [])
  | c :: r => match nm c with
    | some _ => ([], (c, (pcs nm r).1) :: (pcs nm r).2)
    | none => (c :: (pcs nm r).1, (pcs nm r).2)
theorem pcs_back (nm : Nat → Option (List Nat)) : ∀ l, (pcs nm l).1 ++ (pcs nm l).2.flatMap (fun q => q.1 :: q.2) = l
  | [] => rfl
  | c :: r => by
    have ih := pcs_back nm r
    rw [pcs]
    split
    · simp only [List.nil_append, List.flatMap_cons, List.cons_append]; rw [ih]
    · simp only [List.cons_append]; rw [ih]
def piece (nm : Nat → Option (List Nat)) (q : Nat × List Nat) : List Nat := (nm q.1).getD [] ++ 59 :: q.2
theorem splA_one_free (a : Nat) : ∀ (r cur rest : List Nat), a ∉ r → splA [a] 0 cur (r ++ rest) = splA [a] 0 (cur ++ r) rest
  | [], cur, rest, _ => by simp
  | c :: r, cur, rest, h => by
    simp only [List.mem_cons, not_or] at h
    have : (a == c) = false := by simpa using h.1
    rw [List.cons_append, splA, isPrefixOf_one, this, if_neg Bool.false_ne_true, splA_one_free a r _ rest h.2]
    simp
theorem splA_one_hit (a : Nat) (cur rest : List Nat) : splA [a] 0 cur (a :: rest) = cur :: splA [a] 0 [] rest := by
  rw [splA, isPrefixOf_one]; simp
theorem spl_esc {nm : Nat → Option (List Nat)} {bare : List Nat} (ok : NmOk nm bare) : ∀ (l cur : List Nat),
    splA [38] 0 cur (l.flatMap (escN nm)) = (cur ++ (pcs nm l).1) :: (pcs nm l).2.map (piece nm)
  | [], cur => by simp [splA, pcs]
  | c :: r, cur => by
    rw [List.flatMap_cons, pcs]
    cases h : nm c with
    | some n =>
      have hf := nmA_free (ok.all c n h).1
      have e : escN nm c = 38 :: (n ++ [59]) := by unfold escN; rw [h]
      rw [e, List.cons_append, splA_one_hit]
      have e2 : (n ++ [59]) ++ r.flatMap (escN nm) = (n ++ [59]) ++ r.flatMap (escN nm) := rfl
      rw [splA_one_free 38 (n ++ [59]) [] _ (by simp [hf.1]), spl_esc ok r]
      simp only [List.map_cons, piece, h, List.nil_append, List.append_nil, Option.getD_some]
      simp
    | none =>
      have hc : c ≠ 38 := fun q => by rw [q] at h; exact ok.amp h
      have e : escN nm c = [c] := by unfold escN; rw [h]
      rw [e, splA_one_free 38 [c] cur _ (by simpa using fun q => hc q.symm), spl_esc ok r]
      simp
theorem pcs_some (nm : Nat → Option (List Nat)) : ∀ (l : List Nat), ∀ q ∈ (pcs nm l).2, ∃ n, nm q.1 = some n
  | [], q, h => nomatch h
  | c :: r, q, h => by
    rw [pcs] at h
    split at h
    · rename_i n hn
      rcases List.mem_cons.mp h with rfl | h
      · exact ⟨n, hn⟩
      · exact pcs_some nm r q h
    · exact pcs_some nm r q h
theorem pcs_plain {nm : Nat → Option (List Nat)} : ∀ (l : List Nat), (∀ c ∈ (pcs nm l).1, nm c = none) ∧ ∀ q ∈ (pcs nm l).2, ∀ c ∈ q.2, nm c = none
  | [] => ⟨fun _ h => (nomatch h), fun _ h => (nomatch h)⟩
  | c :: r => by
    obtain ⟨ih1, ih2⟩ := pcs_plain r (nm := nm)
    rw [pcs]
    split
    · refine ⟨fun _ h => (nomatch h), fun q h => ?_⟩
      rcases List.mem_cons.mp h with rfl | h
      · exact ih1
      · exact ih2 q h
    · rename_i hn
      refine ⟨fun d h => ?_, ih2⟩
      rcases List.mem_cons.mp h with rfl | h
      · exact hn
      · exact ih1 d h
/-- every piece is free of bare signs -/
theorem pieces_bare {nm : Nat → Option (List Nat)} {bare : List Nat} (ok : NmOk nm bare) (l : List Nat) : ∀ p ∈ (pcs nm l).1 :: (pcs nm l).2.map (piece nm), ∀ c ∈ p, c ∉ bare := by
  obtain ⟨h1, h2⟩ := pcs_plain l (nm := nm)
  intro p hp c hc
  rcases List.mem_cons.mp hp with rfl | hp
  · exact ok.free c (h1 c hc)
  · obtain ⟨q, hq, rfl⟩ := List.mem_map.mp hp
    obtain ⟨n, hn⟩ := pcs_some nm l q hq
    unfold piece at hc
    rw [hn] at hc
    rcases List.mem_append.mp hc with hc | hc
    · exact ok.bareN q.1 n (ok.all _ _ hn).1 c hc
    · rcases List.mem_cons.mp hc with rfl | hc
      · exact ok.bare59
      · exact ok.free c (h2 q hq c hc)
theorem spl59 (n p : List Nat) (h : 59 ∉ n) : (spl [59] (n ++ 59 :: p)).head? = some n := by
  unfold spl
  rw [splA_one_free 59 n [] _ h, splA_one_hit]; rfl
theorem splA_count (y : List Nat) : ∀ (l : List Nat) (k : Nat) (cur : List Nat), (splA y k cur l).length ≤ l.length + 1
  | [], k, cur => by cases k <;> simp [splA]
  | c :: r, 0, cur => by
    rw [splA]; split
    · have := splA_count y r (y.length - 1) []; simp only [List.length_cons]; omega
    · have := splA_count y r 0 (cur ++ [c]); simp only [List.length_cons]; omega
  | c :: r, k + 1, cur => by
    rw [splA]; have := splA_count y r k cur; simp only [List.length_cons]; omega
theorem spl_count (y l : List Nat) : (spl y l).length ≤ l.length + 1 := splA_count y l 0 []
theorem pcs_len (nm : Nat → Option (List Nat)) (l : List Nat) (i : Nat) : ((pcs nm l).1 ++ ((pcs nm l).2.take i).flatMap (fun q => q.1 :: q.2)).length ≤ l.length := by
  have h := congrArg List.length (pcs_back nm l)
  rw [← List.take_append_drop i (pcs nm l).2, List.flatMap_append] at h
  simp only [List.length_append, List.take_append_drop] at h ⊢
  omega
theorem pcs_len2 (nm : Nat → Option (List Nat)) (l : List Nat) : ∀ q ∈ (pcs nm l).2, q.2.length ≤ l.length := by
  intro q hq
  have h := congrArg List.length (pcs_back nm l)
  obtain ⟨a, b, e⟩ := List.append_of_mem hq
  rw [e] at h
  simp only [List.length_append, List.flatMap_append, List.flatMap_cons, List.length_cons] at h
  omega
theorem escN_len (nm : Nat → Option (List Nat)) : ∀ l : List Nat, l.length ≤ (l.flatMap (escN nm)).length
  | [] => Nat.le_refl _
  | c :: r => by
    have := escN_len nm r
    have h : 1 ≤ (escN nm c).length := by unfold escN; split <;> simp
    simp only [List.flatMap_cons, List.length_append, List.length_cons]; omega
theorem nmA_len {c : Nat} {n : List Nat} (h : nmA c = some n) : n.length ≤ 4 := by
  unfold nmA at h
  repeat' split at h
  all_goals first | (cases h; done) | (cases h; decide)
theorem take_succ_at {α : Type} {l : List α} {i : Nat} {q : α} (h : l[i]? = some q) : l.take (i + 1) = l.take i ++ [q] := by
  rw [List.take_succ, h]; rfl
theorem drop_piece (n p : List Nat) : (n ++ 59 :: p).drop ((n.length : Int) + 1).toNat = p := by
  have : ((n.length : Int) + 1).toNat = (n ++ [59]).length := by rw [List.length_append]; show _ = n.length + 1; omega
  rw [this, show n ++ 59 :: p = (n ++ [59]) ++ p by simp, List.drop_left]
theorem jn_len (z : List Nat) : ∀ ls : List (List Nat), ls ≠ [] → (jn z ls).length + z.length = (ls.map List.length).sum + ls.length * z.length
  | [], h => absurd rfl h
  | [x], _ => by simp [jn]
  | x :: y :: r, _ => by
    have ih := jn_len z (y :: r) (by simp)
    rw [jn_two]
    simp only [List.length_append, List.map_cons, List.sum_cons, List.length_cons, Nat.succ_mul] at ih ⊢
    omega
theorem mem_len_sum : ∀ (ls : List (List Nat)) (x : List Nat), x ∈ ls → x.length ≤ (ls.map List.length).sum
  | y :: r, x, h => by
    simp only [List.map_cons, List.sum_cons]
    rcases List.mem_cons.mp h with rfl | h
    · omega
    · have := mem_len_sum r x h; omega
theorem dotRow_len (r : List Nat) : r.length ≤ (dotRow r).length := by
  unfold dotRow; split <;> simp
theorem dotRows_sum : ∀ rs : List (List Nat), (rs.map List.length).sum ≤ ((rs.map dotRow).map List.length).sum
  | [] => Nat.le_refl _
  | r :: rs => by
    have := dotRows_sum rs
    have := dotRow_len r
    simp only [List.map_cons, List.sum_cons]; omega
end

/-! part Comp -/
section
section
open Builtin Builtin.Str LCg
variable {prog : Program} {w : World} {A : Around} {E : Value → Shared → Prop} {s : Shared} {h₀ : Heap} {L : Addr} {m : PySem.Str → Option Value} {env : Env}
/-- where a comprehension's source stands -/
def SrcS (prog : Program) (w : World) (A : Around) (h₀ : Heap) (L : Addr) (m : PySem.Str → Option Value) (env : Env) (elt : PySem.Expr) (x : PySem.Str) (scope : Scope) (cl : List (PySem.Str × Addr)) (Q : Value → Shared → Prop) (v : Value) (s₁ : Shared) : Prop :=
  ∃ (l : List Nat) (t : Nat) (news : List (Addr × Obj)), v = .str (S l) t ∧ A.handled = none ∧ Fr h₀ L s₁.heap m ∧ News h₀ L s₁.heap news ∧ l.length ≤ 16777216 ∧
    ∀ s₂ : Shared, (∃ h, s₂ = { s₁ with heap := h }) → CompRest prog w A h₀ L m env elt x scope cl s₂ (fun _ => True) (SignAt (S l)) (FinE h₀ L m s₂ Q) l.length 0 [] news
theorem ListComp_S {elt iter : PySem.Expr} {x : PySem.Str} {px : Pos} {scope : Scope} {cl : List (PySem.Str × Addr)} {pos : Pos} {Q : Value → Shared → Prop} (_F₀ : Fr h₀ L s.heap m)
    (hclos : closureFor scope env = pure cl) (hcell : ∀ y ∈ scope.names, y.2 ≠ .cell) (hkind : scope.kind = .function)
    (hnames : ∀ y ∈ scope.names, y.2 = .local → scope.names.lookup y.1 = some .local) (hx : scope.names.lookup x = some .local)
    (h : wpAny (model prog w) A (eval iter env) (SrcS prog w A h₀ L m env elt x scope cl Q) E s)
    (hs : ∀ x, foldedSetIterable iter env x = pure x := by intro _; rfl) :
    wpAny (model prog w) A (eval (.ListComp elt [⟨.Name x px, iter, [], 0⟩] scope pos) env) Q E s := by
  rw [eval_ListComp]
  refine wpAny_comprehension_free (use := none) rfl hs hclos hkind hnames (wpAny_mono h (fun xv s₁ h₁ => ?_) fun _ _ e => e)
  obtain ⟨l, t, news, rfl, hh, F, N, hsz, R⟩ := h₁
  have e2 : sizeLine = 16777216 := by decide
  have hn : (S l).cps.size = l.length := by simp
  rw [← hn] at R
  have fin : ∀ (g : Shared) D C h tk (m' : PySem.Str → Option Value) ys news', Fr h₀ L h m → News h₀ L h ((D, lst ys) :: news') → Off1 D news' → h.Ns C m' → h₀.get? C = none → h₀.get? D = none → C ≠ L → D ≠ L → C ≠ D → (∀ p ∈ news', p.1 ≠ C) → FinE h₀ L m g Q ys news' →
      compPost (model prog w) A E none Q (.ref D) C (.ok .next) { g with heap := h, toks := tk } := by
    intro g D C h tk m' ys news' F' N' o1 hn hC₀ hD₀ hCL hDL hCD offC fin
    refine ⟨m', hn, fun h'' hs'' => fin D h'' tk (F'.change hs'' hCL hC₀) (fun p hp => ?_) o1⟩
    refine ⟨hs''.extBut _ _ ?_ (N' p hp).1, (N' p hp).2⟩
    rcases List.mem_cons.mp hp with rfl | hp
    · exact Ne.symm hCD
    · exact offC p hp
  have hst : ∀ (ty : String) (i : Nat) (h h' : Heap) (o : Obj) (nw : List (Addr × Obj)), h.IsStrIter s₁.heap.objs.size ty (S l) t i → h.get? s₁.heap.objs.size = some o → h'.get? s₁.heap.objs.size = some o → (∀ b o, h₀.get? b = some o → h'.get? b = some o) → News h₀ L h' nw → True → h'.IsStrIter s₁.heap.objs.size ty (S l) t i :=
    fun ty i h h' o nw st e e' _ _ _ => by obtain ⟨o', q, r⟩ := st; rw [e] at q; cases q; exact ⟨o, e', r⟩
  have hoff : ∀ p ∈ news, p.1 ≠ s₁.heap.objs.size := fun p hp => Nat.ne_of_lt (Heap.lt_size (N p hp).1)
  cases ha : (S l).cps.all (· < 128) with
  | true =>
    refine wpAny_pyIter_ascii ha ?_
    refine block_U (Walks.strAscii hh s₁.heap.objs.size (S l) t) (by rw [hn, e2]; exact hsz) (fun i h st => by obtain ⟨o, e, _⟩ := st; exact ⟨o, e⟩) (hst _) hcell hkind hx ⟨_, Heap.get?_push_size _ rfl, rfl, rfl⟩ (fun b hb => ?_)
      (F.push _) (N.grown fun _ _ e => Heap.get?_push_of_some _ e) (Nat.ne_of_lt F.ns.lt) (next_is_new F) hoff trivial (R _ ⟨_, rfl⟩) (fin _)
    rw [List.mem_singleton.mp hb]
    show s₁.heap.objs.size < (s₁.heap.push _).objs.size
    rw [Heap.size_push]; exact Nat.lt_succ_self _
  | false =>
    refine wpAny_pyIter_wide ha ?_
    refine block_U (Walks.strWide hh s₁.heap.objs.size (S l) t) (by rw [hn, e2]; exact hsz) (fun i h st => by obtain ⟨o, e, _⟩ := st; exact ⟨o, e⟩) (hst _) hcell hkind hx ⟨_, Heap.get?_push_size _ rfl, rfl, rfl⟩ (fun b hb => ?_)
      (F.push _) (N.grown fun _ _ e => Heap.get?_push_of_some _ e) (Nat.ne_of_lt F.ns.lt) (next_is_new F) hoff trivial (R _ ⟨_, rfl⟩) (fin _)
    rw [List.mem_singleton.mp hb]
    show s₁.heap.objs.size < (s₁.heap.push _).objs.size
    rw [Heap.size_push]; exact Nat.lt_succ_self _
end
end

/-! part Next -/
section
section
open Builtin Builtin.Str
variable {prog : Program} {w : World} {A : Around} {E : Value → Shared → Prop} {s : Shared} {h₀ : Heap} {L it l : Addr} {m : PySem.Str → Option Value} {news : List (Addr × Obj)} {g : Obj → List (Addr × Obj)} {io : Obj} {i : Nat} {items : List Value} {x : Value}
theorem lspecial_item {Q : Option Value → Shared → Prop} (hit : s.heap.IsListIter it l i)
    (hl : s.heap.IsList l items.toArray) (hx : items[i]? = some x)
    (hQ : ∀ h', h'.IsListIter it l (i + 1) → Heap.SameBut it s.heap h' → Q (some x) { s with heap := h' }) :
    wpAny (model prog w) A (callSpecial? (.ref it) "__next__") Q E s := by
  obtain ⟨o, ho, hc, hd⟩ := id hit
  obtain ⟨ol, hol, _, nl, hdl⟩ := hl
  refine wpAny_callSpecial?_slot (name := PySem.Str.ofString "__next__") hit.typeIs slot_listiter_next
    (wpAny_call_entry slot_listiter_next hit.typeIs entry_listiter_next ?_ (args_listiter_next _))
  show wpAny _ _ (field (.ref it) 0 >>= _) _ _ s
  refine wpAny_bind (wpAny_field ho hd (x := .ref l) rfl ?_)
  show wpAny _ _ (if (Value.ref l == Value.none) = true then _ else _) _ _ s
  rw [if_neg (show ¬ ((Value.ref l == Value.none) = true) from Bool.false_ne_true)]
  show wpAny _ _ (field (.ref it) 1 >>= _) _ _ s
  refine wpAny_bind (wpAny_field ho hd (x := .int i 0) rfl ?_)
  show wpAny _ _ (seqItems? (.ref l) >>= _) _ _ s
  refine wpAny_bind (wpAny_seqItems hol hdl ?_)
  have hx' : items.toArray[i]? = some x := by simpa using hx
  simp only [Int.toNat_natCast, hx']
  refine wpAny_bind (wpAny_setField ho hd (by simp) (wpAny_pure ⟨x, rfl, hQ _ ?_ (Heap.SameBut.update ..)⟩))
  exact ⟨_, Heap.get?_update_self _ ho (Obj.isFreed_of_fields (Obj.data_mapFields hd _)), (Obj.cls_mapFields ..).trans hc, by
    rw [Obj.data_mapFields hd]; simp [rawInt]⟩
theorem lspecial_end {Q : Option Value → Shared → Prop} (hh : A.handled = none)
    (hit : s.heap.IsListIter it l i) (hl : s.heap.IsList l items.toArray) (hx : items[i]? = none)
    (hE : ∀ hm h' e, Heap.SameBut it s.heap hm → Heap.MadeExc hm h' e "StopIteration" [] → E (.ref e) { s with heap := h' }) :
    wpAny (model prog w) A (callSpecial? (.ref it) "__next__") Q E s := by
  obtain ⟨o, ho, hc, hd⟩ := id hit
  obtain ⟨ol, hol, _, nl, hdl⟩ := hl
  refine wpAny_callSpecial?_slot (name := PySem.Str.ofString "__next__") hit.typeIs slot_listiter_next
    (wpAny_call_entry slot_listiter_next hit.typeIs entry_listiter_next ?_ (args_listiter_next _))
  show wpAny _ _ (field (.ref it) 0 >>= _) _ _ s
  refine wpAny_bind (wpAny_field ho hd (x := .ref l) rfl ?_)
  show wpAny _ _ (if (Value.ref l == Value.none) = true then _ else _) _ _ s
  rw [if_neg (show ¬ ((Value.ref l == Value.none) = true) from Bool.false_ne_true)]
  show wpAny _ _ (field (.ref it) 1 >>= _) _ _ s
  refine wpAny_bind (wpAny_field ho hd (x := .int i 0) rfl ?_)
  show wpAny _ _ (seqItems? (.ref l) >>= _) _ _ s
  refine wpAny_bind (wpAny_seqItems hol hdl ?_)
  have hx' : items.toArray[i]? = none := by simpa using hx
  simp only [Int.toNat_natCast, hx']
  refine wpAny_bind (wpAny_rule (wpAny_bind (wpAny_setField ho hd (by simp) ?_)))
  show wpAny _ _ (newExc (.type "StopIteration") [] >>= _) _ _ _
  refine wpAny_bind ?_
  simp only [newExc, newTuple]
  refine wpAny_bind (wpAny_newObj_type ?_ (by size_fits))
  refine wpAny_bind (m := firstArgMember _ _) (wpAny_of_eq (a := Value.none) (by first | rfl | (simp only [firstArgMember]; rfl)) ?_)
  refine wpAny_newObj_type ?_ (by size_fits)
  simp only [raiseNew]
  refine wpAny_bind (wpAny_handled ?_)
  first | rw [show A.in1.handled = none from hh] | rw [hh]
  refine wpAny_bind (wpAny_pure (wpAny_throw ?_))
  refine hE _ _ _ (Heap.SameBut.update ..) ⟨fun b o q => Heap.get?_push_of_some _ (Heap.get?_push_of_some _ q), Heap.get?_none_of_le (by rw [Heap.size_push]; omega), _, Heap.get?_push_size _ rfl, Heap.get?_none_of_le (Nat.le_refl _), Heap.get?_push_of_some _ (Heap.get?_push_size _ rfl)⟩
theorem lnext_item {Q : Value → Shared → Prop} (F : Fr h₀ L s.heap m) (N : News h₀ L s.heap news) (U : UpdF it io news g) (hi : IterO l i io) (hl : s.heap.IsList l items.toArray) (hx : items[i]? = some x)
    (h : ∀ h' o', Fr h₀ L h' m → News h₀ L h' (g o') → IterO l (i + 1) o' → Q x { s with heap := h' }) : wpAny (model prog w) A (call (.builtin "next") [.ref it]) Q E s := by
  obtain ⟨pre, post, hl', hg, a, b⟩ := U.split
  have hmem : (it, io) ∈ news := by rw [hl']; exact List.mem_append_right _ (.head _)
  have hm := N (it, io) hmem
  have hit : s.heap.IsListIter it l i := ⟨io, hm.1, hi.1, hi.2⟩
  refine PySem.Calls.call_function_entry (by decide +kernel) (by decide +kernel) kdk_entry_next (kdk_args_next _) ?_
  unfold Builtin.«next»
  refine wpAny_bind (m := someArgs "next" 1 2 _) (wpAny_of_eq (a := [Value.ref it]) (by first | rfl | kernel_rfl!) ?_)
  dsimp only
  refine wpAny_bind (wpAny_specialOf (name := PySem.Str.ofString "__next__") hit.typeIs slot_listiter_next.lookup ?_)
  refine wpAny_ite_split (fun hab => absurd hab (by decide)) (fun _ => ?_)
  refine wpAny_bind (lspecial_item hit hl hx fun h' hit' hs => ?_)
  obtain ⟨o', ho', hc', hd'⟩ := hit'
  exact wpAny_pure ⟨_, rfl, h h' o' (F.change hs hm.2.1 hm.2.2) (hg o' ▸ (show News h₀ L s.heap (pre ++ (it, io) :: post) from hl' ▸ N).setIn a b hs ho') ⟨hc', hd'⟩⟩
theorem lnext_end {Q : Value → Shared → Prop} (hh : A.handled = none) (F : Fr h₀ L s.heap m) (N : News h₀ L s.heap news) (hm : (it, io) ∈ news) (hi : IterO l i io) (hl : s.heap.IsList l items.toArray) (hx : items[i]? = none)
    (h : ∀ hm h' e, Fr h₀ L hm m → (∀ nw, (∀ p ∈ nw, p ∈ news ∧ p.1 ≠ it) → News h₀ L hm nw) → Heap.MadeExc hm h' e "StopIteration" [] → E (.ref e) { s with heap := h' }) : wpAny (model prog w) A (call (.builtin "next") [.ref it]) Q E s := by
  have hm' := N (it, io) hm
  have hit : s.heap.IsListIter it l i := ⟨io, hm'.1, hi.1, hi.2⟩
  refine PySem.Calls.call_function_entry (by decide +kernel) (by decide +kernel) kdk_entry_next (kdk_args_next _) ?_
  unfold Builtin.«next»
  refine wpAny_bind (m := someArgs "next" 1 2 _) (wpAny_of_eq (a := [Value.ref it]) (by first | rfl | kernel_rfl!) ?_)
  dsimp only
  refine wpAny_bind (wpAny_specialOf (name := PySem.Str.ofString "__next__") hit.typeIs slot_listiter_next.lookup ?_)
  refine wpAny_ite_split (fun hab => absurd hab (by decide)) (fun _ => ?_)
  refine wpAny_bind (lspecial_end hh hit hl hx fun hm h' e hs he => ?_)
  exact h hm h' e (F.change hs hm'.2.1 hm'.2.2) (fun nw hn p hp => ⟨(hs.2 _ (hn p hp).2).trans (N p (hn p hp).1).1, (N p (hn p hp).1).2⟩) he
theorem liter {Q : Value → Shared → Prop} (F : Fr h₀ L s.heap m) (N : News h₀ L s.heap news) (hl : s.heap.IsList l items.toArray)
    (h : ∀ it h' o, Fr h₀ L h' m → News h₀ L h' ((it, o) :: news) → (∀ p ∈ news, p.1 < it) → IterO l 0 o → Q (.ref it) { s with heap := h' }) : wpAny (model prog w) A (call (.builtin "iter") [.ref l]) Q E s := by
  refine PySem.Calls.call_function_entry (by decide +kernel) (by decide +kernel) kdk_entry_iter (kdk_args_iter _) ?_
  unfold Builtin.«iter»
  refine wpAny_bind (m := someArgs "iter" 1 2 _) (wpAny_of_eq (a := [Value.ref l]) (by first | rfl | kernel_rfl!) ?_)
  dsimp only
  refine wpAny_bind (wpAny_pyIter_list hl ?_)
  exact wpAny_pure ⟨_, rfl, h _ _ _ (F.push _) (News.push F N _) (fun p hp => Heap.lt_size (N p hp).1) ⟨rfl, rfl⟩⟩
end
end

/-! part P3a -/
section
def sgA : Nat → Nat → List Nat → List Nat
  | 0, _, acc => acc
  | f + 1, n, acc => if 63 < n then sgA f (n / 64) ((64 + n / 64 % 64) :: acc) else acc
def signs (n : Nat) : List Nat := sgA 2 n [n % 64]
end

/-! part Find -/
section
section
open Builtin Builtin.Str StrLaws
/-- the first place of y in l -/
def FirstAt (y l : List Nat) (k : Nat) : Prop := y.isPrefixOf (l.drop k) = true ∧ ∀ j, j < k → y.isPrefixOf (l.drop j) = false
theorem occ1_rest (x y : PySem.Str) (hi : Nat) : ∀ (l : List Nat) (st : Array Nat × Nat), st.1.size = 1 → (forIn l st (occBody x y hi 1)).run = st
  | [], st, _ => rfl
  | a :: l, st, h => by
    rw [List.forIn_cons]
    unfold occBody
    rw [if_neg (fun q => by have := q.1.1.1; omega)]
    exact occ1_rest x y hi l st h
theorem occ1_go {L y : List Nat} (hy : y ≠ []) (lo : Nat) : ∀ (k n i : Nat), lo ≤ i → FirstAt y (L.drop i) k → k < n → (forIn (List.range' i n) ((#[] : Array Nat), lo) (occBody (S L) (S y) L.length 1)).run.fst.toList = [i + k]
  | k, 0, _, _, _, h => absurd h (Nat.not_lt_zero _)
  | 0, n + 1, i, hlo, hf, _ => by
    have hl : (S y).length = y.length := by simp [PySem.Str.length]
    have hp : y.isPrefixOf (L.drop i) = true := by have := hf.1; rw [List.drop_zero] at this; exact this
    have hlen : i + y.length ≤ L.length := by
      have h1 := (List.isPrefixOf_iff_prefix.mp hp).length_le
      rw [List.length_drop] at h1
      have : 1 ≤ y.length := by
        cases y with
        | nil => exact absurd rfl hy
        | cons a b => simp
      omega
    rw [List.range'_succ, List.forIn_cons]
    unfold occBody
    rw [if_pos ⟨⟨⟨by simp, hlo⟩, by rw [hl]; exact hlen⟩, by rw [subAt_S]; exact hp⟩]
    have := occ1_rest (S L) (S y) L.length (List.range' (i + 1) n) ((#[] : Array Nat).push i, i + (S y).length) (by simp)
    unfold occBody at this
    refine (congrArg (fun q : Array Nat × Nat => q.1.toList) this).trans ?_
    simp
  | k + 1, n + 1, i, hlo, hf, hn => by
    have hp : ¬ y.isPrefixOf (L.drop i) = true := by
      have := hf.2 0 (Nat.succ_pos _)
      rw [List.drop_zero] at this
      rw [this]; decide
    rw [List.range'_succ, List.forIn_cons]
    unfold occBody
    rw [if_neg (fun q => hp (by have := q.2; rw [subAt_S] at this; exact this))]
    have ih := occ1_go (L := L) hy lo k n (i + 1) (by omega) ⟨by have := hf.1; rw [List.drop_drop] at this ⊢; rw [show i + 1 + k = i + (k + 1) by omega]; exact this, fun j hj => by have := hf.2 (j + 1) (by omega); rw [List.drop_drop] at this ⊢; rw [show i + 1 + j = i + (j + 1) by omega]; exact this⟩ (by omega)
    unfold occBody at ih
    refine ih.trans ?_
    rw [show i + 1 + k = i + (k + 1) by omega]
theorem occ1 {L y : List Nat} (hy : y ≠ []) {lo k : Nat} (hf : FirstAt y (L.drop lo) k) : occurrences (S L) (S y) lo (S L).length 1 = [lo + k] := by
  rw [occ_eq]
  have hl : (S L).length = L.length := by simp [PySem.Str.length]
  rw [hl]
  have h1 := (List.isPrefixOf_iff_prefix.mp hf.1).length_le
  rw [List.length_drop, List.length_drop] at h1
  have : 1 ≤ y.length := by
    cases y with
    | nil => exact absurd rfl hy
    | cons a b => simp
  exact occ1_go hy lo k _ lo (Nat.le_refl _) hf (by omega)
theorem gives_index3 (x y : PySem.Str) (i : Int) (t u v : Nat) (k : Nat) (h : occurrences x y (fromIndex x.length i) x.length 1 = [k]) : Gives («str.index» ⟨[.str x t, .str y u, .int i v], []⟩) (.int k) := by
  show Gives (match occurrences x y (fromIndex x.length i) (min x.length x.length) 1 with | k :: _ => retInt k | [] => (do rule "str.index.not-found"; raiseError "ValueError" "substring not found")) _
  rw [Nat.min_self, h]
  exact .of_eq rfl
theorem indexS {prog : Program} {w : World} {A : Around} {E : Value → Shared → Prop} {s : Shared} {Q : Value → Shared → Prop} {T y : List Nat} {ys : PySem.Str} {i : Int} {lo k t u v : Nat} (hy : ys = S y) (hf : FirstAt y (T.drop lo) k) (hi : i = (lo : Int)) (hy0 : y ≠ [])
    (hq : Q (.int ((lo + k : Nat) : Int) s.toks) { s with toks := s.toks + 1 }) : wpAny (model prog w) A (call (.builtin "str.index") [.str (S T) t, .str ys u, .int i v]) Q E s := by
  subst hy hi
  refine call_gives F.slot_str_index (typeIs_str _ _ _) F.entry_str_index (F.args_str_index_3 _ _ _) (gives_index3 _ _ _ t u v (lo + k) ?_) hq
  have e : fromIndex (S T).length (lo : Int) = lo := by
    unfold fromIndex
    rw [if_neg (by omega)]
    omega
  rw [e]
  exact occ1 hy0 hf
end
end

/-! part P3 -/
section
inductive Fo
  | nil
  | leaf (n : Nat) (r : Fo)
  | box (k : Nat) (i r : Fo)
def boxT (k : Nat) (x : List Nat) : List Nat :=
  if k = 1 then [60, 101, 62] ++ escC x ++ [60, 47, 101, 62] else if k = 2 then [112] ++ [61, 34] ++ parE x ++ [34] else [109, 13, 10] ++ dots x ++ [13, 10, 46, 13, 10]
namespace Fo
def enc : Fo → List Nat
  | nil => []
  | leaf n r => 34 :: (escA (signs n) ++ 34 :: r.enc)
  | box k i r => boxT k i.enc ++ r.enc
def octs : Fo → List Nat
  | nil => []
  | leaf n r => signs n ++ r.octs
  | box _ i r => i.octs ++ r.octs
def nums : Fo → List Nat
  | nil => []
  | leaf n r => n :: r.nums
  | box _ i r => i.nums ++ r.nums
def dat : Fo → List Dat
  | nil => []
  | leaf _ r => .int 0 :: r.dat
  | box k i r => .list [.int k, .list i.dat] :: r.dat
def wf : Fo → Prop
  | nil => True
  | leaf n r => n < 262144 ∧ r.wf
  | box k i r => (k = 1 ∨ k = 2 ∨ k = 3) ∧ i ≠ nil ∧ i.wf ∧ r.wf
def dep : Fo → Nat
  | nil => 0
  | leaf _ r => r.dep
  | box _ i r => max (i.dep + 1) r.dep
def leaves : Fo → Nat
  | nil => 0
  | leaf _ r => r.leaves + 1
  | box _ i r => i.leaves + r.leaves
def top : Fo → Nat
  | nil => 0
  | leaf _ r => r.top + 1
  | box _ _ r => r.top + 1
def app : Fo → Fo → Fo
  | nil, b => b
  | leaf n r, b => leaf n (r.app b)
  | box k i r, b => box k i (r.app b)
theorem enc_app (b : Fo) : ∀ a, (app a b).enc = a.enc ++ b.enc
  | nil => rfl
  | leaf n r => by simp only [app, enc, enc_app b r, List.cons_append, List.append_assoc]
  | box k i r => by simp only [app, enc, enc_app b r, List.append_assoc]
theorem octs_app (b : Fo) : ∀ a, (app a b).octs = a.octs ++ b.octs
  | nil => rfl
  | leaf n r => by simp only [app, octs, octs_app b r, List.append_assoc]
  | box k i r => by simp only [app, octs, octs_app b r, List.append_assoc]
theorem nums_app (b : Fo) : ∀ a, (app a b).nums = a.nums ++ b.nums
  | nil => rfl
  | leaf n r => by simp only [app, nums, nums_app b r, List.cons_append]
  | box k i r => by simp only [app, nums, nums_app b r, List.append_assoc]
theorem dat_app (b : Fo) : ∀ a, (app a b).dat = a.dat ++ b.dat
  | nil => rfl
  | leaf n r => by simp only [app, dat, dat_app b r, List.cons_append]
  | box k i r => by simp only [app, dat, dat_app b r, List.cons_append]
theorem wf_app {b : Fo} (hb : b.wf) : ∀ {a : Fo}, a.wf → (app a b).wf
  | nil, _ => hb
  | leaf n r, h => ⟨h.1, wf_app hb h.2⟩
  | box k i r, h => ⟨h.1, h.2.1, h.2.2.1, wf_app hb h.2.2.2⟩
theorem dep_app (b : Fo) : ∀ a, (app a b).dep = max a.dep b.dep
  | nil => by simp [app, dep]
  | leaf n r => by simp only [app, dep, dep_app b r]
  | box k i r => by rw [app, dep, dep, dep_app b r]; exact (Nat.max_assoc _ _ _).symm
theorem leaves_app (b : Fo) : ∀ a, (app a b).leaves = a.leaves + b.leaves
  | nil => by simp [app, leaves]
  | leaf n r => by simp only [app, leaves, leaves_app b r]; omega
  | box k i r => by simp only [app, leaves, leaves_app b r]; omega
theorem app_ne {a : Fo} (b : Fo) (h : a ≠ nil) : app a b ≠ nil := by
  cases a with
  | nil => exact absurd rfl h
  | leaf n r => intro q; cases q
  | box k i r => intro q; cases q
theorem top_pos {a : Fo} (h : a ≠ nil) : 1 ≤ a.top := by
  cases a with
  | nil => exact absurd rfl h
  | leaf n r => simp [top]
  | box k i r => simp [top]
theorem enc_pos {a : Fo} (h : a ≠ nil) : 0 < a.enc.length := by
  cases a with
  | nil => exact absurd rfl h
  | leaf n r => simp [enc]
  | box k i r => unfold enc boxT; (repeat' split) <;> simp
end Fo
theorem signs_len (n : Nat) : (signs n).length ≤ 3 := by
  unfold signs sgA
  split
  · unfold sgA
    split
    · simp [sgA]
    · simp
  · simp
theorem signs_pos (n : Nat) : 0 < (signs n).length := by
  unfold signs sgA
  split
  · unfold sgA
    split
    · simp [sgA]
    · simp
  · simp
theorem signs_lt (n : Nat) (c : Nat) (h : c ∈ signs n) : c < 128 := by
  unfold signs sgA at h
  split at h
  · unfold sgA at h
    split at h
    · simp only [sgA, List.mem_cons, List.not_mem_nil, or_false] at h; omega
    · simp only [List.mem_cons, List.not_mem_nil, or_false] at h; omega
  · simp only [List.mem_cons, List.not_mem_nil, or_false] at h; omega
theorem clean_box (k : Nat) {x : List Nat} (h : Clean x) : Clean (boxT k x) := by
  unfold boxT
  have f : ∀ l : List Nat, (∀ c ∈ l, c ≠ 13 ∧ c ≠ 10) → Clean l := fun l h => Clean.free h
  split
  · exact ((f _ (by decide)).app h.escC).app (f _ (by decide))
  · split
    · exact ((f _ (by decide)).app h.parE).app (f _ (by decide))
    · have e1 : Clean [109, 13, 10] := .chr (by decide) (by decide) (.crlf .nil)
      have e2 : Clean [13, 10, 46, 13, 10] := .crlf (.chr (by decide) (by decide) (.crlf .nil))
      exact (e1.app h.dots).app e2
theorem Fo.clean : ∀ f : Fo, Clean f.enc
  | .nil => .nil
  | .leaf n r => by
    refine .chr (by decide) (by decide) ((Clean.free fun c hc => ?_).app (.chr (by decide) (by decide) r.clean))
    exact ⟨(escA_free c hc).1, (escA_free c hc).2.1⟩
  | .box k i r => (clean_box k i.clean).app r.clean
theorem escC_ge : ∀ x : List Nat, x.length ≤ (escC x).length
  | [] => Nat.le_refl _
  | c :: r => by
    have := escC_ge r
    have h : 1 ≤ (escC1 c).length := by unfold escC1; (repeat' split) <;> simp
    unfold escC at *
    simp only [List.flatMap_cons, List.length_append, List.length_cons]; omega
theorem parE_ge : ∀ x : List Nat, x.length ≤ (parE x).length
  | [] => Nat.le_refl _
  | c :: r => by
    have := parE_ge r
    have h : 1 ≤ (parE1 c).length := by unfold parE1; (repeat' split) <;> simp
    unfold parE at *
    simp only [List.flatMap_cons, List.length_append, List.length_cons]; omega
theorem dotsA_ge : ∀ (x : List Nat) (b : Bool), x.length ≤ (dotsA b x).length
  | [], _ => Nat.zero_le _
  | c :: r, b => by
    have h1 := dotsA_ge r true
    have h2 := dotsA_ge r false
    have h3 : r.length ≤ (dotsA (c == 10) r).length := by cases (c == 10) <;> assumption
    unfold dotsA
    split <;> simp only [List.length_cons] <;> omega
theorem boxT_ge (k : Nat) (x : List Nat) : x.length ≤ (boxT k x).length := by
  have h1 := escC_ge x
  have h2 := parE_ge x
  have h3 : x.length ≤ (dots x).length := dotsA_ge x true
  unfold boxT
  (repeat' split) <;> simp only [List.length_append] <;> omega
theorem boxT_le (k : Nat) (x : List Nat) : (boxT k x).length ≤ 5 * x.length + 8 := by
  have h1 := escC_len x
  have h2 := parE_len x
  have h3 : (dots x).length ≤ 2 * x.length := dots_len x true
  unfold boxT
  (repeat' split) <;> simp only [List.length_append, List.length_cons, List.length_nil] <;> omega
end

/-! part P4 -/
section
theorem Fo.len : ∀ f : Fo, f.wf → f.enc.length + 2 * f.top ≤ 22 * f.leaves * 5 ^ f.dep
  | .nil, _ => by simp [Fo.enc, Fo.top, Fo.leaves]
  | .leaf n r, h => by
    have ih := Fo.len r h.2
    have h1 := escA_len (signs n)
    have h2 := signs_len n
    have h3 : 1 ≤ 5 ^ r.dep := Nat.pos_of_ne_zero (by simp)
    have h4 : 22 * (r.leaves + 1) * 5 ^ r.dep = 22 * r.leaves * 5 ^ r.dep + 22 * 5 ^ r.dep := by rw [Nat.mul_add, Nat.add_mul]
    simp only [Fo.enc, Fo.top, Fo.leaves, Fo.dep, List.length_cons, List.length_append]
    omega
  | .box k i r, h => by
    have ih1 := Fo.len i h.2.2.1
    have ih2 := Fo.len r h.2.2.2
    have h1 := boxT_le k i.enc
    have h2 := Fo.top_pos h.2.1
    have h3 : 5 ^ (i.dep + 1) ≤ 5 ^ max (i.dep + 1) r.dep := Nat.pow_le_pow_right (by decide) (Nat.le_max_left _ _)
    have h4 : 5 ^ r.dep ≤ 5 ^ max (i.dep + 1) r.dep := Nat.pow_le_pow_right (by decide) (Nat.le_max_right _ _)
    have h5 := Nat.mul_le_mul_left (22 * i.leaves) h3
    have h6 := Nat.mul_le_mul_left (22 * r.leaves) h4
    have h7 : 22 * i.leaves * 5 ^ (i.dep + 1) = 5 * (22 * i.leaves * 5 ^ i.dep) := by rw [Nat.pow_succ, ← Nat.mul_assoc, Nat.mul_comm]
    have h8 : 22 * (i.leaves + r.leaves) * 5 ^ max (i.dep + 1) r.dep = 22 * i.leaves * 5 ^ max (i.dep + 1) r.dep + 22 * r.leaves * 5 ^ max (i.dep + 1) r.dep := by rw [Nat.mul_add, Nat.add_mul]
    simp only [Fo.enc, Fo.top, Fo.leaves, Fo.dep, List.length_append]
    omega
theorem Fo.inner_le (k : Nat) (i r : Fo) : i.enc.length ≤ (Fo.box k i r).enc.length := by
  have := boxT_ge k i.enc
  simp only [Fo.enc, List.length_append]; omega
theorem FirstAt.skip {y l : List Nat} {c k : Nat} (h : y.isPrefixOf (c :: l) = false) (f : FirstAt y l k) : FirstAt y (c :: l) (k + 1) :=
  ⟨f.1, fun j hj => by
    cases j with
    | zero => exact h
    | succ j => exact f.2 j (by omega)⟩
theorem FirstAt.here {y : List Nat} (r : List Nat) : FirstAt y (y ++ r) 0 := ⟨by rw [List.drop_zero]; exact List.isPrefixOf_iff_prefix.mpr (List.prefix_append _ _), fun j hj => absurd hj (Nat.not_lt_zero _)⟩
theorem prefix_head {a c : Nat} {y r : List Nat} (h : a ≠ c) : (a :: y).isPrefixOf (c :: r) = false := by
  rw [List.isPrefixOf]
  have : (a == c) = false := by simpa using h
  rw [this, Bool.false_and]
theorem FirstAt.run {a : Nat} {y rest : List Nat} : ∀ {x : List Nat}, (∀ c ∈ x, c ≠ a) → ∀ {k : Nat}, FirstAt (a :: y) rest k → FirstAt (a :: y) (x ++ rest) (x.length + k)
  | [], _, k, f => by rw [List.length_nil, Nat.zero_add]; exact f
  | c :: r, h, k, f => by
    have := FirstAt.run (fun d hd => h d (.tail _ hd)) f (x := r)
    rw [List.length_cons, show r.length + 1 + k = r.length + k + 1 by omega]
    exact FirstAt.skip (prefix_head (Ne.symm (h c (.head _)))) this
theorem first34 (x rest : List Nat) (h : ∀ c ∈ x, c ≠ 34) : FirstAt [34] (x ++ 34 :: rest) x.length := by
  have := FirstAt.run h (FirstAt.here (y := [34]) rest)
  exact this
theorem first_e (x rest : List Nat) : FirstAt [60, 47, 101, 62] (60 :: 101 :: 62 :: (escC x ++ ([60, 47, 101, 62] ++ rest))) (3 + (escC x).length) := by
  rw [show 3 + (escC x).length = (escC x).length + 0 + 1 + 1 + 1 by omega]
  refine FirstAt.skip (by simp [List.isPrefixOf]) (FirstAt.skip (prefix_head (by decide)) (FirstAt.skip (prefix_head (by decide)) (FirstAt.run (fun c hc => (escC_free c hc).1) (FirstAt.here _))))
/-- the row of one dot: the first one is the end's -/
theorem dot_no {h : List Nat} (hc : Clean h) (rest : List Nat) : [46, 13, 10].isPrefixOf (dotsA true h ++ ([13, 10, 46, 13, 10] ++ rest)) = false := by
  cases hc with
  | nil => exact prefix_head (by decide)
  | @chr c r h1 h2 hr =>
    rw [dotsA]
    by_cases q : c = 46
    · subst q
      rw [if_pos ⟨rfl, rfl⟩]
      simp [List.isPrefixOf]
    · rw [if_neg (fun z => q z.2)]
      exact prefix_head (Ne.symm q)
  | @crlf r hr =>
    rw [dotsA_crlf]
    exact prefix_head (by decide)
theorem first_dot {h : List Nat} (hc : Clean h) (rest : List Nat) : ∀ b : Bool, FirstAt [13, 10, 46, 13, 10] (dotsA b h ++ ([13, 10, 46, 13, 10] ++ rest)) (dotsA b h).length := by
  induction hc with
  | nil => intro b; simp only [dotsA, List.nil_append, List.length_nil]; exact FirstAt.here _
  | @chr c r h1 h2 hr ih =>
    intro b
    rw [dotsA]
    have e10 : (c == 10) = false := by simpa using h2
    by_cases q : b = true ∧ c = 46
    · rw [if_pos q]
      exact FirstAt.skip (prefix_head (by decide)) (FirstAt.skip (prefix_head (by decide)) (ih false))
    · rw [if_neg q, e10]
      exact FirstAt.skip (prefix_head (Ne.symm h1)) (ih false)
  | @crlf r hr ih =>
    intro b
    rw [dotsA_crlf]
    refine FirstAt.skip ?_ (FirstAt.skip (prefix_head (by decide)) (ih true))
    have := dot_no hr rest
    simp only [List.isPrefixOf, List.cons_append] at this ⊢
    simpa using this
theorem first_m {h : List Nat} (hc : Clean h) (rest : List Nat) : FirstAt [13, 10, 46, 13, 10] (109 :: 13 :: 10 :: (dots h ++ ([13, 10, 46, 13, 10] ++ rest))) (3 + (dots h).length) := by
  rw [show 3 + (dots h).length = (dotsA true h).length + 1 + 1 + 1 by unfold dots; omega]
  refine FirstAt.skip (prefix_head (by decide)) (FirstAt.skip ?_ (FirstAt.skip (prefix_head (by decide)) (first_dot hc rest true)))
  have := dot_no hc rest
  unfold dots
  simp only [List.isPrefixOf, List.cons_append] at this ⊢
  simpa using this
theorem at_drop {T r : List Nat} {p c : Nat} (h : T.drop p = c :: r) : T[p]? = some c := by
  have := congrArg (fun l : List Nat => l[0]?) h
  simpa using this
theorem drop_more {T a r : List Nat} {p : Nat} (h : T.drop p = a ++ r) : T.drop (p + a.length) = r := by
  rw [← List.drop_drop, h, List.drop_left]
theorem lt_drop {T r : List Nat} {p c : Nat} (h : T.drop p = c :: r) : p < T.length := by
  have := congrArg List.length h
  simp at this; omega
/-- octets of a number: f more ones than one -/
def octT : Nat → Nat → List Nat
  | 0, n => [n % 64]
  | f + 1, n => (64 + n / 64 ^ (f + 1) % 64) :: octT f n
theorem signs_oct (n : Nat) (h : n < 262144) : ∃ f, f ≤ 2 ∧ signs n = octT f n ∧ n < 64 ^ (f + 1) := by
  unfold signs sgA
  by_cases h1 : 63 < n
  · rw [if_pos h1]; unfold sgA
    by_cases h2 : 63 < n / 64
    · rw [if_pos h2]
      refine ⟨2, Nat.le_refl _, ?_, by simpa using h⟩
      simp only [sgA, octT]
      rw [show n / 64 / 64 = n / 64 ^ 2 by rw [Nat.div_div_eq_div_mul], Nat.pow_one]
    · rw [if_neg h2]
      exact ⟨1, by decide, by simp [octT], by omega⟩
  · rw [if_neg h1]
    exact ⟨0, by decide, rfl, by omega⟩
end

/-! part KeepC -/
section
def CtxN (o : Obj) : Prop := ∃ vs, o.data = .fields vs ∧ vs[2]? = some .none
def K2 (e : Addr) (h : Heap) : Prop := ∃ o, h.get? e = some o ∧ CtxN o
/-- no call within, and no write that touches a context -/
def Safe2 {α : Type} : Sem α → Prop
  | .pure _ => True
  | .raise _ => True
  | .unsupported _ => True
  | .rule _ k => Safe2 (k ())
  | .at _ k => Safe2 (k ())
  | .load _ _ k => ∀ o, Safe2 (k o)
  | .update _ _ f k => (∀ o, CtxN o → CtxN (f o)) ∧ Safe2 (k ())
  | .loadIfAlive _ k => ∀ o, Safe2 (k o)
  | .point _ k => Safe2 (k ())
  | .alloc _ k => ∀ a, Safe2 (k a)
  | .fresh k => ∀ t, Safe2 (k t)
  | .ask k => ∀ x, Safe2 (k x)
  | .handled _ k => ∀ x, Safe2 (k x)
  | .stack k => ∀ x, Safe2 (k x)
  | _ => False
theorem K2.push {e : Addr} {h : Heap} (k : K2 e h) (o : Obj) : K2 e (h.push o) := by
  obtain ⟨x, hx, c⟩ := k
  exact ⟨x, Heap.get?_push_of_some _ hx, c⟩
theorem CtxN.alive {o : Obj} (c : CtxN o) : o.isFreed = false := by
  obtain ⟨vs, hd, _⟩ := c
  exact Obj.isFreed_of_fields hd
theorem K2.update {e : Addr} {h : Heap} (k : K2 e h) (a : Addr) {f : Obj → Obj} (hf : ∀ o, CtxN o → CtxN (f o)) : K2 e (h.update a f) := by
  obtain ⟨x, hx, c⟩ := k
  by_cases q : a = e
  · subst q
    exact ⟨f x, Heap.get?_update_self f hx (hf x c).alive, hf x c⟩
  · exact ⟨x, (Heap.get?_update_other _ _ q).trans hx, c⟩
theorem safe2_wp {α : Type} {M : Model} {Γ : Ctx} {e : Addr} {E : Value → Pos → Shared → Prop} : ∀ (t : Sem α), Safe2 t → ∀ (Q : α → Pos → Shared → Prop) (p : Pos) (s : Shared), K2 e s.heap →
    Sem.wp M Γ t (fun a p' s' => K2 e s'.heap → Q a p' s') E p s → Sem.wp M Γ t Q E p s := by
  intro t
  induction t with
  | pure a => intro _ Q p s k h; rw [Sem.wp] at h ⊢; exact h k
  | raise x => intro _ Q p s k h; rw [Sem.wp] at h ⊢; exact h
  | unsupported w => intro _ Q p s k h; rw [Sem.wp] at h; exact h.elim
  | rule t k ih => intro hs Q p s hk h; rw [Sem.wp] at h ⊢; exact ih () hs Q p s hk h
  | «at» q k ih => intro hs Q p s hk h; rw [Sem.wp] at h ⊢; exact ih () hs Q q s hk h
  | load a b k ih => intro hs Q p s hk h; rw [Sem.wp] at h ⊢; obtain ⟨o, ho, h⟩ := h; exact ⟨o, ho, ih o (hs o) Q p s hk h⟩
  | update a b f k ih => intro hs Q p s hk h; rw [Sem.wp] at h ⊢; exact ⟨h.1, ih () hs.2 Q p _ (hk.update a hs.1) h.2⟩
  | loadIfAlive a k ih => intro hs Q p s hk h; rw [Sem.wp] at h ⊢; exact ih _ (hs _) Q p s hk h
  | point l k ih => intro hs Q p s hk h; rw [Sem.wp] at h ⊢; exact ih () hs Q p s hk h
  | alloc o k ih => intro hs Q p s hk h; rw [Sem.wp] at h ⊢; exact ih _ (hs _) Q p _ (hk.push o) h
  | fresh k ih => intro hs Q p s hk h; rw [Sem.wp] at h ⊢; exact ih _ (hs _) Q p _ hk h
  | ask k ih => intro hs Q p s hk h; rw [Sem.wp] at h ⊢; exact ih _ (hs _) Q p _ hk h
  | handled o k ih => intro hs Q p s hk h; rw [Sem.wp] at h ⊢; exact ih _ (hs _) Q p _ hk h
  | stack k ih => intro hs Q p s hk h; rw [Sem.wp] at h ⊢; exact ih _ (hs _) Q p _ hk h
  | _ => exact fun hs => False.elim hs
theorem wpAny_K2 {α : Type} {M : Model} {A : Around} {e : Addr} {t : Sem α} {Q : α → Shared → Prop} {E : Value → Shared → Prop} {s : Shared} (hs : Safe2 t) (hk : K2 e s.heap)
    (h : wpAny M A t (fun a s' => K2 e s'.heap → Q a s') E s) : wpAny M A t Q E s := fun Γ p hΓ => safe2_wp t hs _ p s hk (h Γ p hΓ)
theorem safe2_bind {α β : Type} {m : Sem α} {f : α → Sem β} : Safe2 m → (∀ a, Safe2 (f a)) → Safe2 (m >>= f) := by
  show Safe2 m → (∀ a, Safe2 (f a)) → Safe2 (m.bind f)
  intro hm hf
  induction m with
  | pure a => exact hf a
  | raise x => trivial
  | unsupported w => trivial
  | rule t k ih => exact ih () hm
  | «at» q k ih => exact ih () hm
  | load a b k ih => exact fun o => ih o (hm o)
  | update a b g k ih => exact ⟨hm.1, ih () hm.2⟩
  | loadIfAlive a k ih => exact fun o => ih o (hm o)
  | point l k ih => exact ih () hm
  | alloc o k ih => exact fun o => ih o (hm o)
  | fresh k ih => exact fun o => ih o (hm o)
  | ask k ih => exact fun o => ih o (hm o)
  | handled o k ih => exact fun o => ih o (hm o)
  | stack k ih => exact fun o => ih o (hm o)
  | _ => exact False.elim hm
theorem safe2_pure {α : Type} (a : α) : Safe2 (pure a : Sem α) := trivial
theorem safe2_uns {α : Type} (w : String) : Safe2 (unsupported w : Sem α) := trivial
theorem safe2_load (a : Addr) : Safe2 (load a) := fun _ => trivial
theorem safe2_ite {α : Type} {c : Prop} [Decidable c] {a b : Sem α} (ha : Safe2 a) (hb : Safe2 b) : Safe2 (if c then a else b) := by split <;> assumption
theorem safe2_fieldsOf (v : Value) : Safe2 (fieldsOf v) := by
  unfold fieldsOf
  split
  · refine safe2_bind (safe2_load _) fun o => ?_
    split <;> trivial
  · trivial
theorem safe2_field (v : Value) (i : Nat) : Safe2 (field v i) := by
  unfold field
  refine safe2_bind (safe2_fieldsOf v) fun o => ?_
  split <;> trivial
theorem ctxN_set {o : Obj} {i : Nat} {v : Value} (hi : i ≠ 2) (c : CtxN o) : CtxN (Obj.mapFields (·.setIfInBounds i v) o) := by
  obtain ⟨vs, hd, h2⟩ := c
  exact ⟨_, Obj.data_mapFields hd _, by rw [Array.getElem?_setIfInBounds_ne hi]; exact h2⟩
theorem safe2_setField (v : Value) {i : Nat} (x : Value) (hi : i ≠ 2) : Safe2 (setField v i x) := by
  unfold setField
  split
  · unfold updateField
    refine safe2_bind (safe2_load _) fun o => ?_
    split
    · exact safe2_ite ⟨fun o c => ctxN_set hi c, trivial⟩ trivial
    · trivial
  · trivial
theorem safe2_setFlight (e : Value) (f : Option Addr) : Safe2 (setFlight e f) := by
  unfold setFlight
  refine safe2_bind (safe2_field _ _) fun o => ?_
  exact safe2_ite (safe2_setField _ _ (by decide)) trivial
theorem safe2_under : Safe2 underTheClaimsCaller := fun _ => trivial
theorem safe2_behind (env : Env) (outer : List Env) : Safe2 (behindIsImport env outer) := by
  unfold behindIsImport
  refine safe2_ite trivial (safe2_ite trivial (safe2_bind (safe2_field _ _) fun o => trivial))
theorem safe2_kept (env : Env) (b : Bool) : ∀ l : List Env, Safe2 (keptBack env b l)
  | [] => by
    unfold keptBack
    exact safe2_ite trivial (safe2_bind safe2_under fun o => trivial)
  | _ :: _ => trivial
theorem safe2_ready : ∀ l : List Env, Safe2 (readyFrames l)
  | [] => trivial
  | env :: outer => by
    unfold readyFrames
    split
    · refine safe2_bind (safe2_load _) fun o => safe2_ite trivial (safe2_bind (safe2_behind _ _) fun b => safe2_bind (safe2_kept _ _ _) fun v => safe2_bind ⟨fun o c => ?_, trivial⟩ fun _ => safe2_ready outer)
      obtain ⟨vs, hd, h2⟩ := c
      exact ⟨vs, hd, h2⟩
    · trivial
theorem safe2_frameObject : ∀ l : List Env, Safe2 (frameObject l)
  | [] => trivial
  | env :: outer => by
    unfold frameObject
    exact safe2_bind (safe2_ready _) fun _ => trivial
theorem safe2_frameOf (env : Env) : Safe2 (PySem.frameOf env) := by
  unfold PySem.frameOf
  refine safe2_bind (safe2_bind (fun _ => trivial) fun _ => trivial) fun l => safe2_bind (safe2_frameObject _) fun o => ?_
  split <;> trivial
theorem safe2_place (f : Addr) (b : Bool) : Safe2 (entryPlaceOf f b) := by
  unfold entryPlaceOf
  refine safe2_bind (fun _ => trivial) fun acts => ?_
  split <;> trivial
theorem safe2_newFields (ty : String) (vs : List Value) : Safe2 (newFields ty vs) := by
  unfold newFields newObj
  dsimp only
  have tl : Safe2 (newObjAsIs (.type ty) (.fields vs.toArray) none) := by
    unfold newObjAsIs
    exact safe2_bind (fun _ => trivial) fun _ => trivial
  first
    | exact safe2_ite trivial tl
    | exact safe2_ite (safe2_bind trivial fun _ => tl) tl
    | exact safe2_bind (safe2_ite trivial trivial) fun _ => tl

theorem safe2_noteFrame (e : Value) (env : Env) : Safe2 (noteFrame e env) := by
  unfold noteFrame
  split
  · rename_i fr hfr
    refine safe2_bind (safe2_field _ _) fun head => ?_
    have rest : Safe2 (do setField e 1 (← EntryCells.newEntry head (← PySem.frameOf env) .none (rawInt fr) .none (← entryPlaceOf fr (head != .none)))) :=
      safe2_bind (safe2_frameOf _) fun f => safe2_bind (safe2_place _ _) fun pl => safe2_bind (safe2_newFields _ _) fun b => safe2_setField _ _ (by decide)
    refine safe2_ite (safe2_bind (safe2_field _ _) fun x => safe2_ite trivial (safe2_bind (safe2_setField _ _ (by decide)) fun _ => rest)) rest
  · trivial
theorem safe2_leaving (env : Env) (e : Value) : Safe2 (leaving env e) := by
  unfold leaving
  exact safe2_bind (safe2_noteFrame _ _) fun _ => safe2_setFlight _ _
end

/-! part HEnd -/
section
section
variable {prog : Program} {w : World} {A : Around} {E : Value → Shared → Prop} {s : Shared} {x it l : Addr} {i : Nat} {items : Array Value}
theorem K2.ne {h : Heap} (k : K2 x h) (hit : h.IsListIter it l i) : x ≠ it := by
  rintro rfl
  obtain ⟨o, ho, vs, hd, h2⟩ := k
  obtain ⟨o', ho', _, hd'⟩ := hit
  rw [ho] at ho'
  cases ho'
  rw [hd] at hd'
  cases hd'
  simp at h2
theorem entry_unchain : entryFor table "proto.unchain" = some Builtin.«proto.unchain» := entryFor_of_fast (by kernel_rfl)
/-- the new one is told of the one that is handled -/
theorem raiseNewH {α : Type} {Q : α → Shared → Prop} {e : Addr} {oe : Obj} {vs : Array Value} (hh : A.handled = some (.ref x)) (hk : K2 x s.heap) (hne : x ≠ e) (he : s.heap.get? e = some oe) (hd : oe.data = .fields vs) (hs : 2 < vs.size)
    (h : E (.ref e) { s with heap := s.heap.update e (Obj.mapFields (·.setIfInBounds 2 (.ref x))) }) : wpAny (model prog w) A (raiseNew (.ref e) : Sem α) Q E s := by
  unfold raiseNew
  refine wpAny_bind (wpAny_handled ?_)
  rw [hh]
  dsimp only
  obtain ⟨ox, hox, xs, hdx, h2⟩ := hk
  have hb : (Value.ref x != Value.ref e) = true := by
    rw [bne_iff_ne]
    intro q
    cases q
    exact hne rfl
  rw [if_pos hb]
  refine wpAny_bind (wpAny_holding (runValue_entry entry_unchain ?_))
  show wpAny _ _ (field (.ref x) 2 >>= _) _ _ s
  refine wpAny_bind (wpAny_field hox hdx h2 ?_)
  show wpAny _ _ (if (Value.none == Value.none) = true then _ else _) _ _ s
  rw [if_pos (by decide)]
  refine wpAny_pure ⟨_, rfl, ?_⟩
  refine wpAny_bind ?_
  show wpAny _ _ (setField (.ref e) 2 (.ref x)) _ _ s
  exact wpAny_setField he hd hs (wpAny_throw h)
theorem pyNext_endH {Q : Option Value → Shared → Prop} (hh : A.handled = some (.ref x)) (hk : K2 x s.heap) (hit : s.heap.IsListIter it l i) (hl : s.heap.IsList l items) (hx : items[i]? = none)
    (hQ : ∀ h', Heap.ExtBut it s.heap h' → Q none { s with heap := h' }) : wpAny (model prog w) A (pyNext (.ref it)) Q E s := by
  obtain ⟨o, ho, hc, hd⟩ := id hit
  obtain ⟨ol, hol, _, nl, hdl⟩ := hl
  unfold pyNext
  refine wpAny_bind (wpAny_attempt (wpAny_callSpecial?_slot (name := PySem.Str.ofString "__next__") hit.typeIs slot_listiter_next
    (wpAny_call_entry slot_listiter_next hit.typeIs entry_listiter_next ?_ (args_listiter_next _))))
  show wpAny _ _ (field (.ref it) 0 >>= _) _ _ s
  refine wpAny_bind (wpAny_field ho hd (x := .ref l) rfl ?_)
  show wpAny _ _ (if (Value.ref l == Value.none) = true then _ else _) _ _ s
  rw [if_neg (show ¬ ((Value.ref l == Value.none) = true) from Bool.false_ne_true)]
  show wpAny _ _ (field (.ref it) 1 >>= _) _ _ s
  refine wpAny_bind (wpAny_field ho hd (x := .int i 0) rfl ?_)
  show wpAny _ _ (seqItems? (.ref l) >>= _) _ _ s
  refine wpAny_bind (wpAny_seqItems hol hdl ?_)
  simp only [Int.toNat_natCast, hx]
  refine wpAny_bind (wpAny_rule (wpAny_bind (wpAny_setField ho hd (by simp) ?_)))
  show wpAny _ _ (newExc (.type "StopIteration") [] >>= _) _ _ _
  refine wpAny_bind ?_
  simp only [newExc, newTuple]
  refine wpAny_bind (wpAny_newObj_type ?_ (by size_fits))
  refine wpAny_bind (m := firstArgMember _ _) (wpAny_of_eq (a := Value.none) (by first | rfl | (simp only [firstArgMember]; rfl)) ?_)
  refine wpAny_newObj_type ?_ (by size_fits)
  have k1 := hk.update it (f := Obj.mapFields (·.setIfInBounds 0 .none)) fun o c => ctxN_set (by decide) c
  have k2 := k1.push { cls := .type "tuple", dict := none, data := .seq ([] : List Value).toArray }
  have hne : x ≠ ((s.heap.update it (Obj.mapFields (·.setIfInBounds 0 .none))).push { cls := .type "tuple", dict := none, data := .seq ([] : List Value).toArray }).objs.size := by
    obtain ⟨o2, ho2, _⟩ := k2
    exact Nat.ne_of_lt (Heap.lt_size ho2)
  refine raiseNewH (by exact hh) (K2.push k2 _) hne (Heap.get?_push_size _ rfl) rfl (by simp; omega) ?_
  have hlast := Heap.get?_update_self (Obj.mapFields (·.setIfInBounds 2 (.ref x))) (Heap.get?_push_size ((s.heap.update it (Obj.mapFields (·.setIfInBounds 0 .none))).push { cls := .type "tuple", dict := none, data := .seq ([] : List Value).toArray }) (o := { cls := .type "StopIteration", dict := none, data := .fields (#[.ref (s.heap.update it (Obj.mapFields (·.setIfInBounds 0 .none))).objs.size, .none, .none, .none, .bool false, .none] ++ ownMembersOf (.type "StopIteration") []) }) rfl) (Obj.isFreed_of_fields (Obj.data_mapFields rfl _))
  refine wpAny_bind (wpAny_isInstance (T := "StopIteration") (b := true) ⟨_, hlast, Obj.cls_mapFields _ _⟩ isSubtype_stop ?_)
  refine wpAny_pure (hQ _ ?_)
  have e1 := ((Heap.SameBut.update s.heap it (Obj.mapFields (·.setIfInBounds 0 .none))).extBut.push ({ cls := .type "tuple", dict := none, data := .seq ([] : List Value).toArray })).push ({ cls := .type "StopIteration", dict := none, data := .fields (#[.ref (s.heap.update it (Obj.mapFields (·.setIfInBounds 0 .none))).objs.size, .none, .none, .none, .bool false, .none] ++ ownMembersOf (.type "StopIteration") []) })
  intro b o hb hbo
  have h3 := e1 b o hb hbo
  refine (Heap.get?_update_other _ _ ?_).trans h3
  have h4 : b < s.heap.objs.size := Heap.lt_size hbo
  intro q
  have h5 : ((s.heap.update it (Obj.mapFields (·.setIfInBounds 0 .none))).push { cls := .type "tuple", dict := none, data := .seq ([] : List Value).toArray }).objs.size = s.heap.objs.size + 1 := by rw [Heap.size_push, (Heap.SameBut.update s.heap it _).1]
  rw [← q, h5] at h4
  exact Nat.lt_irrefl _ (Nat.lt_of_succ_lt h4)
end
end

/-! part HComp -/
section
section
open LCg
variable {prog : Program} {w : World} {A : Around} {E : Value → Shared → Prop} {s : Shared} {h₀ : Heap} {L : Addr} {m : PySem.Str → Option Value} {env : Env} {x : Addr} {ox : Obj}
theorem walksH (hh : A.handled = some (.ref x)) (hc : CtxN ox) (I ax : Addr) (hne : ax ≠ I) (hxI : x ≠ I) (items : Array Value) :
    Walks prog w A I [I, ax, x] [I] items.size (fun i v => items[i]? = some v) (fun i h => (h.IsListIter I ax i ∧ h.IsList ax items) ∧ h.get? x = some ox) where
  sub := fun b hb => by simp at hb; simp [hb]
  frame := fun _ _ _ st hk => ⟨⟨st.1.1.at fun o e => hk I (by simp) o e, st.1.2.at fun o e => hk ax (by simp) o e⟩, hk x (by simp) _ st.2⟩
  item := fun i s Q E hi st hQ => by
    refine wpAny_pyNext_list_item st.1.1 st.1.2 (x := items[i]) (by simp [hi]) fun h' hit' hs' => ?_
    exact hQ _ h' s.toks (by simp [hi]) ⟨⟨hit', st.1.2.extBut hs'.extBut hne⟩, hs'.extBut _ _ hxI st.2⟩ fun b o hb e => hs'.extBut b o (fun h => hb (by simp [h])) e
  done := fun s Q E st hQ => pyNext_endH hh ⟨_, st.2, hc⟩ st.1.1 st.1.2 (by simp) fun h' he' => hQ h' s.toks fun b o hb e => he' b o (fun h => hb (by simp [h])) e
  self := fun _ _ _ _ st hQ => wpAny_pyIter_listiter st.1.1 hQ
def SrcH (prog : Program) (w : World) (A : Around) (h₀ : Heap) (L : Addr) (m : PySem.Str → Option Value) (env : Env) (elt : PySem.Expr) (x : PySem.Str) (scope : Scope) (cl : List (PySem.Str × Addr)) (Q : Value → Shared → Prop) (v : Value) (s₁ : Shared) : Prop :=
  ∃ (ax : Addr) (vs : List Value) (k : Nat) (news : List (Addr × Obj)) (e : Addr) (oe : Obj), v = .ref ax ∧ A.handled = some (.ref e) ∧ CtxN oe ∧ (e, oe) ∈ news ∧ (ax, listOf vs.toArray k) ∈ news ∧ Fr h₀ L s₁.heap m ∧ News h₀ L s₁.heap news ∧ vs.length ≤ 16777216 ∧
    ∀ s₂ : Shared, (∃ h, s₂ = { s₁ with heap := h }) → CompRest prog w A h₀ L m env elt x scope cl s₂ (fun nw => (e, oe) ∈ nw ∧ (ax, listOf vs.toArray k) ∈ nw) (fun i v => vs[i]? = some v) (FinE h₀ L m s₂ Q) vs.length 0 [] news
theorem ListComp_H {elt iter : PySem.Expr} {x : PySem.Str} {px : Pos} {scope : Scope} {cl : List (PySem.Str × Addr)} {pos : Pos} {Q : Value → Shared → Prop} (_F₀ : Fr h₀ L s.heap m)
    (hclos : closureFor scope env = pure cl) (hcell : ∀ y ∈ scope.names, y.2 ≠ .cell) (hkind : scope.kind = .function)
    (hnames : ∀ y ∈ scope.names, y.2 = .local → scope.names.lookup y.1 = some .local) (hx : scope.names.lookup x = some .local)
    (h : wpAny (model prog w) A (eval iter env) (SrcH prog w A h₀ L m env elt x scope cl Q) E s)
    (hs : ∀ x, foldedSetIterable iter env x = pure x := by intro _; rfl) :
    wpAny (model prog w) A (eval (.ListComp elt [⟨.Name x px, iter, [], 0⟩] scope pos) env) Q E s := by
  rw [eval_ListComp]
  refine wpAny_comprehension_free (use := none) rfl hs hclos hkind hnames (wpAny_mono h (fun xv s₁ h₁ => ?_) fun _ _ e => e)
  obtain ⟨ax, vs, k, news, e, oe, rfl, hh, hce, hme, hma, F, N, hsz, R⟩ := h₁
  have e2 : sizeLine = 16777216 := by decide
  have hl := News.isList N hma
  have hlt : ax < s₁.heap.objs.size := Heap.lt_size (N _ hma).1
  have hlte : e < s₁.heap.objs.size := Heap.lt_size (N _ hme).1
  refine wpAny_pyIter_list hl ?_
  have up : ∀ b o, s₁.heap.get? b = some o → (s₁.heap.push { cls := .type "list_iterator", data := .fields #[.ref ax, .int 0 0] }).get? b = some o := fun b o e => Heap.get?_push_of_some _ e
  have hn : vs.toArray.size = vs.length := by simp
  have hP : (fun (i : Nat) v => vs[i]? = some v) = (fun i v => vs.toArray[i]? = some v) := by funext i v; simp
  rw [hP, ← hn] at R
  refine block_U (walksH hh hce s₁.heap.objs.size ax (Nat.ne_of_lt hlt) (Nat.ne_of_lt hlte) vs.toArray) (by rw [hn, e2]; exact hsz) (fun i h st => by obtain ⟨o, e, _⟩ := st.1.1; exact ⟨o, e⟩) ?_ hcell hkind hx ⟨⟨⟨_, Heap.get?_push_size _ rfl, rfl, rfl⟩, hl.push _⟩, up _ _ (N _ hme).1⟩ (fun b hb => ?_)
    (F.keeps up) (N.grown up) (Nat.ne_of_lt F.ns.lt) (next_is_new F) (fun p hp => Nat.ne_of_lt (Heap.lt_size (N p hp).1)) ⟨hme, hma⟩ (R _ ⟨_, rfl⟩) ?_
  · intro i h h' o nw st e1 e' _ N' S'
    exact ⟨⟨by obtain ⟨o', q, r⟩ := st.1.1; rw [e1] at q; cases q; exact ⟨o, e', r⟩, News.isList N' S'.2⟩, (N' _ S'.1).1⟩
  · show b < (s₁.heap.push _).objs.size
    rw [Heap.size_push]
    rcases List.mem_cons.mp hb with rfl | hb
    · exact Nat.lt_succ_self _
    · rcases List.mem_cons.mp hb with rfl | hb
      · exact Nat.lt_succ_of_lt hlt
      · rw [List.mem_singleton.mp hb]; exact Nat.lt_succ_of_lt hlte
  · intro D C h tk m' ys news' F' N' o1 hn hC₀ hD₀ hCL hDL hCD offC fin
    refine ⟨m', hn, fun h'' hs'' => fin D h'' tk (F'.change hs'' hCL hC₀) (fun p hp => ?_) o1⟩
    refine ⟨hs''.extBut _ _ ?_ (N' p hp).1, (N' p hp).2⟩
    rcases List.mem_cons.mp hp with rfl | hp
    · exact Ne.symm hCD
    · exact offC p hp
theorem sumH {l : Addr} {vs : List Value} {ns : List Int} {news : List (Addr × Obj)} {Q : Value → Shared → Prop} (hh : A.handled = some (.ref x)) (hc : CtxN ox) (F : Fr h₀ L s.heap m) (N : News h₀ L s.heap news) (hx : (x, ox) ∈ news) (hl : s.heap.IsList l vs.toArray) (hi : IntsAre vs ns)
    (h : ∀ h' tk t', Fr h₀ L h' m → News h₀ L h' news → Q (.int ns.sum t') { s with heap := h', toks := tk }) : wpAny (model prog w) A (call (.builtin "sum") [.ref l]) Q E s := by
  obtain ⟨xs, hxs⟩ := hi.allInts.items
  have hl' : s.heap.IsList l (intItems xs) := hxs ▸ hl
  have hxl := Heap.lt_size (N _ hx).1
  have e1 : ns = xs.toList.map (·.1) := by
    rw [← nums_intItems, ← hxs]
    exact (show numsOf vs.toArray.toList = ns from hi.numsOf).symm
  have e2 : preSum (numAt xs) xs.size = ns.sum := by
    rw [preSum_eq, List.take_of_length_le (by simp), e1]
  refine call_sum_walkG (iter_intList hl' fun s₂ e st hfp hlI => ?_)
  subst e
  have hbe : ∀ b ∈ [s.heap.objs.size, l, x], b < (s.heap.push ({ cls := .type "list_iterator", data := .fields #[.ref l, .int 0 0] } : Obj)).objs.size := by
    intro b hb
    rcases List.mem_cons.mp hb with rfl | hb
    · exact hfp _ (.head _)
    · rcases List.mem_cons.mp hb with rfl | hb
      · exact hfp _ (.tail _ (.head _))
      · rw [List.mem_singleton.mp hb, Heap.size_push]; exact Nat.lt_succ_of_lt hxl
  refine ⟨_, _, _, _, _, _, numAt xs, rfl, walksH (A := A.in1) (by exact hh) hc _ l hlI (Nat.ne_of_lt hxl) (intItems xs), ⟨st, Heap.get?_push_of_some _ (N _ hx).1⟩, hbe, (fun _ _ => intItems_at), fun h' tk t' hk => ?_⟩
  have up : ∀ b o, s.heap.get? b = some o → h'.get? b = some o := fun b o e => hk b o (fun hm => by rw [List.mem_singleton.mp hm] at e; exact Nat.lt_irrefl _ (Heap.lt_size e)) (Heap.get?_push_of_some _ e)
  have := h h' tk t' (F.keeps up) (N.grown up)
  rw [← e2] at this
  simpa [intItems] using this
end
end

/-! part HCatch -/
section
section
variable {prog : Program} {w : World} {A₀ : Around} {E : Value → Shared → Prop} {s' : Shared} {base g G : Heap} {outer : List Env} {L a e t : Addr} {m : PySem.Str → Option Value} {name : PySem.Str} {scope : Scope} {cd : Value}
  {vs : List Value} {b₀ : Stmt} {suite : List Stmt} {pos np : Pos} {rest : List ExceptHandler} {Q : Flow → Shared → Prop} {news : List (Addr × Obj)} {KF : Frag}
  {p : Program} {loose : List PySem.Str} {mean : ExcName → Option Value} {mg mb : PySem.Str → Option Value} {x : PySem.Str} {T' : String}
theorem caughtK (R : RaisedS base G (envOf name scope L a cd :: outer) e (.type T') t vs news s'.heap) (hK : K2 e s'.heap) (F : Fr g L G m) (B : Below A₀ base outer g) (hsm : G.UpToSlots s'.heap) (XB : KF.In base) (TB : Top p loose mean mg mb base)
    (ex : nsIn KF mainGlobals x = some none) (hv : bootBuiltins x = some (.type T')) (hn' : x ≠ "__name__")
    (hexc : isSubtype (.type T') (.type "BaseException") = pure true) (hnt : isSubtype (.type ((Manifest.find? T').elim "type" fun y => y.metatype)) (.type "tuple") = pure false) (hsub : isSubtype (.type T') (.type T') = pure true)
    (k : ∀ h' g' oe, KtsTurn (outer.filterMap (·.frame)) g g' → Fr g' L h' m → CtxN oe → News g' L h' ((e, oe) :: news) → Below A₀ base outer g' → KF.In g' → Top p loose mean mg mb g' →
      wpAny (model prog w) ((A₀.deeper (envOf name scope L a cd)).mark (some (.ref e))) (execs (b₀ :: suite) (envOf name scope L a cd)) Q (fun _ _ => False) { s' with heap := h' })
    (hk : scope.kind = .function) (hx : (envOf name scope L a cd).kindOf x = some .globalImplicit) (hd : (x == ("__debug__" : PySem.Str)) = false) :
    wpAny (model prog w) (A₀.deeper (envOf name scope L a cd)) (noteFrame (.ref e) (envOf name scope L a cd))
      (fun _ s₂ => wpAny (model prog w) (A₀.deeper (envOf name scope L a cd)) (setFlight (.ref e) none) (fun _ s₃ =>
        wpAny (model prog w) (A₀.deeper (envOf name scope L a cd)) (handleBy (.ref e) (envOf name scope L a cd) (.ExceptHandler (some (.Name x np)) none (b₀ :: suite) pos :: rest)) Q E s₃) E s₂) E s' := by
  obtain ⟨⟨W, hW, hWG, hl, hfl, hnew⟩, htup⟩ := R
  have hL : W.get? L = none := by
    obtain ⟨_, ⟨L', _, hf, hn', _⟩, _⟩ := hfl.2.2.1
    obtain rfl : L = L' := Option.some.inj hf
    exact hn'
  refine wpAny_K2 (safe2_noteFrame _ _) hK (wpAny_looks_onW (Around.frames_deeper B.stack) rfl hfl fun h₄ hheld₄ hsm₄ hK₄ => ?_)
  refine wpAny_K2 (safe2_setFlight _ _) hK₄ (wpAny_landsW hheld₄ fun h₅ hheld hsm₅' hK₅ => ?_)
  have hsm₅ := hsm₄.trans hsm₅'
  obtain ⟨g₅, T₅, F₅, B₅⟩ := kts_ground B F hWG hheld.1 (hsm.trans hsm₅)
  have X₅ : KF.In g₅ := XB.keeps B₅.stays
  have P₅ : TopRead p loose mg mb g₅ := topRead_of (TB.keeps B₅.stays)
  obtain ⟨ob, hob, hobc⟩ := hheld.there
  refine wpAny_handleBy_builtin (X := T') (T := T') (b := true) hexc hnt hsub (name_B F₅ X₅ P₅ ex hv hn' ⟨rfl, ⟨ob, hob, hobc⟩, ?_⟩ hk hx hd)
  rw [if_pos rfl]
  refine wpAny_K2 (safe2_setFlight _ _) hK₅ (lands_againW hheld fun h₆ hfl₆ hsm₆ hK₆ => ?_)
  have hsmA := (hsm.trans hsm₅).trans hsm₆
  obtain ⟨g₆, T₆, F₆, B₆⟩ := kts_ground B F hWG hfl₆.1 hsmA
  obtain ⟨oe, hoe, hce⟩ := id hK₆
  have ne₆ : g₆.get? e = none := T₆.none_ _ (kts_fresh F hWG hfl₆.2.1 fun o ho mm => by
    obtain ⟨_, o', ho', hnd⟩ := B.frames.mem mm
    rw [ho] at ho'
    cases ho'
    obtain ⟨sl, hs⟩ := hsmA _ _ (F.keep _ _ ho) hnd
    rw [hoe] at hs
    cases hs
    obtain ⟨ws, hws, _⟩ := hce
    exact hnd _ hws)
  have N₆ : News g₆ L h₆ [(e, oe)] := News.more F₆ News.nil hoe (fun es n q => by obtain ⟨ws, hws, _⟩ := hce; rw [hws] at q; cases q) ne₆
  have Nl : News g₆ L h₆ news := fun q hq => ⟨hfl₆.1 _ _ (hl q hq).1, (fun z => by have := (hl q hq).1; rw [z, hL] at this; cases this), T₆.none_ _ (kts_none F.keep (hl q hq).2.1)⟩
  have NN : News g₆ L h₆ ((e, oe) :: news) := fun q hq => by
    rcases List.mem_cons.mp hq with rfl | hq
    · exact N₆ _ (.head _)
    · exact Nl q hq
  exact wpAny_mono (k h₆ g₆ oe T₆ F₆ hce NN B₆ (XB.keeps B₆.stays) (TB.keeps B₆.stays)) (fun _ _ q => q) (fun _ _ q => q.elim)
end
end

/-! part Sre1 -/
section
section
open PySem.Sre
abbrev code1 : Array Nat := #[14, 4, 0, 1, 1, 6, 1, 16, 46, 1]
abbrev code2 : Array Nat := #[14, 9, 4, 1, 2, 16, 10, 16, 13, 0, 7, 7, 16, 13, 16, 10, 15, 18, 5, 16, 10, 15, 13, 11, 16, 13, 5, 5, 0, 16, 10, 1, 15, 2, 0, 1]
abbrev mm (code : Array Nat) (l : List Nat) (start pc pos handed : Nat) (om : Bool) (frames : List Sre.Frame) (weight : Nat) (answer : Option Bool) (seen : Sre.Seen) : Sre.M :=
  { code, text := l.toArray, lim := l.length, start, lastStart := l.length, wholeText := false, mustAdvance := false, pc, pos, handed, outermost := om, marks := #[],
    lastmark := -1, lastindex := -1, loops := #[], inner := none, frames, weight, answer, seen, outcome := none }
def bol (l : List Nat) (s : Nat) : Bool := s == 0 || l.toArray.getD (s - 1) 0 == 10
section
variable {l : List Nat} {st pos h w s : Nat} {om : Bool} {fr : List Sre.Frame} {seen : Sre.Seen}
theorem e1_5 : (mm code1 l st 5 pos h om fr w none seen).step = if bol l pos = true then mm code1 l st 7 pos h om fr w none ((seen.add 6).add 44) else mm code1 l st 5 pos h om fr w (some false) ((seen.add 6).add 44) := rfl
theorem e1_7 : (mm code1 l st 7 pos h om fr w none seen).step = if l.length ≤ pos then mm code1 l st 7 pos h om fr w (some false) (seen.add 16) else
    match (Except.ok (l.toArray.getD pos 0 == 46, seen.add 16) : Except String (Bool × Sre.Seen)) with
    | .error why => (mm code1 l st 7 pos h om fr w none (seen.add 16)).stick why
    | .ok (false, seen) => mm code1 l st 7 pos h om fr w (some false) seen
    | .ok (true, seen) => mm code1 l st 9 (pos + 1) h om fr w none seen := rfl
theorem e1_9 : (mm code1 l st 9 pos h om fr w none seen).step = mm code1 l st 9 pos pos om fr w (some true) (seen.add 1) := by
  cases om <;> rfl
abbrev fr1 (s : Nat) (om : Bool) : Sre.Frame := { wait := .nextStart, pc := 5, pos := s, outermost := om }
abbrev st1 (l : List Nat) (s : Nat) (om : Bool) (seen : Sre.Seen) : Sre.M := mm code1 l s 5 s s om [fr1 s om] 1 none seen
theorem r1_yes {pc pos : Nat} {o' : Bool} : (mm code1 l st pc pos h o' [fr1 s om] 1 (some true) seen).step = mm code1 l st 5 s h om [] 0 (some true) seen := rfl
theorem r1_no {pc pos : Nat} {o' : Bool} : (mm code1 l st pc pos h o' [fr1 s om] 1 (some false) seen).step = if s < l.length then st1 l (s + 1) false seen else mm code1 l st 5 s h om [] 0 (some false) seen := rfl
theorem fin_yes {code : Array Nat} {pc : Nat} : (mm code l st pc pos h om [] w (some true) seen).step = { mm code l st pc pos h om [] w (some true) seen with outcome := some .matched } := rfl
theorem fin_no {code : Array Nat} {pc : Nat} : (mm code l st pc pos h om [] w (some false) seen).step = { mm code l st pc pos h om [] w (some false) seen with outcome := some .failed } := rfl
theorem run_mm {code : Array Nat} {pc n : Nat} {ans : Option Bool} : M.runFor (n + 1) (mm code l st pc pos h om fr w ans seen) = M.runFor n (mm code l st pc pos h om fr w ans seen).step := rfl
end
/-- the machine ends, within k steps, as told -/
def EndsAs (k : Nat) (m : Sre.M) (r : Option (Nat × Nat)) : Prop :=
  ∃ m', M.runFor k m = m' ∧ match r with
    | some (b, e) => m'.outcome = some .matched ∧ m'.start = b ∧ m'.handed = e
    | none => m'.outcome = some .failed
theorem EndsAs.step {k : Nat} {m : Sre.M} {r : Option (Nat × Nat)} (ho : m.outcome = none) (h : EndsAs k m.step r) : EndsAs (k + 1) m r := by
  obtain ⟨m', e, q⟩ := h
  refine ⟨m', ?_, q⟩
  rw [M.runFor, ho]; exact e
theorem EndsAs.one {m m' : Sre.M} {r : Option (Nat × Nat)} (ho : m.outcome = none) (e : m.step = m') (q : match r with
    | some (b, e) => m'.outcome = some .matched ∧ m'.start = b ∧ m'.handed = e
    | none => m'.outcome = some .failed) : EndsAs 1 m r := ⟨m', by rw [M.runFor, ho]; exact e, q⟩
theorem EndsAs.to {k : Nat} {m m1 : Sre.M} {r : Option (Nat × Nat)} (ho : m.outcome = none) (e : m.step = m1) (h : EndsAs k m1 r) : EndsAs (k + 1) m r := .step ho (by rw [e]; exact h)
def find1 (l : List Nat) : Nat → Nat → Option (Nat × Nat)
  | 0, _ => none
  | d + 1, s => if bol l s = true ∧ l.toArray.getD s 0 = 46 then some (s, s + 1) else find1 l d (s + 1)
theorem search1 (l : List Nat) : ∀ (d s : Nat) (om : Bool) (seen : Sre.Seen), s + d = l.length → ∃ k, k ≤ 3 * d + 5 ∧ EndsAs k (st1 l s om seen) (find1 l d s)
  | 0, s, om, seen, hd => by
    refine ⟨?k, ?_, ?_⟩
    case k => exact (if bol l s = true then 4 else 3)
    · split <;> omega
    · rw [find1]
      by_cases hb : bol l s = true
      · rw [if_pos hb]
        refine EndsAs.to rfl (by rw [e1_5, if_pos hb]) ?_
        refine EndsAs.to rfl (by rw [e1_7, if_pos (by omega)]) ?_
        refine EndsAs.to rfl (by rw [r1_no, if_neg (by omega)]) ?_
        exact EndsAs.one rfl fin_no rfl
      · rw [if_neg hb]
        refine EndsAs.to rfl (by rw [e1_5, if_neg hb]) ?_
        refine EndsAs.to rfl (by rw [r1_no, if_neg (by omega)]) ?_
        exact EndsAs.one rfl fin_no rfl
  | d + 1, s, om, seen, hd => by
    rw [find1]
    by_cases hb : bol l s = true
    · by_cases hc : l.toArray.getD s 0 = 46
      · rw [if_pos ⟨hb, hc⟩]
        have hc' : (l.toArray.getD s 0 == 46) = true := by rw [hc]; rfl
        refine ⟨5, by omega, ?_⟩
        refine EndsAs.to rfl (by rw [e1_5, if_pos hb]) ?_
        refine EndsAs.to rfl (by rw [e1_7, if_neg (by omega), hc']) ?_
        refine EndsAs.to rfl e1_9 ?_
        refine EndsAs.to rfl r1_yes ?_
        exact EndsAs.one rfl fin_yes ⟨rfl, rfl, rfl⟩
      · rw [if_neg (fun q => hc q.2)]
        have hc' : (l.toArray.getD s 0 == 46) = false := by simpa using hc
        obtain ⟨k, hk, h⟩ := search1 l d (s + 1) false (((seen.add 6).add 44).add 16) (by omega)
        refine ⟨k + 3, by omega, ?_⟩
        refine EndsAs.to rfl (by rw [e1_5, if_pos hb]) ?_
        refine EndsAs.to rfl (by rw [e1_7, if_neg (by omega), hc']) ?_
        exact EndsAs.to rfl (by rw [r1_no, if_pos (by omega)]) h
    · rw [if_neg (fun q => hb q.1)]
      obtain ⟨k, hk, h⟩ := search1 l d (s + 1) false ((seen.add 6).add 44) (by omega)
      refine ⟨k + 2, by omega, ?_⟩
      refine EndsAs.to rfl (by rw [e1_5, if_neg hb]) ?_
      exact EndsAs.to rfl (by rw [r1_no, if_pos (by omega)]) h
theorem fs1 (l : List Nat) (s : Nat) : Sre.forSearch code1 l.toArray 0 s l.length false =
    if (decide (s > l.length) || decide (l.length - s < 1)) = true then { mm code1 l s 5 s s true [] 0 (some false) (({} : Sre.Seen).add 14) with lastStart := 0 } else st1 l s true (({} : Sre.Seen).add 14) := rfl
theorem forSearch1 (l : List Nat) (s : Nat) (h : s ≤ l.length) : ∃ k, k ≤ 3 * l.length + 6 ∧ EndsAs k (Sre.forSearch code1 l.toArray 0 s l.length false) (find1 l (l.length - s) s) := by
  rw [fs1]
  by_cases hs : s = l.length
  · subst hs
    refine ⟨1, by omega, ?_⟩
    rw [if_pos (by simp), Nat.sub_self]
    exact EndsAs.one rfl rfl rfl
  · rw [if_neg (by simp; omega)]
    obtain ⟨k, hk, e⟩ := search1 l (l.length - s) s true (({} : Sre.Seen).add 14) (by omega)
    exact ⟨k, by omega, e⟩

/-! ### the second pattern -/
section
variable {l : List Nat} {st pos h w s : Nat} {om : Bool} {fr : List Sre.Frame} {seen : Sre.Seen}
abbrev fr2 (s : Nat) (om : Bool) : Sre.Frame := { wait := .nextStart, pc := 10, pos := s, outermost := om }
abbrev fb2 (pc s : Nat) (om : Bool) : Sre.Frame := { wait := .nextBranch, pc, pos := s, outermost := om, kept := { lastmark := -1, lastindex := -1, whole := false, marks := #[] } }
abbrev fn2 (s : Nat) (om : Bool) : Sre.Frame := { wait := .lookNot, pc := 26, pos := s, outermost := om, kept := { lastmark := -1, lastindex := -1, whole := false, marks := #[] } }
abbrev st2 (l : List Nat) (s : Nat) (om : Bool) (seen : Sre.Seen) : Sre.M := mm code2 l s 10 s s om [fr2 s om] 1 none seen
theorem e2_10 : (mm code2 l st 10 pos h om [fr2 s om] 1 none seen).step = mm code2 l st 12 pos pos om [fb2 11 pos om, fr2 s om] 2 none (seen.add 7) := rfl
abbrev lit (m : Sre.M) (b : Bool) (no yes : Sre.Seen → Sre.M) (seen : Sre.Seen) : Sre.M :=
    match (Except.ok (b, seen.add 16) : Except String (Bool × Sre.Seen)) with
    | .error why => m.stick why
    | .ok (false, seen) => no seen
    | .ok (true, seen) => yes seen
theorem e2_12 : (mm code2 l st 12 pos h om fr w none seen).step = if l.length ≤ pos then mm code2 l st 12 pos h om fr w (some false) (seen.add 16) else
    lit (mm code2 l st 12 pos h om fr w none (seen.add 16)) (l.toArray.getD pos 0 == 13) (fun seen => mm code2 l st 12 pos h om fr w (some false) seen) (fun seen => mm code2 l st 14 (pos + 1) h om fr w none seen) seen := rfl
theorem e2_14 : (mm code2 l st 14 pos h om fr w none seen).step = if l.length ≤ pos then mm code2 l st 14 pos h om fr w (some false) (seen.add 16) else
    lit (mm code2 l st 14 pos h om fr w none (seen.add 16)) (l.toArray.getD pos 0 == 10) (fun seen => mm code2 l st 14 pos h om fr w (some false) seen) (fun seen => mm code2 l st 16 (pos + 1) h om fr w none seen) seen := rfl
theorem e2_16 : (mm code2 l st 16 pos h om fr w none seen).step = mm code2 l st 35 pos h om fr w none (seen.add 15) := rfl
theorem e2_35 : (mm code2 l st 35 pos h om fr w none seen).step = mm code2 l st 35 pos pos om fr w (some true) (seen.add 1) := by
  cases om <;> rfl
theorem r2_yes {pc : Nat} {o' : Bool} : (mm code2 l st pc pos h o' [fr2 s om] 1 (some true) seen).step = mm code2 l st 10 s h om [] 0 (some true) seen := rfl
theorem rb_yes {pc b p' : Nat} {o' : Bool} : (mm code2 l st pc pos h o' [fb2 b p' om, fr2 s om] 2 (some true) seen).step = mm code2 l st b p' h om [fr2 s om] 1 (some true) seen := rfl
theorem rb_no11 {pc p' : Nat} {o' : Bool} : (mm code2 l st pc pos h o' [fb2 11 p' om, fr2 s om] 2 (some false) seen).step = mm code2 l st 19 p' p' om [fb2 18 p' om, fr2 s om] 2 none seen := rfl
theorem e2_19 : (mm code2 l st 19 pos h om fr w none seen).step = if l.length ≤ pos then mm code2 l st 19 pos h om fr w (some false) (seen.add 16) else
    lit (mm code2 l st 19 pos h om fr w none (seen.add 16)) (l.toArray.getD pos 0 == 10) (fun seen => mm code2 l st 19 pos h om fr w (some false) seen) (fun seen => mm code2 l st 21 (pos + 1) h om fr w none seen) seen := rfl
theorem e2_21 : (mm code2 l st 21 pos h om fr w none seen).step = mm code2 l st 35 pos h om fr w none (seen.add 15) := rfl
theorem rb_no18 {pc p' : Nat} {o' : Bool} : (mm code2 l st pc pos h o' [fb2 18 p' om, fr2 s om] 2 (some false) seen).step = mm code2 l st 24 p' p' om [fb2 23 p' om, fr2 s om] 2 none seen := rfl
theorem e2_24 : (mm code2 l st 24 pos h om fr w none seen).step = if l.length ≤ pos then mm code2 l st 24 pos h om fr w (some false) (seen.add 16) else
    lit (mm code2 l st 24 pos h om fr w none (seen.add 16)) (l.toArray.getD pos 0 == 13) (fun seen => mm code2 l st 24 pos h om fr w (some false) seen) (fun seen => mm code2 l st 26 (pos + 1) h om fr w none seen) seen := rfl
theorem e2_26 : (mm code2 l st 26 pos h om [fb2 23 s om, fr2 s om] 2 none seen).step = mm code2 l st 29 pos pos false [fn2 pos om, fb2 23 s om, fr2 s om] 3 none (seen.add 5) := rfl
theorem e2_29 : (mm code2 l st 29 pos h om fr w none seen).step = if l.length ≤ pos then mm code2 l st 29 pos h om fr w (some false) (seen.add 16) else
    lit (mm code2 l st 29 pos h om fr w none (seen.add 16)) (l.toArray.getD pos 0 == 10) (fun seen => mm code2 l st 29 pos h om fr w (some false) seen) (fun seen => mm code2 l st 31 (pos + 1) h om fr w none seen) seen := rfl
theorem rn_no {pc p' : Nat} {o' : Bool} : (mm code2 l st pc pos h o' [fn2 p' om, fb2 23 s om, fr2 s om] 3 (some false) seen).step = mm code2 l st 32 p' h om [fb2 23 s om, fr2 s om] 2 none seen := rfl
theorem e2_32 : (mm code2 l st 32 pos h om fr w none seen).step = mm code2 l st 35 pos h om fr w none (seen.add 15) := rfl
end
def find2 (l : List Nat) : Nat → Nat → Option (Nat × Nat)
  | 0, _ => none
  | d + 1, s => if l.toArray.getD s 0 = 13 then (if s + 1 < l.length ∧ l.toArray.getD (s + 1) 0 = 10 then some (s, s + 2) else some (s, s + 1)) else if l.toArray.getD s 0 = 10 then some (s, s + 1) else find2 l d (s + 1)
theorem at2 (l : List Nat) (s : Nat) (om : Bool) (seen : Sre.Seen) (hs : s < l.length) (hc : l.toArray.getD s 0 = 13 ∨ l.toArray.getD s 0 = 10) :
    ∃ k, k ≤ 20 ∧ EndsAs k (st2 l s om seen) (if l.toArray.getD s 0 = 13 then (if s + 1 < l.length ∧ l.toArray.getD (s + 1) 0 = 10 then some (s, s + 2) else some (s, s + 1)) else some (s, s + 1)) := by
  by_cases h13 : l.toArray.getD s 0 = 13
  · rw [if_pos h13]
    have b13 : (l.toArray.getD s 0 == 13) = true := by rw [h13]; rfl
    have b10 : (l.toArray.getD s 0 == 10) = false := by rw [h13]; rfl
    by_cases hn : s + 1 < l.length ∧ l.toArray.getD (s + 1) 0 = 10
    · rw [if_pos hn]
      have c10 : (l.toArray.getD (s + 1) 0 == 10) = true := by rw [hn.2]; rfl
      refine ⟨8, by omega, ?_⟩
      refine EndsAs.to rfl e2_10 ?_
      refine EndsAs.to rfl (by rw [e2_12, if_neg (by omega), b13]) ?_
      refine EndsAs.to rfl (by rw [e2_14, if_neg (by omega), c10]) ?_
      refine EndsAs.to rfl e2_16 ?_
      refine EndsAs.to rfl e2_35 ?_
      refine EndsAs.to rfl rb_yes ?_
      refine EndsAs.to rfl r2_yes ?_
      exact EndsAs.one rfl fin_yes ⟨rfl, rfl, rfl⟩
    · rw [if_neg hn]
      have go1 : ∀ seen, ∃ seen', (mm code2 l s 14 (s + 1) s om [fb2 11 s om, fr2 s om] 2 none seen).step = mm code2 l s 14 (s + 1) s om [fb2 11 s om, fr2 s om] 2 (some false) seen' := by
        intro seen
        by_cases hl : l.length ≤ s + 1
        · exact ⟨_, by rw [e2_14, if_pos hl]⟩
        · have c10 : (l.toArray.getD (s + 1) 0 == 10) = false := by simpa using fun q => hn ⟨by omega, by simpa using q⟩
          exact ⟨_, by rw [e2_14, if_neg hl, c10]⟩
      have go2 : ∀ seen, ∃ seen', (mm code2 l s 29 (s + 1) (s + 1) false [fn2 (s + 1) om, fb2 23 s om, fr2 s om] 3 none seen).step = mm code2 l s 29 (s + 1) (s + 1) false [fn2 (s + 1) om, fb2 23 s om, fr2 s om] 3 (some false) seen' := by
        intro seen
        by_cases hl : l.length ≤ s + 1
        · exact ⟨_, by rw [e2_29, if_pos hl]⟩
        · have c10 : (l.toArray.getD (s + 1) 0 == 10) = false := by simpa using fun q => hn ⟨by omega, by simpa using q⟩
          exact ⟨_, by rw [e2_29, if_neg hl, c10]⟩
      obtain ⟨seen1, g1⟩ := go1 (((seen.add 7).add 16))
      obtain ⟨seen2, g2⟩ := go2 (((seen1.add 16).add 16).add 5)
      refine ⟨15, by omega, ?_⟩
      refine EndsAs.to rfl e2_10 ?_
      refine EndsAs.to rfl (by rw [e2_12, if_neg (by omega), b13]) ?_
      refine EndsAs.to rfl g1 ?_
      refine EndsAs.to rfl rb_no11 ?_
      refine EndsAs.to rfl (by rw [e2_19, if_neg (by omega), b10]) ?_
      refine EndsAs.to rfl rb_no18 ?_
      refine EndsAs.to rfl (by rw [e2_24, if_neg (by omega), b13]) ?_
      refine EndsAs.to rfl e2_26 ?_
      refine EndsAs.to rfl g2 ?_
      refine EndsAs.to rfl rn_no ?_
      refine EndsAs.to rfl e2_32 ?_
      refine EndsAs.to rfl e2_35 ?_
      refine EndsAs.to rfl rb_yes ?_
      refine EndsAs.to rfl r2_yes ?_
      exact EndsAs.one rfl fin_yes ⟨rfl, rfl, rfl⟩
  · rw [if_neg h13]
    have h10 : l.toArray.getD s 0 = 10 := hc.resolve_left h13
    have b13 : (l.toArray.getD s 0 == 13) = false := by rw [h10]; rfl
    have b10 : (l.toArray.getD s 0 == 10) = true := by rw [h10]; rfl
    refine ⟨9, by omega, ?_⟩
    refine EndsAs.to rfl e2_10 ?_
    refine EndsAs.to rfl (by rw [e2_12, if_neg (by omega), b13]) ?_
    refine EndsAs.to rfl rb_no11 ?_
    refine EndsAs.to rfl (by rw [e2_19, if_neg (by omega), b10]) ?_
    refine EndsAs.to rfl e2_21 ?_
    refine EndsAs.to rfl e2_35 ?_
    refine EndsAs.to rfl rb_yes ?_
    refine EndsAs.to rfl r2_yes ?_
    exact EndsAs.one rfl fin_yes ⟨rfl, rfl, rfl⟩
theorem inset2 (c : Nat) (seen : Sre.Seen) : ∃ seen', inSet code2 c code2.size 5 true seen = .ok (c == 10 || c == 13, seen') := by
  have e : inSet code2 c code2.size 5 true seen = (if (c == 10) = true then .ok (true, seen.add 16) else if (c == 13) = true then .ok (true, (seen.add 16).add 16) else .ok (false, ((seen.add 16).add 16).add 0)) := rfl
  rw [e]
  by_cases h1 : c = 10
  · subst h1; exact ⟨_, rfl⟩
  · have b1 : (c == 10) = false := by simpa using h1
    by_cases h2 : c = 13
    · subst h2; exact ⟨_, rfl⟩
    · have b2 : (c == 13) = false := by simpa using h2
      rw [b1, b2]; exact ⟨_, rfl⟩
def adm (l : List Nat) : Nat → Nat → Option Nat
  | 0, _ => none
  | d + 1, s => if l.toArray.getD s 0 = 10 ∨ l.toArray.getD s 0 = 13 then some s else adm l d (s + 1)
theorem admitted2 (l : List Nat) (m : Sre.M) (hc : m.code = code2) (ht : m.text = l.toArray) (hl : m.lim = l.length) : ∀ (d s : Nat) (seen : Sre.Seen), s + d = l.length → ∃ seen', M.admitted m (d + 1) s seen = .ok (adm l d s, seen')
  | 0, s, seen, hd => ⟨seen, by rw [M.admitted, hl, if_pos (by omega)]; rfl⟩
  | d + 1, s, seen, hd => by
    obtain ⟨seen', e⟩ := inset2 (l.toArray.getD s 0) seen
    rw [M.admitted, hl, if_neg (by omega), hc, ht, e, adm]
    by_cases h : l.toArray.getD s 0 = 10 ∨ l.toArray.getD s 0 = 13
    · rw [if_pos h, show (l.toArray.getD s 0 == 10 || l.toArray.getD s 0 == 13) = true by simpa using h]
      exact ⟨_, rfl⟩
    · rw [if_neg h, show (l.toArray.getD s 0 == 10 || l.toArray.getD s 0 == 13) = false by simpa using h]
      exact admitted2 l m hc ht hl d (s + 1) seen' (by omega)
theorem adm_find (l : List Nat) : ∀ (d s : Nat), s + d = l.length → match adm l d s with
    | none => find2 l d s = none
    | some b => s ≤ b ∧ b < l.length ∧ (l.toArray.getD b 0 = 13 ∨ l.toArray.getD b 0 = 10) ∧ find2 l d s = (if l.toArray.getD b 0 = 13 then (if b + 1 < l.length ∧ l.toArray.getD (b + 1) 0 = 10 then some (b, b + 2) else some (b, b + 1)) else some (b, b + 1))
  | 0, s, _ => rfl
  | d + 1, s, hd => by
    rw [adm, find2]
    by_cases h13 : l.toArray.getD s 0 = 13
    · rw [if_pos (.inr h13), if_pos h13]
      exact ⟨Nat.le_refl _, by omega, .inl h13, by rw [if_pos h13]⟩
    · by_cases h10 : l.toArray.getD s 0 = 10
      · rw [if_pos (.inl h10), if_neg h13, if_pos h10]
        exact ⟨Nat.le_refl _, by omega, .inr h10, by rw [if_neg h13]⟩
      · rw [if_neg (fun q => q.elim h10 h13), if_neg h13, if_neg h10]
        have ih := adm_find l d (s + 1) (by omega)
        cases ha : adm l d (s + 1) with
        | none => rw [ha] at ih; exact ih
        | some b =>
          rw [ha] at ih
          exact ⟨by have := ih.1; omega, ih.2⟩
theorem fs2 (l : List Nat) (s : Nat) : Sre.forSearch code2 l.toArray 0 s l.length false =
    if (decide (s > l.length) || decide (l.length - s < 1)) = true then { mm code2 l s 10 s s true [] 0 (some false) (({} : Sre.Seen).add 14) with lastStart := 0 } else
      (match M.admitted (mm code2 l s 10 s s true [] 0 none (({} : Sre.Seen).add 14)) (l.length + 1 - s) s (({} : Sre.Seen).add 14) with
        | .ok (some b, seen) => st2 l b true seen
        | .ok (none, seen) => mm code2 l s 10 s s true [] 0 (some false) seen
        | .error why => (mm code2 l s 10 s s true [] 0 none (({} : Sre.Seen).add 14)).stick why) := rfl
theorem forSearch2 (l : List Nat) (s : Nat) (h : s ≤ l.length) : ∃ k, k ≤ 20 ∧ EndsAs k (Sre.forSearch code2 l.toArray 0 s l.length false) (find2 l (l.length - s) s) := by
  rw [fs2]
  by_cases hs : s = l.length
  · subst hs
    refine ⟨1, by omega, ?_⟩
    rw [if_pos (by simp), Nat.sub_self]
    exact EndsAs.one rfl rfl rfl
  · rw [if_neg (by simp; omega)]
    obtain ⟨seen', e⟩ := admitted2 l (mm code2 l s 10 s s true [] 0 none (({} : Sre.Seen).add 14)) rfl rfl rfl (l.length - s) s (({} : Sre.Seen).add 14) (by omega)
    rw [show l.length + 1 - s = l.length - s + 1 by omega, e]
    have q := adm_find l (l.length - s) s (by omega)
    cases ha : adm l (l.length - s) s with
    | none =>
      rw [ha] at q
      have q : find2 l (l.length - s) s = none := q
      rw [q]
      exact ⟨1, by omega, EndsAs.one rfl fin_no rfl⟩
    | some b =>
      rw [ha] at q
      rw [q.2.2.2]
      exact at2 l b true seen' q.2.1 q.2.2.1
end
end

/-! part Sre2 -/
section
inductive SubR (find : Nat → Option (Nat × Nat)) (rp l : List Nat) : Nat → List Nat → Prop
  | stop {i : Nat} : find i = none → SubR find rp l i (l.drop i)
  | go {i b e : Nat} {r : List Nat} : find i = some (b, e) → i ≤ b → b < e → e ≤ l.length → SubR find rp l e r → SubR find rp l i ((l.drop i).take (b - i) ++ rp ++ r)
theorem drop_cons_getD (l : List Nat) {s : Nat} (h : s < l.length) : l.drop s = l.toArray.getD s 0 :: l.drop (s + 1) := by
  rw [List.drop_eq_getElem_cons h]
  congr 1
  simp [Array.getD, h]
theorem take_cons_succ (l : List Nat) {s b : Nat} (h : s < l.length) (hb : s + 1 ≤ b) : (l.drop s).take (b - s) = l.toArray.getD s 0 :: (l.drop (s + 1)).take (b - (s + 1)) := by
  rw [drop_cons_getD l h, show b - s = (b - (s + 1)) + 1 by omega, List.take_succ_cons]
theorem bol_succ (l : List Nat) (s : Nat) : bol l (s + 1) = (l.toArray.getD s 0 == 10) := by
  unfold bol
  simp
theorem find1_spec (l : List Nat) : ∀ (d s : Nat), s + d = l.length → match find1 l d s with
    | none => dotsA (bol l s) (l.drop s) = l.drop s
    | some (b, e) => e = b + 1 ∧ s ≤ b ∧ b < l.length ∧ dotsA (bol l s) (l.drop s) = (l.drop s).take (b - s) ++ [46, 46] ++ dotsA (bol l (b + 1)) (l.drop (b + 1))
  | 0, s, hd => by
    have : l.drop s = [] := List.drop_eq_nil_of_le (by omega)
    rw [find1]
    show dotsA (bol l s) (l.drop s) = l.drop s
    rw [this]; rfl
  | d + 1, s, hd => by
    have hlt : s < l.length := by omega
    rw [find1]
    by_cases h : bol l s = true ∧ l.toArray.getD s 0 = 46
    · rw [if_pos h]
      refine ⟨rfl, Nat.le_refl _, hlt, ?_⟩
      rw [drop_cons_getD l hlt, dotsA, if_pos h, Nat.sub_self, List.take_zero, bol_succ, h.2]; rfl
    · rw [if_neg h]
      have ih := find1_spec l d (s + 1) (by omega)
      have e : dotsA (bol l s) (l.drop s) = l.toArray.getD s 0 :: dotsA (bol l (s + 1)) (l.drop (s + 1)) := by
        rw [drop_cons_getD l hlt, dotsA, if_neg h, bol_succ]
      cases hf : find1 l d (s + 1) with
      | none =>
        rw [hf] at ih
        show dotsA (bol l s) (l.drop s) = l.drop s
        rw [e, ih, ← drop_cons_getD l hlt]
      | some p =>
        obtain ⟨b, e'⟩ := p
        rw [hf] at ih
        obtain ⟨h1, h2, h3, h4⟩ := ih
        refine ⟨h1, by omega, h3, ?_⟩
        rw [e, h4, take_cons_succ l hlt h2]; rfl
theorem sub1_go (l : List Nat) : ∀ (n i : Nat), l.length - i ≤ n → i ≤ l.length → SubR (fun s => find1 l (l.length - s) s) [46, 46] l i (dotsA (bol l i) (l.drop i))
  | n, i, hn, hi => by
    have q := find1_spec l (l.length - i) i (by omega)
    cases hf : find1 l (l.length - i) i with
    | none =>
      rw [hf] at q
      have q : dotsA (bol l i) (l.drop i) = l.drop i := q
      rw [q]
      exact .stop hf
    | some p =>
      obtain ⟨b, e⟩ := p
      rw [hf] at q
      obtain ⟨rfl, h2, h3, h4⟩ := q
      cases n with
      | zero => omega
      | succ n =>
        rw [h4]
        exact .go hf h2 (Nat.lt_succ_self _) (by omega) (sub1_go l n (b + 1) (by omega) (by omega))
theorem sub1 (l : List Nat) : SubR (fun s => find1 l (l.length - s) s) [46, 46] l 0 (dots l) := sub1_go l l.length 0 (by omega) (by omega)

theorem norm_cons_plain {c : Nat} (r : List Nat) (h1 : c ≠ 13) (h2 : c ≠ 10) : norm (c :: r) = c :: norm r := by
  rw [norm.eq_def]
  simp only
  rw [if_neg h1, if_neg h2]
theorem find2_spec (l : List Nat) : ∀ (d s : Nat), s + d = l.length → match find2 l d s with
    | none => norm (l.drop s) = l.drop s
    | some (b, e) => s ≤ b ∧ b < e ∧ e ≤ l.length ∧ norm (l.drop s) = (l.drop s).take (b - s) ++ CRLF ++ norm (l.drop e)
  | 0, s, hd => by
    have : l.drop s = [] := List.drop_eq_nil_of_le (by omega)
    rw [find2]
    show norm (l.drop s) = l.drop s
    rw [this]; rfl
  | d + 1, s, hd => by
    have hlt : s < l.length := by omega
    rw [find2]
    by_cases h13 : l.toArray.getD s 0 = 13
    · rw [if_pos h13]
      by_cases hn : s + 1 < l.length ∧ l.toArray.getD (s + 1) 0 = 10
      · rw [if_pos hn]
        refine ⟨Nat.le_refl _, by omega, by omega, ?_⟩
        rw [Nat.sub_self, List.take_zero, drop_cons_getD l hlt, drop_cons_getD l hn.1, h13, hn.2, norm_crlf]; rfl
      · rw [if_neg hn]
        refine ⟨Nat.le_refl _, by omega, by omega, ?_⟩
        rw [Nat.sub_self, List.take_zero, drop_cons_getD l hlt, h13, norm_cr]
        · rfl
        · intro r' q
          by_cases hl : s + 1 < l.length
          · rw [drop_cons_getD l hl] at q
            exact hn ⟨hl, (List.cons.inj q).1⟩
          · rw [List.drop_eq_nil_of_le (by omega)] at q; cases q
    · rw [if_neg h13]
      by_cases h10 : l.toArray.getD s 0 = 10
      · rw [if_pos h10]
        refine ⟨Nat.le_refl _, by omega, by omega, ?_⟩
        rw [Nat.sub_self, List.take_zero, drop_cons_getD l hlt, h10, norm_lf]; rfl
      · rw [if_neg h10]
        have ih := find2_spec l d (s + 1) (by omega)
        have e : norm (l.drop s) = l.toArray.getD s 0 :: norm (l.drop (s + 1)) := by
          rw [drop_cons_getD l hlt, norm_cons_plain _ h13 h10]
        cases hf : find2 l d (s + 1) with
        | none =>
          rw [hf] at ih
          show norm (l.drop s) = l.drop s
          rw [e, ih, ← drop_cons_getD l hlt]
        | some p =>
          obtain ⟨b, e'⟩ := p
          rw [hf] at ih
          obtain ⟨h1, h2, h3, h4⟩ := ih
          refine ⟨by omega, h2, h3, ?_⟩
          rw [e, h4, take_cons_succ l hlt h1]; rfl
theorem sub2_go (l : List Nat) : ∀ (n i : Nat), l.length - i ≤ n → i ≤ l.length → SubR (fun s => find2 l (l.length - s) s) CRLF l i (norm (l.drop i))
  | n, i, hn, hi => by
    have q := find2_spec l (l.length - i) i (by omega)
    cases hf : find2 l (l.length - i) i with
    | none =>
      rw [hf] at q
      have q : norm (l.drop i) = l.drop i := q
      rw [q]
      exact .stop hf
    | some p =>
      obtain ⟨b, e⟩ := p
      rw [hf] at q
      obtain ⟨h1, h2, h3, h4⟩ := q
      cases n with
      | zero => omega
      | succ n =>
        rw [h4]
        exact .go hf h1 h2 h3 (sub2_go l n e (by omega) h3)
theorem sub2 (l : List Nat) : SubR (fun s => find2 l (l.length - s) s) CRLF l 0 (norm l) := sub2_go l l.length 0 (by omega) (by omega)
end

/-! part Sub0 -/
section
section
open PySem.F
theorem slot_sub : Slot "re.Pattern" "sub" "re.Pattern.sub" :=
  .of (owner := "re.Pattern") (n := "sub") (by rw [typeLookup_type, builtinLookup_eq_fast]; kernel_rfl) (by decide +kernel) (by decide +kernel) (by decide +kernel)
    (by first | exact .inl (by decide +kernel) | exact .inr (by decide +kernel)) (by rw [isSubtype_type]; kernel_rfl)
theorem type_sub : typeOf (.builtin "re.Pattern.sub") = pure (.type "method_descriptor") := by show builtinType _ = _; rw [builtinType_eq_fast]; kernel_rfl
theorem entry_sub : entryFor table "re.Pattern.sub" = some Builtin.«re.Pattern.sub» := entryFor_of_tree (by kernel_rfl)
theorem entry_subloop : entryFor table "re.Pattern.sub.loop" = some Builtin.«re.Pattern.sub.loop» := entryFor_of_tree (by kernel_rfl)
theorem owner_pat : Manifest.owners.lookup (String.ofList ['n', 'r', 'e', 't', 't', 'a', 'P', '.', 'e', 'r'].reverse) = some Manifest.sig_re_Pattern := by kernel_rfl
theorem args_sub (a b c : Value) : argsOk "re.Pattern.sub" ⟨[a, b, c], []⟩ := by
  unfold argsOk; rw [signature?_of (id := "re.Pattern.sub") (n := ['b', 'u', 's']) (o := ['n', 'r', 'e', 't', 't', 'a', 'P', '.', 'e', 'r']) (by kernel_rfl) owner_pat]; kernel_rfl
theorem plain_pat : PlainAttrs "re.Pattern" := ⟨⟨"object.__getattribute__", by rw [typeLookup_type, builtinLookup_eq_fast]; kernel_rfl, by decide +kernel⟩, by rw [typeLookup_type, builtinLookup_eq_fast]; kernel_rfl⟩
theorem plain_subloop : plainId "re.Pattern.sub.loop" = true := by decide +kernel
end
end

/-! part Sre3 -/
section
section
open PySem.Sre PySem.Builtin PySem.Builtin.Re
theorem runFor_done {m : Sre.M} (h : m.outcome.isSome = true) : ∀ n, M.runFor n m = m
  | 0 => rfl
  | n + 1 => by rw [M.runFor, if_pos h]
theorem runFor_add : ∀ (a b : Nat) (m : Sre.M), M.runFor (a + b) m = M.runFor b (M.runFor a m)
  | 0, b, m => by rw [Nat.zero_add]; rfl
  | a + 1, b, m => by
    rw [Nat.succ_add, M.runFor, M.runFor]
    by_cases h : m.outcome.isSome = true
    · rw [if_pos h, if_pos h, runFor_done h]
    · rw [if_neg h, if_neg h]; exact runFor_add a b m.step
def EndOk (m' : Sre.M) (r : Option (Nat × Nat)) : Prop := match r with
    | some (b, e) => m'.outcome = some .matched ∧ m'.start = b ∧ m'.handed = e
    | none => m'.outcome = some .failed
theorem EndOk.some {m' : Sre.M} {r : Option (Nat × Nat)} (h : EndOk m' r) : m'.outcome.isSome = true := by
  cases r with
  | none => have h : m'.outcome = _ := h; rw [h]; rfl
  | some p => obtain ⟨b, e⟩ := p; rw [h.1]; rfl
section
variable {M : Model} {A : Around} {E : Value → Shared → Prop} {s : Shared}
theorem wpAny_reDrive {r : Option (Nat × Nat)} {Q : Sre.M → Shared → Prop} (hq : ∀ m', EndOk m' r → Q m' s) : ∀ (T k : Nat) (m : Sre.M), k < 4 * T → EndsAs k m r → wpAny M A (reDrive T m) Q E s
  | 0, k, m, hk, h => by omega
  | T + 1, k, m, hk, h => by
    obtain ⟨m', e, ok⟩ := h
    have ok : EndOk m' r := ok
    rw [reDrive]
    show wpAny M A (if (m.runFor 4).outcome.isSome = true then pure (m.runFor 4) else do rule "sre.turn"; reDrive T (m.runFor 4)) Q E s
    by_cases h4 : (m.runFor 4).outcome.isSome = true
    · rw [if_pos h4]
      refine wpAny_pure (hq _ ?_)
      have : m.runFor 4 = m' := by
        rcases Nat.le_total k 4 with hk4 | hk4
        · have := runFor_add k (4 - k) m
          rw [Nat.add_sub_cancel' hk4, e, runFor_done ok.some] at this
          exact this
        · have := runFor_add 4 (k - 4) m
          rw [Nat.add_sub_cancel' hk4, e, runFor_done h4] at this
          exact this.symm
      rw [this]; exact ok
    · rw [if_neg h4]
      refine wpAny_bind (wpAny_rule ?_)
      have hk4 : 4 ≤ k := by
        rcases Nat.lt_or_ge k 4 with q | q
        · exfalso
          refine h4 ?_
          have := runFor_add k (4 - k) m
          rw [Nat.add_sub_cancel' (Nat.le_of_lt q), e, runFor_done ok.some] at this
          rw [this]; exact ok.some
        · exact q
      have := runFor_add 4 (k - 4) m
      rw [Nat.add_sub_cancel' hk4, e] at this
      exact wpAny_reDrive hq T (k - 4) _ (by omega) ⟨m', this.symm, ok⟩
theorem wpAny_rules {Q : PUnit → Shared → Prop} (c : Nat → Bool) (f : Nat → String) (h : Q ⟨⟩ s) : ∀ l : List Nat, wpAny M A (forIn l (PUnit.unit) (fun i _ => if c i = true then (do rule (f i); pure (ForInStep.yield PUnit.unit)) else pure (ForInStep.yield PUnit.unit))) Q E s
  | [] => by rw [List.forIn_nil]; exact wpAny_pure h
  | i :: r => by
    rw [List.forIn_cons]
    refine wpAny_bind ?_
    by_cases hc : c i = true
    · rw [if_pos hc]; exact wpAny_bind (wpAny_rule (wpAny_pure (wpAny_rules c f h r)))
    · rw [if_neg hc]; exact wpAny_pure (wpAny_rules c f h r)
theorem wpAny_reRunToEnd {r : Option (Nat × Nat)} {k : Nat} {m : Sre.M} {Q : Option Sre.M → Shared → Prop} (hk : k < 4 * 2 ^ 64) (he : EndsAs k m r)
    (hn : r = none → Q none s) (hs : ∀ b e m', r = some (b, e) → m'.start = b → m'.handed = e → Q (some m') s) : wpAny M A (reRunToEnd m) Q E s := by
  unfold reRunToEnd
  refine wpAny_bind (wpAny_reDrive (r := r) (fun m' ok => ?_) _ k m hk he)
  refine wpAny_bind (wpAny_rules (fun i => m'.seen.has i) (fun i => names.getD i "") ?_ _)
  cases r with
  | none =>
    have ok : m'.outcome = _ := ok
    rw [ok]
    exact wpAny_pure (hn rfl)
  | some p =>
    obtain ⟨b, e⟩ := p
    rw [ok.1]
    exact wpAny_pure (hs b e m' rfl ok.2.1 ok.2.2)
theorem wpAny_asStr {x : PySem.Str} {t : Nat} {Q : Option PySem.Str → Shared → Prop} (h : Q (some x) s) : wpAny M A (asStr? (.str x t)) Q E s := wpAny_pure h
theorem wpAny_reWholeTarget {P C : Addr} {dP dC : Option Addr} {x : PySem.Str} {t nC : Nat} {a b : Value} {items : Array Value} {slP slC : Array (Option Value)} {cC : Value} {Q : ReTarget → Shared → Prop}
    (hP : s.heap.get? P = some ⟨.type "re.Pattern", dP, .fields #[a, b, .int 0 0, .none, .none, .ref C, .int 0 0], slP⟩) (hC : s.heap.get? C = some ⟨cC, dC, .seq items nC, slC⟩)
    (h : Q { pattern := .ref P, string := .str x t, code := (items.map reRawOf).map (·.toNat), text := x.cps, kind := 0, groups := 0, pos := 0, lim := x.cps.size } s) : wpAny M A (reWholeTarget (.ref P) (.str x t)) Q E s := by
  unfold reWholeTarget
  refine wpAny_bind (wpAny_fieldsOf hP rfl ?_)
  refine wpAny_bind (m := reTextOf (.str x t)) (wpAny_pure (a := (x.cps, 0)) ?_)
  show wpAny M A (if false = true then _ else if false = true then _ else _) Q E s
  rw [if_neg Bool.false_ne_true, if_neg Bool.false_ne_true]
  refine wpAny_bind (m := reNoCollectionInside (.str x t) 0) (wpAny_pure (a := ()) ?_)
  refine wpAny_bind (m := reRawItems (.ref C)) ?_
  unfold reRawItems
  refine wpAny_bind (wpAny_seqItems hC rfl ?_)
  exact wpAny_pure (wpAny_pure h)
end
section
variable {prog : Program} {w : World} {A : Around} {E : Value → Shared → Prop} {R : Result → Shared → Prop} {s : Shared}
abbrev lstO (vs : List Value) (n : Nat) : Obj := { cls := .type "list", data := .seq vs.toArray n }
def flat (ps : List (PySem.Str × Nat)) : List Nat := ps.flatMap fun p => p.1.cps.toList
/-- the pattern's objects -/
structure PatAt (h : Heap) (P C : Addr) (code : Array Nat) : Prop where
  ex : ∃ (a b : Value) (dP dC : Option Addr) (items : Array Value) (slP slC : Array (Option Value)) (cC : Value) (nC : Nat),
    h.get? P = some ⟨.type "re.Pattern", dP, .fields #[a, b, .int 0 0, .none, .none, .ref C, .int 0 0], slP⟩ ∧ h.get? C = some ⟨cC, dC, .seq items nC, slC⟩ ∧ (items.map reRawOf).map (·.toNat) = code
theorem codeAny_plain {id : String} {args : Args} {b : Builtin} (hq : plainId id = true) (hb : entryFor table id = some b)
    (h : wpAny (model prog w) A.in1 (b args) (fun fin s' => match fin with | .done f => R (.ok f) s' | .again c' => c'.quiet = true ∧ codeAny (model prog w) A c' R s') (fun e s' => R (.error e) s') s) :
    codeAny (model prog w) A (.builtin id args) R s := by
  refine codeAny_of_tree ?_
  rw [Around.under_plainId hq]
  show wpAny _ _ (match entryFor table id with | some b => b args | none => unsupported ((withoutEnding? id "#data").getD id)) _ _ s
  rw [hb]
  exact h
theorem wpAny_reSlice {M : Model} {A : Around} {E : Value → Shared → Prop} {s : Shared} {l : List Nat} {b e : Nat} {Q : Value → Shared → Prop} (hl : l.length ≤ 16777216)
    (h : Q (.str (S ((l.drop b).take (e - b))) s.toks) { s with toks := s.toks + 1 }) : wpAny M A (reSlice (S l).cps 0 b e) Q E s := by
  show wpAny M A (mkStr ⟨(S l).cps.extract b e⟩) Q E s
  have e1 : (⟨(S l).cps.extract b e⟩ : PySem.Str) = S ((l.drop b).take (e - b)) := strSub_S l b e
  rw [e1]
  refine wpAny_mkStr h ?_
  rw [S_len]
  have : ((l.drop b).take (e - b)).length ≤ l.length := by simp; omega
  have e2 : sizeLine = 16777216 := by decide
  omega
theorem wpAny_push {M : Model} {A : Around} {E : Value → Shared → Prop} {s : Shared} {Lp : Addr} {vs : List Value} {n : Nat} {v : Value} {Q : Unit → Shared → Prop} (hL : s.heap.get? Lp = some (lstO vs n)) (hz : vs.length < 16777216)
    (h : ∀ h', h'.get? Lp = some (lstO (vs ++ [v]) (n + 1)) → Heap.SameBut Lp s.heap h' → Q () { s with heap := h' }) : wpAny M A (updateSeq Lp fun x => x.push v) Q E s := by
  have e2 : sizeLine = 16777216 := by decide
  refine wpAny_updateSeq hL rfl (h _ ?_ (Heap.SameBut.update ..)) (by simp; omega) (by simp; omega)
  rw [Heap.get?_update_self _ hL rfl]
  simp [Obj.mapSeq]
theorem flat_app (a b : List (PySem.Str × Nat)) : flat (a ++ b) = flat a ++ flat b := by simp [flat]
theorem join_flat : ∀ ps : List (PySem.Str × Nat), Builtin.Str.glued (S []) (ps.map (·.1)) = S (flat ps) := by
  intro ps
  rw [StrLaws.glued_eq_join]
  induction ps with
  | nil => rfl
  | cons p r ih =>
    cases r with
    | nil => exact PySem.Str.ext' (by simp [PySem.Str.join, flat])
    | cons q r =>
      show p.1 ++ S [] ++ PySem.Str.join (S []) ((q :: r).map (·.1)) = _
      rw [ih]
      exact PySem.Str.ext' (by simp [PySem.Str.cps_append, flat])
theorem join_sum (ps : List (PySem.Str × Nat)) : ((ps.map (·.1)).map (·.length)).sum = (flat ps).length := by
  induction ps with
  | nil => rfl
  | cons p r ih =>
    simp only [List.map_cons, List.sum_cons, flat, List.flatMap_cons, List.length_append] at ih ⊢
    rw [ih]; simp [PySem.Str.length]
theorem post_joinT {s : Shared} {Q : Value → Shared → Prop} (ps : List (PySem.Str × Nat)) (htok : ∀ p ∈ ps, p.2 ≠ 0) (hs : 0 < s.toks) (hl : (flat ps).length ≤ 16777216)
    (h : ∀ (t' k : Nat), t' ≠ 0 → s.toks ≤ k → Q (.str (S (flat ps)) t') { s with toks := k }) : (joinMade (S []) ps).post Q s := by
  have e2 : sizeLine = 16777216 := by decide
  have big : (Builtin.Str.glued (S []) (ps.map (·.1))).length ≤ sizeLine := by rw [join_flat, S_len, e2]; exact hl
  have go : ∀ (t' k : Nat), t' ≠ 0 → s.toks ≤ k → Q (.str (Builtin.Str.glued (S []) (ps.map (·.1))) t') { s with toks := k } := by rw [join_flat]; exact h
  match ps, htok, big, go with
  | [], _, b, g => exact ⟨b, g _ _ (Nat.ne_of_gt hs) (Nat.le_succ _)⟩
  | [p], ht, b, g =>
    have e : Builtin.Str.glued (S []) ([p].map (·.1)) = p.1 := rfl
    rw [e] at g
    exact g p.2 s.toks (ht p (.head _)) (Nat.le_refl _)
  | p :: q :: r, _, b, g => exact ⟨b, g _ _ (Nat.ne_of_gt hs) (Nat.le_succ _)⟩
theorem call_joinT {E : Value → Shared → Prop} {Lp : Addr} {n tj : Nat} {Q : Value → Shared → Prop} (ps : List (PySem.Str × Nat)) (hL : s.heap.get? Lp = some (lstO (strValues ps) n)) (htok : ∀ p ∈ ps, p.2 ≠ 0) (hs : 0 < s.toks) (hl : (flat ps).length ≤ 16777216)
    (h : ∀ (t' k : Nat), t' ≠ 0 → s.toks ≤ k → Q (.str (S (flat ps)) t') { s with toks := k }) : wpAny (model prog w) A (call (.builtin "str.join") [.str (S []) tj, .ref Lp]) Q E s := by
  have e2 : sizeLine = 16777216 := by decide
  refine call_meets F.slot_str_join (typeIs_str _ _ _) F.entry_str_join (F.args_str_join_2 _ _) (meets_str_join_list (S []) tj Lp ps ?_) ⟨⟨_, hL, rfl, n, rfl⟩, ?_⟩
  · rw [StrLaws.joinTotal, join_sum, S_len]
    unfold Builtin.Str.tooLong
    exact decide_eq_false (by simp; omega)
  · exact post_joinT ps htok hs hl h
/-- what the loop hands on -/
abbrev SubDone (R : Result → Shared → Prop) (Lp : Addr) (s : Shared) (res : List Nat) : Prop :=
  ∀ (t' k : Nat) h', t' ≠ 0 → s.toks ≤ k → Heap.SameBut Lp s.heap h' → R (.ok (.ret (.str (S res) t'))) { s with heap := h', toks := k }
theorem PatAt.same {h h' : Heap} {P C Lp : Addr} {code : Array Nat} (p : PatAt h P C code) (hs : Heap.SameBut Lp h h') (h1 : P ≠ Lp) (h2 : C ≠ Lp) : PatAt h' P C code := by
  obtain ⟨a, b, dP, dC, items, slP, slC, cC, nC, q1, q2, q3⟩ := p.ex
  exact ⟨a, b, dP, dC, items, slP, slC, cC, nC, (hs.2 P h1).trans q1, (hs.2 C h2).trans q2, q3⟩
theorem SameBut.trans {a : Addr} {h h' h'' : Heap} (x : Heap.SameBut a h h') (y : Heap.SameBut a h' h'') : Heap.SameBut a h h'' :=
  ⟨y.1.trans x.1, fun b hb => (y.2 b hb).trans (x.2 b hb)⟩
theorem tail_join {Lp : Addr} {l : List Nat} (ps : List (PySem.Str × Nat)) {n : Nat} (hl : l.length ≤ 4000000) (hL : s.heap.get? Lp = some (lstO (strValues ps) n)) (htok : ∀ p ∈ ps, p.2 ≠ 0) (hs : 0 < s.toks)
    (hlen : (flat ps).length ≤ 16777216) (k : SubDone R Lp s (flat ps)) :
    wpAny (model prog w) A.in1 (reSlice (S l).cps 0 0 0 >>= fun joiner => seqItems? (.ref Lp) >>= fun x =>
      if (x.getD #[]).isEmpty = true then (pure joiner >>= fun text => ret text) else (call (.builtin "str.join") [joiner, .ref Lp] >>= fun text => ret text))
      (fun fin s' => match fin with | .done f => R (.ok f) s' | .again c' => c'.quiet = true ∧ codeAny (model prog w) A c' R s') (fun e s' => R (.error e) s') s := by
  refine wpAny_bind (wpAny_reSlice (by omega) ?_)
  refine wpAny_bind (wpAny_seqItems (o := lstO (strValues ps) n) hL rfl ?_)
  have e0 : S (List.take (0 - 0) (l.drop 0)) = S [] := by simp
  rw [e0]
  by_cases he : ((some (strValues ps).toArray).getD #[]).isEmpty = true
  · rw [if_pos he]
    have : ps = [] := by
      cases ps with
      | nil => rfl
      | cons p r => simp [strValues] at he
    subst this
    refine wpAny_bind (wpAny_pure (wpAny_pure ?_))
    exact k s.toks (s.toks + 1) s.heap (Nat.ne_of_gt hs) (Nat.le_succ _) ⟨rfl, fun _ _ => rfl⟩
  · rw [if_neg he]
    refine wpAny_bind (call_joinT ps hL htok (Nat.succ_pos _) hlen fun t' k' h1 h3 => wpAny_pure ?_)
    exact k t' k' s.heap h1 (Nat.le_of_succ_le h3) ⟨rfl, fun _ _ => rfl⟩
theorem sub_loop {P C Lp : Addr} {code : Array Nat} {l rp : List Nat} {tx tr : Nat} {find : Nat → Option (Nat × Nat)} (hl : l.length ≤ 4000000)
    (hf : ∀ i, i ≤ l.length → ∃ k, k < 4 * 2 ^ 64 ∧ EndsAs k (Sre.forSearch code l.toArray 0 i l.length false) (find i)) (hP : P ≠ Lp) (hC : C ≠ Lp) (htr : tr ≠ 0)
    {i : Nat} {r : List Nat} (HR : SubR find rp l i r) : ∀ (s : Shared) (ps : List (PySem.Str × Nat)) (n : Nat) (nn : Int) (t1 t2 t3 t4 t5 : Nat), i ≤ l.length → 0 < s.toks → PatAt s.heap P C code → s.heap.get? Lp = some (lstO (strValues ps) n) →
      (∀ p ∈ ps, p.2 ≠ 0) → ps.length ≤ 2 * i → (flat ps ++ r).length ≤ 16777216 → SubDone R Lp s (flat ps ++ r) →
      codeAny (model prog w) A (.builtin "re.Pattern.sub.loop" ⟨[.ref P, .str (S l) tx, .str (S rp) tr, .int 0 t1, .int 0 t2, .int nn t3, .int i t4, .int i t5, .bool false, .ref Lp, .bool false], []⟩) R s := by
  induction HR with
  | @stop i hfi =>
    intro s ps n nn t1 t2 t3 t4 t5 hi htrs hp hL htok hps hlen k
    refine codeAny_plain plain_subloop entry_subloop ?_
    unfold Builtin.«re.Pattern.sub.loop»
    dsimp only
    obtain ⟨a, b, dP, dC, items, slP, slC, cC, nC, h1, h2, h3⟩ := hp.ex
    refine wpAny_bind (wpAny_reWholeTarget h1 h2 ?_)
    rw [h3]
    obtain ⟨kk, hk, he⟩ := hf i hi
    rw [hfi] at he
    rw [if_pos (by rfl)]
    refine wpAny_bind (m := reLiteralCannotBeTurned _) (wpAny_pure (a := ()) ?_)
    rw [if_neg (by simp)]
    refine wpAny_bind ?_
    unfold reNextFound
    refine wpAny_reRunToEnd hk (by simpa using he) (fun _ => ?_) (fun b e m' q => by cases q)
    dsimp only
    simp only [Int.toNat_natCast]
    have hsz : (S l).cps.size = l.length := by simp
    have hps' : ps.length < 16777216 := by omega
    have hvl : (strValues ps).length = ps.length := by simp [strValues]
    rw [hsz]
    by_cases hil : i < l.length
    · rw [if_pos hil]
      refine wpAny_bind (wpAny_reSlice (by omega) ?_)
      refine wpAny_bind (wpAny_push hL (by omega) fun h' hL' hS' => ?_)
      have hv : strValues ps ++ [Value.str (S (List.take (l.length - i) (l.drop i))) s.toks] = strValues (ps ++ [(S (l.drop i), s.toks)]) := by
        rw [List.take_of_length_le (by simp)]; simp [strValues]
      rw [hv] at hL'
      refine tail_join (l := l) (ps ++ [(S (l.drop i), s.toks)]) hl hL' (fun p hp => ?_) (Nat.succ_pos _) ?_ (fun t' k' h'' q1 q3 q4 => ?_)
      · rcases List.mem_append.mp hp with q | q
        · exact htok p q
        · rw [List.mem_singleton.mp q]; show s.toks ≠ 0; omega
      · rw [flat_app]; simpa [flat] using hlen
      · have := k t' k' h'' q1 (Nat.le_of_succ_le q3) (SameBut.trans hS' q4)
        rw [flat_app]
        simpa [flat] using this
    · rw [if_neg hil]
      have hd : l.drop i = [] := List.drop_eq_nil_of_le (by omega)
      rw [hd, List.append_nil] at k hlen
      exact tail_join (l := l) ps hl hL htok (by omega) hlen k
  | @go i b e r hfi hib hbe hel HR ih =>
    intro s ps n nn t1 t2 t3 t4 t5 hi htrs hp hL htok hps hlen k
    refine codeAny_plain plain_subloop entry_subloop ?_
    unfold Builtin.«re.Pattern.sub.loop»
    dsimp only
    obtain ⟨a, b', dP, dC, items, slP, slC, cC, nC, h1, h2, h3⟩ := hp.ex
    refine wpAny_bind (wpAny_reWholeTarget h1 h2 ?_)
    rw [h3]
    obtain ⟨kk, hk, he⟩ := hf i hi
    rw [hfi] at he
    rw [if_pos (by rfl)]
    refine wpAny_bind (m := reLiteralCannotBeTurned _) (wpAny_pure (a := ()) ?_)
    rw [if_neg (by simp)]
    refine wpAny_bind ?_
    unfold reNextFound
    refine wpAny_reRunToEnd hk (by simpa using he) (fun q => by cases q) (fun b2 e2 m' q hst hha => ?_)
    cases q
    dsimp only
    simp only [Int.toNat_natCast]
    rw [hst, hha]
    have hne : (e == b) = false := by simpa using Nat.ne_of_gt hbe
    rw [hne]
    have hvl : (strValues ps).length = ps.length := by simp [strValues]
    by_cases hil : i < b
    · rw [if_pos hil]
      refine wpAny_bind (wpAny_reSlice (by omega) ?_)
      refine wpAny_bind (wpAny_push hL (by omega) fun h' hL' hS' => ?_)
      have hv : strValues ps ++ [Value.str (S (List.take (b - i) (l.drop i))) s.toks] = strValues (ps ++ [(S (List.take (b - i) (l.drop i)), s.toks)]) := by simp [strValues]
      rw [hv] at hL'
      have hvl2 : (strValues (ps ++ [(S (List.take (b - i) (l.drop i)), s.toks)])).length = ps.length + 1 := by simp [strValues]
      rw [if_pos (by rfl)]
      refine wpAny_bind (wpAny_pure ?_)
      rw [if_pos (by rfl)]
      refine wpAny_bind (wpAny_push hL' (by omega) fun h'' hL'' hS'' => ?_)
      have hv2 : strValues (ps ++ [(S (List.take (b - i) (l.drop i)), s.toks)]) ++ [Value.str (S rp) tr] = strValues (ps ++ [(S (List.take (b - i) (l.drop i)), s.toks), (S rp, tr)]) := by simp [strValues]
      rw [hv2] at hL''
      have hSS := SameBut.trans hS' hS''
      have hflat : flat (ps ++ [(S (List.take (b - i) (l.drop i)), s.toks), (S rp, tr)]) ++ r = flat ps ++ (List.take (b - i) (l.drop i) ++ rp ++ r) := by
        rw [flat_app]; simp [flat]
      refine wpAny_pure ⟨plainId_quiet plain_subloop _, ih _ _ _ _ _ _ _ _ _ hel (Nat.succ_pos _) (hp.same hSS hP hC) hL'' (fun p hp => ?_) (by simp; omega) (by rw [hflat]; exact hlen) (fun t' k' h3 q1 q3 q4 => ?_)⟩
      · rcases List.mem_append.mp hp with q | q
        · exact htok p q
        · rcases List.mem_cons.mp q with q | q
          · rw [q]; show s.toks ≠ 0; omega
          · rw [List.mem_singleton.mp q]; exact htr
      · rw [hflat]
        exact k t' k' h3 q1 (Nat.le_of_succ_le q3) (SameBut.trans hSS q4)
    · rw [if_neg hil]
      have hbi : b - i = 0 := by omega
      rw [if_pos (by rfl)]
      refine wpAny_bind (wpAny_pure ?_)
      rw [if_pos (by rfl)]
      refine wpAny_bind (wpAny_push hL (by omega) fun h'' hL'' hS'' => ?_)
      have hv2 : strValues ps ++ [Value.str (S rp) tr] = strValues (ps ++ [(S rp, tr)]) := by simp [strValues]
      rw [hv2] at hL''
      have hflat : flat (ps ++ [(S rp, tr)]) ++ r = flat ps ++ (List.take (b - i) (l.drop i) ++ rp ++ r) := by
        rw [flat_app, hbi]; simp [flat]
      refine wpAny_pure ⟨plainId_quiet plain_subloop _, ih _ _ _ _ _ _ _ _ _ hel htrs (hp.same hS'' hP hC) hL'' (fun p hp => ?_) (by simp; omega) (by rw [hflat]; exact hlen) (fun t' k' h3 q1 q3 q4 => ?_)⟩
      · rcases List.mem_append.mp hp with q | q
        · exact htok p q
        · rw [List.mem_singleton.mp q]; exact htr
      · rw [hflat]
        exact k t' k' h3 q1 q3 (SameBut.trans hS'' q4)
end
end
end

/-! part Sre4 -/
section
section
open PySem.Builtin PySem.Builtin.Re
variable {prog : Program} {w : World} {A : Around} {E : Value → Shared → Prop} {s : Shared}
theorem str_nocall : typeLookup (.type "str") "__call__" = pure none := by rw [typeLookup_type, builtinLookup_eq_fast]; kernel_rfl
theorem Fr.grown {h₀ h h' : Heap} {L : Addr} {m : PySem.Str → Option Value} (F : Fr h₀ L h m) (hk : ∀ b o, h.get? b = some o → h'.get? b = some o) : Fr h₀ L h' m := by
  obtain ⟨oL, a1, a2, hL, a3⟩ := F.ns
  exact ⟨⟨oL, a1, a2, hk _ _ hL, a3⟩, fun b o e => hk _ _ (F.keep b o e), F.above⟩
theorem News.grown {h₀ h h' : Heap} {L : Addr} {news : List (Addr × Obj)} (N : News h₀ L h news) (hk : ∀ b o, h.get? b = some o → h'.get? b = some o) : News h₀ L h' news :=
  fun p hp => ⟨hk _ _ (N p hp).1, (N p hp).2⟩
theorem call_sub {P C : Addr} {code : Array Nat} {l rp res : List Nat} {tx tr : Nat} {find : Nat → Option (Nat × Nat)} {Q : Value → Shared → Prop} (hl : l.length ≤ 4000000)
    (hp : PatAt s.heap P C code) (hty : s.TypeIs (.ref P) "re.Pattern") (hrp : (S rp).cps.contains 92 = false)
    (hf : ∀ i, i ≤ l.length → ∃ k, k < 4 * 2 ^ 64 ∧ EndsAs k (Sre.forSearch code l.toArray 0 i l.length false) (find i)) (htr : tr ≠ 0) (htrs : 0 < s.toks) (HR : SubR find rp l 0 res) (hres : res.length ≤ 16777216)
    (hq : ∀ (t' k : Nat) h', t' ≠ 0 → s.toks ≤ k → (∀ b o, s.heap.get? b = some o → h'.get? b = some o) → Q (.str (S res) t') { s with heap := h', toks := k }) :
    wpAny (model prog w) A (call (.builtin "re.Pattern.sub") [.ref P, .str (S rp) tr, .str (S l) tx]) Q E s := by
  refine wpAny_call (codeAny_call_builtin slot_sub.plain entry_sub (slot_sub.check _ _ _ _ _ _ _ _ hty (args_sub _ _ _) ?_))
  unfold Builtin.«re.Pattern.sub» reSubstitute
  dsimp only
  refine wpAny_bind (wpAny_of_eq (a := [some (.str (S rp) tr), some (.str (S l) tx), none]) rfl ?_)
  dsimp only
  refine wpAny_bind (wpAny_pure ?_)
  refine wpAny_bind (wpAny_specialOf (typeIs_str _ _ _) str_nocall ?_)
  rw [if_neg (by simp)]
  refine wpAny_bind (wpAny_asStr ?_)
  dsimp only
  refine wpAny_bind (wpAny_pure ?_)
  rw [if_neg (by simp), hrp]
  rw [if_pos (by rfl)]
  refine wpAny_bind (wpAny_pure ?_)
  dsimp only
  obtain ⟨a, b', dP, dC, items, slP, slC, cC, nC, h1, h2, h3⟩ := hp.ex
  refine wpAny_bind (wpAny_holding (wpAny_reWholeTarget h1 h2 ?_))
  rw [if_neg (by simp)]
  refine wpAny_bind (wpAny_newList ?_ (by simp))
  have hkeep : ∀ b o, s.heap.get? b = some o → (s.heap.push { cls := .type "list", data := .seq ([] : List Value).toArray }).get? b = some o := fun b o q => Heap.get?_push_of_some _ q
  have hPl : P < s.heap.objs.size := Heap.lt_size h1
  have hCl : C < s.heap.objs.size := Heap.lt_size h2
  refine wpAny_pure ⟨plainId_quiet plain_subloop _, sub_loop (find := find) hl hf (Nat.ne_of_lt hPl) (Nat.ne_of_lt hCl) htr HR _ [] 0 _ _ _ _ _ _ (Nat.zero_le _) htrs ⟨a, b', dP, dC, items, slP, slC, cC, nC, hkeep _ _ h1, hkeep _ _ h2, h3⟩ ?_ (fun _ q => nomatch q) (Nat.zero_le _) (by simpa [flat] using hres) (fun t' k h' q1 q3 q4 => ?_)⟩
  · exact Heap.get?_push_size _ rfl
  · have := hq t' k h' q1 q3 (fun b o q => (q4.2 b (Nat.ne_of_lt (Heap.lt_size q))).trans (hkeep b o q))
    simpa [flat] using this
end
end

/-! shared macros, 1 -/
local macro_rules | `(tactic| walk_at $s:str) => `(tactic| k_extra $s)
local macro_rules | `(tactic| walk_at "in d") => `(tactic| (intro hX; (try dsimp only at hX)))
local macro_rules | `(tactic| walk_at "in enter") => `(tactic| (intro B' X' T'; (try dsimp only); (try k_lift B'); (try k_fold)))
local macro_rules | `(tactic| walk_at "my if rep") => `(tactic| (intro FI NI hlI hsI; refine wpAny_If ?_; walk1; walk1; walk1; (refine' in_one ?hy ?_; (case hy => assumption)); (refine wpAny_truthy_bool ?_); (refine if_dec ?_ ?_ <;> intro hcI <;> walk_at "my steps"); (all_goals first | (refine' RepI.mk (by assumption) (by assumption) ?e1 rfl ?e5; (case e1 => intro y; dsimp only [mText]; split <;> first | rfl | (rename_i hh; simp only [if_neg hh])); (case e5 => walk_at "my tok")) | (refine' RepI.mk (by assumption) (by assumption) (fun _ => rfl) ?e2 ?e5; (case e2 => exact (rep_one_free _ _ _ (by simpa using hcI)).symm); (case e5 => walk_at "my tok")))))
local macro_rules | `(tactic| walk_at "my begin") => `(tactic| (refine gen_toks ?_; intro tk0 htkB; have htk0 := Nat.le_trans (Nat.add_le_add_left (Nat.le_of_ble_eq_true rfl : 1 ≤ _) _) htkB; clear htkB; (try dsimp only at htk0)))

/-! part Signs -/
theorem flush_Signs {M : Model} {A : Around} {env : Env} {Q : Flow → Shared → Prop} {E : Value → Shared → Prop} {s : Shared} (h : wpAny M A (execs [] env) Q E s) : wpAny M A (execs [] env) Q E s := by w_top off; k_with_none; first | (walk1; done) | exact h
section
theorem lines_Signs_1 : True := by
  k_with "my steps" => repeat' (first | (k_unfold; (try dsimp only)) | ((fail_if_success (with_reducible show wpAny _ _ (exec (Stmt.While _ _ _ _) _) _ _ _)); (fail_if_success (with_reducible show wpAny _ _ (exec (Stmt.For _ _ _ _ _) _) _ _ _)); (fail_if_success (with_reducible show wpAny _ _ (pyIter _) _ _ _)); first | walk1 | (dsimp only; walk1) | (leave1; try dsimp only)))
  k_with "my enter" => k_dflt (refine' code_def (by k_asm) (by k_asm) (by k_asm) (by k_asm) (by k_asm) (by exact rfl) (by exact rfl) (by assumption) (by k_is) (by k_is) (by ktr_room) (by first | exact BindsTo.of_eq rfl | exact binds_K (by k_in) rfl (by k_is) rfl rfl rfl) (by exact locs rfl) ?_ (by exact rfl) (by exact rfl) (by exact rfl) (by decide); k_whole; intro _ _ _ _ _ _; walk_at "in enter")
  k_with "execs cons" => (k_here; (fail_if_success (fail_if_success k_gentoks)); refine gen_toks ?_; intro _; walk_at "in d")
  k_with "execs nil" => (k_here; (fail_if_success (fail_if_success k_gentoks)); refine gen_toks ?_; intro _; walk_at "in d")
  k_with "my tok" => ((try dsimp only); first | assumption | omega | (simp only [List.length_cons, List.length_nil]; omega))
  k_with "call builtin:str.replace" => (k_here; (with_reducible show wpAny _ _ (call _ [Value.str (S _) _, Value.str _ _, Value.str _ _]) _ _ _); refine' replS (by walk_at "my tok") (by walk_at "my tok") (by walk_at "my tok") (by assumption) (by assumption) (by first | decide | assumption) (by first | decide | assumption) (by walk_at "my tok") (by (simp only [List.length_cons, List.length_nil]; omega)) ?_; k_whole; intro _ _; walk_at "in d")
  trivial
theorem lines_Signs_2 : True := by
  k_with "my S" => first | with_reducible assumption | with_reducible rfl | assumption
  k_with "binaryOp Add str str" => (k_here; (with_reducible show wpAny _ _ (binaryOp Operator.Add (Value.str _ _) (Value.str _ _)) _ _ _); refine' addS (by walk_at "my S") (by walk_at "my S") (by walk_at "my tok") (by ((simp only [List.length_cons, List.length_nil, List.length_append]); omega)) ?_; k_whole; intro _ _; walk_at "in d")
  k_with "call builtin:len" => (k_here; (with_reducible show wpAny _ _ (call (Value.builtin "len") [Value.str (S _) _]) _ _ _); refine lenS (by first | omega | (simp only [List.length_cons, List.length_nil, List.length_append]; omega)) ?_; (try dsimp only))
  trivial
theorem Fr.nf2 {h₀ h : Heap} {L : Addr} {m : PySem.Str → Option Value} {x1 x2 : PySem.Str} {v1 v2 : Value} (F : Fr h₀ L h m) (h1 : m x1 = some v1) (h2 : m x2 = some v2) : Fr h₀ L h (fun y => if y = x1 then some v1 else if y = x2 then some v2 else m y) :=
  Fr.congr F fun y => by
    by_cases q1 : y = x1
    · subst q1; rw [if_pos rfl]; exact h1
    · by_cases q2 : y = x2
      · subst q2; rw [if_neg q1, if_pos rfl]; exact h2
      · rw [if_neg q1, if_neg q2]
abbrev sNumber : PySem.Str := PySem.Str.ofString "number"
abbrev sSigns : PySem.Str := PySem.Str.ofString "signs"
theorem sg_mod (n : Nat) : (n : Int).fmod 64 = ((n % 64 : Nat) : Int) := by
  rw [Int.fmod_eq_emod_of_nonneg _ (by decide)]; omega
theorem sg_div (n : Nat) : (n : Int).fdiv 64 = ((n / 64 : Nat) : Int) := by
  rw [Int.fdiv_eq_ediv_of_nonneg _ (by decide)]; omega
theorem c_signs (w : World) (n : Nat) (tn : Nat) (hn : n < 262144) : TCtr w 96 [.int n tn] 1 (fun _ => True) (signs n) := by
  unfold TCtr
  intro p loose mean mg mb dp un gd cn cs a ccd cl outer A₀ base h₀ L m news s Q E B F X N T hk hd hu hpre hret
  refine wpAny_call ?_
  walk_at "my enter"
  rename_i g1 L1 h1 FG F1 N1 B1 X1 T1
  refine wpAny_noRaise ?_
  have F2 := Fr.bind1 F1 rfl
  clear F1
  walk_at "my begin"
  rename_i tk0 htk0
  walk_at "my steps"
  rename_i h2 F3 N3 tk3 htk3
  dsimp only at F3
  rw [sg_mod, Int.toNat_natCast] at F3
  refine while_ind (fun f s' => ∃ (h' : Heap) (tk' k : Nat) (acc : List Nat) (t1 t2 : Nat) (m₁ : PySem.Str → Option Value), s' = ⟨h', s.gens, s.drawn, tk', s.os⟩ ∧ Fr g1 L1 h' (fun y => if y = sNumber then some (.int (k : Int) t1) else if y = sSigns then some (.str (S acc) t2) else m₁ y) ∧ News g1 L1 h' news ∧ s.toks ≤ tk' ∧ k < 64 ^ (f + 1) ∧ sgA f k acc = signs n ∧ acc.length + f ≤ 3 ∧ f ≤ 2) ?_ 2 ?_
  · rintro f s' ⟨h', tk', k, acc, t1, t2, m₁, rfl, F4, N4, hk4, hk64, hsg, hacc, hf⟩
    have hk2 : k < 262144 := Nat.lt_of_lt_of_le hk64 (Nat.pow_le_pow_right (by decide) (by omega : f + 1 ≤ 3))
    walk_at "my steps"
    · cases f with
      | zero => omega
      | succ f =>
        rename_i h5 F5 N5 tk5 htk5
        have e5 : (64 + ((k : Int).fdiv 64).fmod 64).toNat = 64 + k / 64 % 64 := by rw [sg_div, sg_mod]; omega
        rw [e5, sg_div] at F5
        refine ⟨f, Nat.lt_succ_self _, _, _, k / 64, (64 + k / 64 % 64) :: acc, _, _, _, rfl, Fr.nf2 F5 rfl rfl, N5, by omega, ?_, ?_, ?_, by omega⟩
        · rw [Nat.div_lt_iff_lt_mul (by decide)]; rw [Nat.pow_succ] at hk64; exact hk64
        · rw [sgA, if_pos (by omega)] at hsg; exact hsg
        · simp only [List.length_cons]; omega
    · have : acc = signs n := by
        cases f with
        | zero => exact hsg
        | succ f => rw [sgA, if_neg (by omega)] at hsg; exact hsg
      subst this
      exact hret _ _ _ (by assumption) (by assumption) (by omega)
  · refine ⟨h2, tk3, n, [n % 64], tn, tk0 + 1 + 1, _, rfl, Fr.nf2 F3 rfl rfl, N3, by omega, hn, rfl, by simp, by omega⟩
end

/-! part SignsH -/
theorem flush_SignsH {M : Model} {A : Around} {env : Env} {Q : Flow → Shared → Prop} {E : Value → Shared → Prop} {s : Shared} (h : wpAny M A (execs [] env) Q E s) : wpAny M A (execs [] env) Q E s := by w_top off; k_with_none; first | (walk1; done) | exact h
section
theorem lines_SignsH_1 : True := by
  k_with "my steps" => repeat' (first | (k_unfold; (try dsimp only)) | ((fail_if_success (with_reducible show wpAny _ _ (exec (Stmt.While _ _ _ _) _) _ _ _)); (fail_if_success (with_reducible show wpAny _ _ (exec (Stmt.For _ _ _ _ _) _) _ _ _)); (fail_if_success (with_reducible show wpAny _ _ (pyIter _) _ _ _)); first | walk1 | (dsimp only; walk1) | (leave1; try dsimp only)))
  k_with "my enter" => k_dflt (refine' code_def (by k_asm) (by k_asm) (by k_asm) (by k_asm) (by k_asm) (by exact rfl) (by exact rfl) (by assumption) (by k_is) (by k_is) (by ktr_room) (by first | exact BindsTo.of_eq rfl | exact binds_K (by k_in) rfl (by k_is) rfl rfl rfl) (by exact locs rfl) ?_ (by exact rfl) (by exact rfl) (by exact rfl) (by decide); k_whole; intro _ _ _ _ _ _; walk_at "in enter")
  k_with "execs cons" => (k_here; (fail_if_success (fail_if_success k_gentoks)); refine gen_toks ?_; intro _; walk_at "in d")
  k_with "execs nil" => (k_here; (fail_if_success (fail_if_success k_gentoks)); refine gen_toks ?_; intro _; walk_at "in d")
  k_with "my tok" => ((try dsimp only); first | assumption | omega | (simp only [List.length_cons, List.length_nil]; omega))
  k_with "call builtin:str.replace" => (k_here; (with_reducible show wpAny _ _ (call _ [Value.str (S _) _, Value.str _ _, Value.str _ _]) _ _ _); refine' replS (by walk_at "my tok") (by walk_at "my tok") (by walk_at "my tok") (by assumption) (by assumption) (by first | decide | assumption) (by first | decide | assumption) (by walk_at "my tok") (by (simp only [List.length_cons, List.length_nil]; omega)) ?_; k_whole; intro _ _; walk_at "in d")
  trivial
theorem lines_SignsH_2 : True := by
  k_with "my S" => first | with_reducible assumption | with_reducible rfl | assumption
  k_with "binaryOp Add str str" => (k_here; (with_reducible show wpAny _ _ (binaryOp Operator.Add (Value.str _ _) (Value.str _ _)) _ _ _); refine' addS (by walk_at "my S") (by walk_at "my S") (by walk_at "my tok") (by ((simp only [List.length_cons, List.length_nil, List.length_append]); omega)) ?_; k_whole; intro _ _; walk_at "in d")
  k_with "call builtin:len" => (k_here; (with_reducible show wpAny _ _ (call (Value.builtin "len") [Value.str (S _) _]) _ _ _); refine lenS (by first | omega | (simp only [List.length_cons, List.length_nil, List.length_append]; omega)) ?_; (try dsimp only))
  trivial
theorem c_signsH (w : World) (n : Nat) (tn : Nat) (hn : n < 262144) (hh : Option Value)
    {p : Program} {loose : List PySem.Str} {mean : ExcName → Option Value} {mg mb : PySem.Str → Option Value}
    {dp un : Nat} {gd : Option (List Code)} {cn : PySem.Str} {cs : Scope} {a : Addr} {ccd : Value} {cl : List (PySem.Str × Addr)} {outer : List Env} {A₀ : Around} {base h₀ : Heap} {L : Addr} {m : PySem.Str → Option Value}
    {news : List (Addr × Obj)} {s : Shared} {Q E : Value → Shared → Prop}
    (B : Below A₀ base outer h₀) (F : Fr h₀ L s.heap m) (X : (hd.heap_39 w.params).In h₀) (N : News h₀ L s.heap news) (T : Top p loose mean mg mb h₀) (hk : cs.kind = .function)
    (hd : dp + 1 < recursionLimit) (hu : un + 8 * 1 < cLine)
    (hret : ∀ (t : Nat) (h' : Heap) (tk' : Nat), Fr h₀ L h' m → News h₀ L h' news → s.toks ≤ tk' → Q (.str (S (signs n)) t) { s with heap := h', toks := tk' }) :
    wpAny (model PySem.Challenge.rw_ta0008_01.row.prog w) { handled := hh, depth := dp, frames := some (envX cn cs L a ccd cl :: outer), guards := gd, units := un } (call (.ref 96) [.int n tn]) Q E s := by
  refine wpAny_call ?_
  walk_at "my enter"
  rename_i g1 L1 h1 FG F1 N1 B1 X1 T1
  refine wpAny_noRaise ?_
  have F2 := Fr.bind1 F1 rfl
  clear F1
  walk_at "my begin"
  rename_i tk0 htk0
  walk_at "my steps"
  rename_i h2 F3 N3 tk3 htk3
  dsimp only at F3
  rw [sg_mod, Int.toNat_natCast] at F3
  refine while_ind (fun f s' => ∃ (h' : Heap) (tk' k : Nat) (acc : List Nat) (t1 t2 : Nat) (m₁ : PySem.Str → Option Value), s' = ⟨h', s.gens, s.drawn, tk', s.os⟩ ∧ Fr g1 L1 h' (fun y => if y = sNumber then some (.int (k : Int) t1) else if y = sSigns then some (.str (S acc) t2) else m₁ y) ∧ News g1 L1 h' news ∧ s.toks ≤ tk' ∧ k < 64 ^ (f + 1) ∧ sgA f k acc = signs n ∧ acc.length + f ≤ 3 ∧ f ≤ 2) ?_ 2 ?_
  · rintro f s' ⟨h', tk', k, acc, t1, t2, m₁, rfl, F4, N4, hk4, hk64, hsg, hacc, hf⟩
    have hk2 : k < 262144 := Nat.lt_of_lt_of_le hk64 (Nat.pow_le_pow_right (by decide) (by omega : f + 1 ≤ 3))
    walk_at "my steps"
    · cases f with
      | zero => omega
      | succ f =>
        rename_i h5 F5 N5 tk5 htk5
        have e5 : (64 + ((k : Int).fdiv 64).fmod 64).toNat = 64 + k / 64 % 64 := by rw [sg_div, sg_mod]; omega
        rw [e5, sg_div] at F5
        refine ⟨f, Nat.lt_succ_self _, _, _, k / 64, (64 + k / 64 % 64) :: acc, _, _, _, rfl, Fr.nf2 F5 rfl rfl, N5, by omega, ?_, ?_, ?_, by omega⟩
        · rw [Nat.div_lt_iff_lt_mul (by decide)]; rw [Nat.pow_succ] at hk64; exact hk64
        · rw [sgA, if_pos (by omega)] at hsg; exact hsg
        · simp only [List.length_cons]; omega
    · have : acc = signs n := by
        cases f with
        | zero => exact hsg
        | succ f => rw [sgA, if_neg (by omega)] at hsg; exact hsg
      subst this
      exact hret _ _ _ (by assumption) (by assumption) (by omega)
  · refine ⟨h2, tk3, n, [n % 64], tn, tk0 + 1 + 1, _, rfl, Fr.nf2 F3 rfl rfl, N3, by omega, hn, rfl, by simp, by omega⟩
end

/-! part Fmt -/
theorem flush_Fmt {M : Model} {A : Around} {env : Env} {Q : Flow → Shared → Prop} {E : Value → Shared → Prop} {s : Shared} (h : wpAny M A (execs [] env) Q E s) : wpAny M A (execs [] env) Q E s := by w_top off; k_with_none; first | (walk1; done) | exact h
section
theorem lines_Fmt_1 : True := by
  k_with "my steps" => repeat' (first | (k_unfold; (try dsimp only)) | ((fail_if_success (with_reducible show wpAny _ _ (exec (Stmt.While _ _ _ _) _) _ _ _)); (fail_if_success (with_reducible show wpAny _ _ (exec (Stmt.For _ _ _ _ _) _) _ _ _)); (fail_if_success (with_reducible show wpAny _ _ (pyIter _) _ _ _)); first | walk1 | (dsimp only; walk1) | (leave1; try dsimp only)))
  k_with "my enter" => k_dflt (refine' code_def (by k_asm) (by k_asm) (by k_asm) (by k_asm) (by k_asm) (by exact rfl) (by exact rfl) (by assumption) (by k_is) (by k_is) (by ktr_room) (by first | exact BindsTo.of_eq rfl | exact binds_K (by k_in) rfl (by k_is) rfl rfl rfl) (by exact locs rfl) ?_ (by exact rfl) (by exact rfl) (by exact rfl) (by decide); k_whole; intro _ _ _ _ _ _; walk_at "in enter")
  k_with "execs cons" => (k_here; (fail_if_success (fail_if_success k_gentoks)); refine gen_toks ?_; intro _; walk_at "in d")
  k_with "execs nil" => (k_here; (fail_if_success (fail_if_success k_gentoks)); refine gen_toks ?_; intro _; walk_at "in d")
  k_with "my tok" => ((try dsimp only); first | assumption | omega | (simp only [List.length_cons, List.length_nil]; omega))
  k_with "call builtin:str.replace" => (k_here; (with_reducible show wpAny _ _ (call _ [Value.str (S _) _, Value.str _ _, Value.str _ _]) _ _ _); refine' replS (by walk_at "my tok") (by walk_at "my tok") (by walk_at "my tok") (by assumption) (by assumption) (by first | decide | assumption) (by first | decide | assumption) (by walk_at "my tok") (by (simp only [List.length_cons, List.length_nil]; omega)) ?_; k_whole; intro _ _; walk_at "in d")
  trivial
theorem lines_Fmt_2 : True := by
  k_with "my S" => first | with_reducible assumption | with_reducible rfl | assumption
  k_with "binaryOp Add str str" => (k_here; (with_reducible show wpAny _ _ (binaryOp Operator.Add (Value.str _ _) (Value.str _ _)) _ _ _); refine' addS (by walk_at "my S") (by walk_at "my S") (by walk_at "my tok") (by ((simp only [List.length_cons, List.length_nil, List.length_append]); omega)) ?_; k_whole; intro _ _; walk_at "in d")
  k_with "call builtin:len" => (k_here; (with_reducible show wpAny _ _ (call (Value.builtin "len") [Value.str (S _) _]) _ _ _); refine lenS (by first | omega | (simp only [List.length_cons, List.length_nil, List.length_append]; omega)) ?_; (try dsimp only))
  trivial
theorem Fr.bind3 {h₀ h : Heap} {L : Addr} {b : List (PySem.Str × Value)} {x y z : PySem.Str} {v u t : Value} (F : Fr h₀ L h (fun q => List.lookup q b)) (e : b = [(x, v), (y, u), (z, t)]) :
    Fr h₀ L h (fun q => if q = x then some v else if q = y then some u else if q = z then some t else none) := by
  subst e
  refine Fr.congr F fun q => ?_
  simp only [List.lookup]
  by_cases h1 : q = x
  · subst h1; simp
  · have e1 : (q == x) = false := by simpa using h1
    by_cases h2 : q = y
    · subst h2; simp [e1, h1]
    · have e2 : (q == y) = false := by simpa using h2
      by_cases h3 : q = z
      · subst h3; simp [e1, e2, h1, h2]
      · have e3 : (q == z) = false := by simpa using h3
        simp [e1, e2, e3, h1, h2, h3]
theorem convSS {M : Model} {A : Around} {E : Value → Shared → Prop} {s : Shared} {x : PySem.Str} {t : Nat} {Q : Value → Shared → Prop} (h : ∀ (t' k : Nat), s.toks ≤ k → Q (.str x t') { s with toks := k }) (hsz : x.length ≤ sizeLine) : wpAny M A (convS (.str x t)) Q E s :=
  wpAny_habitSame_str (h t s.toks (Nat.le_refl _)) (h s.toks (s.toks + 1) (Nat.le_succ _)) hsz
theorem formatFieldS {M : Model} {A : Around} {E : Value → Shared → Prop} {s : Shared} {x : PySem.Str} {t : Nat} {Q : Value → Shared → Prop} (h : ∀ (t' k : Nat), s.toks ≤ k → Q (.str x t') { s with toks := k }) (hsz : x.length ≤ sizeLine) : wpAny M A (formatField (.str x t) PySem.Str.empty) Q E s := by
  show wpAny _ _ (do rule "fstring.same-str"; habitSame "fstring-hands-on-the-str" (.str x t)) Q E s
  exact wpAny_bind (wpAny_rule (wpAny_habitSame_str (h t s.toks (Nat.le_refl _)) (h s.toks (s.toks + 1) (Nat.le_succ _)) hsz))
theorem line16 : sizeLine = 16777216 := by decide
theorem lines_Fmt_3 : True := by
  k_with "convS str" => (refine convSS ?_ ?z; (case z => (rw [S_len, line16]; omega)); intro _ _; walk_at "in d")
  k_with "formatField str" => (refine formatFieldS ?_ ?z; (case z => (rw [S_len, line16]; omega)); intro _ _; walk_at "in d")
  k_with "joinParts" => ((with_reducible show wpAny _ _ (joinParts _ (evalEach [] _)) _ _ _); fail_if_success skip)
  trivial
theorem c_fmt (w : World) (y x : List Nat) (ty tx tq : Nat) (hy : y.length ≤ 10) (hx0 : 0 < x.length) (hx : x.length ≤ 1000000) : TCtr w 44 [.str (S y) ty, .str (S x) tx, .int 1 tq] 1 (fun _ => True) (y ++ [61, 34] ++ parE x ++ [34]) := by
  unfold TCtr
  intro p loose mean mg mb dp un gd cn cs a ccd cl outer A₀ base h₀ L m news s Q E B F X N T hk hd hu hpre hret
  refine wpAny_call ?_
  walk_at "my enter"
  rename_i g1 L1 h1 FG F1 N1 B1 X1 T1
  refine wpAny_noRaise ?_
  have F2 := Fr.bind3 F1 rfl
  clear F1
  walk_at "my begin"
  rename_i tk0 htk0
  have e1 : PySem.Str.ofString "\\" = S [92] := by decide
  have z1 : PySem.Str.ofString "\\\\" = S [92, 92] := by decide
  have e2 : PySem.Str.ofString "\"" = S [34] := by decide
  have z2 : PySem.Str.ofString "\\\"" = S [92, 34] := by decide
  have l1 := rep_one_len 92 [92, 92] x (b := 2) (by decide) (by decide)
  have l2 := rep_one_len 34 [92, 34] (rep [92] [92, 92] x) (b := 2) (by decide) (by decide)
  have e3 : PySem.Str.ofString "=\"" = S [61, 34] := by decide
  have e0 : PySem.Str.empty = S [] := rfl
  have ea : ∀ a b : List Nat, S a ++ S b = S (a ++ b) := fun a b => PySem.Str.ext' (by simp [PySem.Str.cps_append])
  walk_at "my steps"
  all_goals (try simp only [e0, e3, e2, ea])
  all_goals (try (rw [S_len, line16]; simp only [List.length_append, List.length_cons, List.length_nil]; omega))
  refine joinParts_nilE (joinParts_nil ?_ ?_)
  · walk_at "my steps"
    rw [List.nil_append, parE_steps]
    exact hret _ _ _ (by assumption) (by assumption) (by walk_at "my tok")
  · rw [S_len, line16]; simp only [List.length_append, List.length_cons, List.length_nil]; omega
end

/-! part Esc -/
theorem flush_Esc {M : Model} {A : Around} {env : Env} {Q : Flow → Shared → Prop} {E : Value → Shared → Prop} {s : Shared} (h : wpAny M A (execs [] env) Q E s) : wpAny M A (execs [] env) Q E s := by w_top off; k_with_none; first | (walk1; done) | exact h
section
theorem lines_Esc_1 : True := by
  k_with "my steps" => repeat' (first | (k_unfold; (try dsimp only)) | ((fail_if_success (with_reducible show wpAny _ _ (exec (Stmt.While _ _ _ _) _) _ _ _)); (fail_if_success (with_reducible show wpAny _ _ (exec (Stmt.For _ _ _ _ _) _) _ _ _)); (fail_if_success (with_reducible show wpAny _ _ (pyIter _) _ _ _)); first | walk1 | (dsimp only; walk1) | (leave1; try dsimp only)))
  k_with "my enter" => k_dflt (refine' code_def (by k_asm) (by k_asm) (by k_asm) (by k_asm) (by k_asm) (by exact rfl) (by exact rfl) (by assumption) (by k_is) (by k_is) (by ktr_room) (by first | exact BindsTo.of_eq rfl | exact binds_K (by k_in) rfl (by k_is) rfl rfl rfl) (by exact locs rfl) ?_ (by exact rfl) (by exact rfl) (by exact rfl) (by decide); k_whole; intro _ _ _ _ _ _; walk_at "in enter")
  k_with "execs cons" => (k_here; (fail_if_success (fail_if_success k_gentoks)); refine gen_toks ?_; intro _; walk_at "in d")
  k_with "execs nil" => (k_here; (fail_if_success (fail_if_success k_gentoks)); refine gen_toks ?_; intro _; walk_at "in d")
  k_with "my tok" => ((try dsimp only); first | assumption | omega | (simp only [List.length_cons, List.length_nil]; omega))
  k_with "call builtin:str.replace" => (k_here; (with_reducible show wpAny _ _ (call _ [Value.str (S _) _, Value.str _ _, Value.str _ _]) _ _ _); refine' replS (by walk_at "my tok") (by walk_at "my tok") (by walk_at "my tok") (by assumption) (by assumption) (by first | decide | assumption) (by first | decide | assumption) (by walk_at "my tok") (by (simp only [List.length_cons, List.length_nil]; omega)) ?_; k_whole; intro _ _; walk_at "in d")
  trivial
theorem lines_Esc_2 : True := by
  k_with "my S" => first | with_reducible assumption | with_reducible rfl | assumption
  k_with "binaryOp Add str str" => (k_here; (with_reducible show wpAny _ _ (binaryOp Operator.Add (Value.str _ _) (Value.str _ _)) _ _ _); refine' addS (by walk_at "my S") (by walk_at "my S") (by walk_at "my tok") (by ((simp only [List.length_cons, List.length_nil, List.length_append]); omega)) ?_; k_whole; intro _ _; walk_at "in d")
  k_with "call builtin:len" => (k_here; (with_reducible show wpAny _ _ (call (Value.builtin "len") [Value.str (S _) _]) _ _ _); refine lenS (by first | omega | (simp only [List.length_cons, List.length_nil, List.length_append]; omega)) ?_; (try dsimp only))
  trivial
theorem c_esc (w : World) (x : List Nat) (tx : Nat) (hx : x.length ≤ 60000) : TCtr w 82 [.str (S x) tx] 1 (fun _ => True) (escC x) := by
  unfold TCtr
  intro p loose mean mg mb dp un gd cn cs a ccd cl outer A₀ base h₀ L m news s Q E B F X N T hk hd hu hpre hret
  refine wpAny_call ?_
  walk_at "my enter"
  refine wpAny_mono (E := fun _ _ => False) ?_ (fun _ _ h => h) (fun _ _ h => h.elim)
  (with_reducible rename Fr _ _ _ _ => F1)
  have F2 := Fr.bind1 F1 rfl
  clear F1
  walk_at "my begin"
  rename_i tk0 htk0
  have e1 : PySem.Str.ofString "&" = S [38] := by decide
  have e2 : PySem.Str.ofString "<" = S [60] := by decide
  have e3 : PySem.Str.ofString ">" = S [62] := by decide
  have z1 : PySem.Str.ofString "&amp;" = S [38, 97, 109, 112, 59] := by decide
  have z2 : PySem.Str.ofString "&lt;" = S [38, 108, 116, 59] := by decide
  have z3 : PySem.Str.ofString "&gt;" = S [38, 103, 116, 59] := by decide
  walk1
  walk1
  walk1
  refine cut_rep (m := fun _ => none) 38 [38, 97, 109, 112, 59] F2 (by assumption) (by omega) (by walk_at "my tok") ?_ ?_
  · walk_at "my if rep"
  intro h1 t1 k1 F1 N1 hk1
  (try dsimp only)
  have l1 := rep_one_len 38 [38, 97, 109, 112, 59] x (b := 5) (by decide) (by decide)
  walk1
  refine cut_rep (m := fun _ => none) 60 [38, 108, 116, 59] F1 N1 (by omega) (by walk_at "my tok") ?_ ?_
  · walk_at "my if rep"
  intro h2 t2 k2 F2 N2 hk2
  (try dsimp only)
  have l2 := rep_one_len 60 [38, 108, 116, 59] (rep [38] [38, 97, 109, 112, 59] x) (b := 4) (by decide) (by decide)
  walk1
  refine cut_rep (m := fun _ => none) 62 [38, 103, 116, 59] F2 N2 (by omega) (by walk_at "my tok") ?_ ?_
  · walk_at "my if rep"
  intro h3 t3 k3 F3 N3 hk3
  (try dsimp only)
  walk_at "my steps"
  rw [escC_steps]
  exact hret _ _ _ (by assumption) (by assumption) (by omega)
theorem c_attr (w : World) (x : List Nat) (tx : Nat) (hx : x.length ≤ 10) : TCtr w 89 [.str (S x) tx] 1 (fun _ => True) (escA x) := by
  unfold TCtr
  intro p loose mean mg mb dp un gd cn cs a ccd cl outer A₀ base h₀ L m news s Q E B F X N T hk hd hu hpre hret
  refine wpAny_call ?_
  walk_at "my enter"
  refine wpAny_mono (E := fun _ _ => False) ?_ (fun _ _ h => h) (fun _ _ h => h.elim)
  (with_reducible rename Fr _ _ _ _ => F1)
  have F0 := Fr.bind1 F1 rfl
  clear F1
  walk_at "my begin"
  rename_i tk0 htk0
  have e1 : PySem.Str.ofString "&" = S [38] := by decide
  have z1 : PySem.Str.ofString "&amp;" = S [38, 97, 109, 112, 59] := by decide
  have e2 : PySem.Str.ofString "<" = S [60] := by decide
  have z2 : PySem.Str.ofString "&lt;" = S [38, 108, 116, 59] := by decide
  have e3 : PySem.Str.ofString ">" = S [62] := by decide
  have z3 : PySem.Str.ofString "&gt;" = S [38, 103, 116, 59] := by decide
  have e4 : PySem.Str.ofString "\"" = S [34] := by decide
  have z4 : PySem.Str.ofString "&quot;" = S [38, 113, 117, 111, 116, 59] := by decide
  have e5 : PySem.Str.ofString "\r" = S [13] := by decide
  have z5 : PySem.Str.ofString "&#13;" = S [38, 35, 49, 51, 59] := by decide
  have e6 : PySem.Str.ofString "\n" = S [10] := by decide
  have z6 : PySem.Str.ofString "&#10;" = S [38, 35, 49, 48, 59] := by decide
  have e7 : PySem.Str.ofString "\t" = S [9] := by decide
  have z7 : PySem.Str.ofString "&#09;" = S [38, 35, 48, 57, 59] := by decide
  walk1
  walk1
  walk1
  refine cut_rep (m := fun _ => none) 38 [38, 97, 109, 112, 59] F0 (by assumption) (by omega) (by walk_at "my tok") ?_ ?_
  · walk_at "my if rep"
  intro h1 t1 k1 F1 N1 hk1
  (try dsimp only)
  have l1 := rep_one_len 38 [38, 97, 109, 112, 59] x (b := 5) (by decide) (by decide)
  walk1
  refine cut_rep (m := fun _ => none) 60 [38, 108, 116, 59] F1 N1 (by omega) (by walk_at "my tok") ?_ ?_
  · walk_at "my if rep"
  intro h2 t2 k2 F2 N2 hk2
  (try dsimp only)
  have l2 := rep_one_len 60 [38, 108, 116, 59] (rep [38] [38, 97, 109, 112, 59] x) (b := 4) (by decide) (by decide)
  walk1
  refine cut_rep (m := fun _ => none) 62 [38, 103, 116, 59] F2 N2 (by omega) (by walk_at "my tok") ?_ ?_
  · walk_at "my if rep"
  intro h3 t3 k3 F3 N3 hk3
  (try dsimp only)
  have l3 := rep_one_len 62 [38, 103, 116, 59] (rep [60] [38, 108, 116, 59] (rep [38] [38, 97, 109, 112, 59] x)) (b := 4) (by decide) (by decide)
  walk1
  refine cut_rep (m := fun _ => none) 34 [38, 113, 117, 111, 116, 59] F3 N3 (by omega) (by walk_at "my tok") ?_ ?_
  · walk_at "my if rep"
  intro h4 t4 k4 F4 N4 hk4
  (try dsimp only)
  have l4 := rep_one_len 34 [38, 113, 117, 111, 116, 59] (rep [62] [38, 103, 116, 59] (rep [60] [38, 108, 116, 59] (rep [38] [38, 97, 109, 112, 59] x))) (b := 6) (by decide) (by decide)
  walk1
  refine cut_rep (m := fun _ => none) 13 [38, 35, 49, 51, 59] F4 N4 (by omega) (by walk_at "my tok") ?_ ?_
  · walk_at "my if rep"
  intro h5 t5 k5 F5 N5 hk5
  (try dsimp only)
  have l5 := rep_one_len 13 [38, 35, 49, 51, 59] (rep [34] [38, 113, 117, 111, 116, 59] (rep [62] [38, 103, 116, 59] (rep [60] [38, 108, 116, 59] (rep [38] [38, 97, 109, 112, 59] x)))) (b := 5) (by decide) (by decide)
  walk1
  refine cut_rep (m := fun _ => none) 10 [38, 35, 49, 48, 59] F5 N5 (by omega) (by walk_at "my tok") ?_ ?_
  · walk_at "my if rep"
  intro h6 t6 k6 F6 N6 hk6
  (try dsimp only)
  have l6 := rep_one_len 10 [38, 35, 49, 48, 59] (rep [13] [38, 35, 49, 51, 59] (rep [34] [38, 113, 117, 111, 116, 59] (rep [62] [38, 103, 116, 59] (rep [60] [38, 108, 116, 59] (rep [38] [38, 97, 109, 112, 59] x))))) (b := 5) (by decide) (by decide)
  walk1
  refine cut_rep (m := fun _ => none) 9 [38, 35, 48, 57, 59] F6 N6 (by omega) (by walk_at "my tok") ?_ ?_
  · walk_at "my if rep"
  intro h7 t7 k7 F7 N7 hk7
  (try dsimp only)
  have l7 := rep_one_len 9 [38, 35, 48, 57, 59] (rep [10] [38, 35, 49, 48, 59] (rep [13] [38, 35, 49, 51, 59] (rep [34] [38, 113, 117, 111, 116, 59] (rep [62] [38, 103, 116, 59] (rep [60] [38, 108, 116, 59] (rep [38] [38, 97, 109, 112, 59] x)))))) (b := 5) (by decide) (by decide)
  walk_at "my steps"
  rw [escA_steps]
  exact hret _ _ _ (by assumption) (by assumption) (by omega)
end

/-! part Quote -/
theorem flush_Quote {M : Model} {A : Around} {env : Env} {Q : Flow → Shared → Prop} {E : Value → Shared → Prop} {s : Shared} (h : wpAny M A (execs [] env) Q E s) : wpAny M A (execs [] env) Q E s := by w_top off; k_with_none; first | (walk1; done) | exact h
section
theorem lines_Quote_1 : True := by
  k_with "my steps" => repeat' (first | (k_unfold; (try dsimp only)) | ((fail_if_success (with_reducible show wpAny _ _ (exec (Stmt.While _ _ _ _) _) _ _ _)); (fail_if_success (with_reducible show wpAny _ _ (exec (Stmt.For _ _ _ _ _) _) _ _ _)); (fail_if_success (with_reducible show wpAny _ _ (pyIter _) _ _ _)); first | walk1 | (dsimp only; walk1) | (leave1; try dsimp only)))
  k_with "my enter" => k_dflt (refine' code_def (by k_asm) (by k_asm) (by k_asm) (by k_asm) (by k_asm) (by exact rfl) (by exact rfl) (by assumption) (by k_is) (by k_is) (by ktr_room) (by first | exact BindsTo.of_eq rfl | exact binds_K (by k_in) rfl (by k_is) rfl rfl rfl) (by exact locs rfl) ?_ (by exact rfl) (by exact rfl) (by exact rfl) (by decide); k_whole; intro _ _ _ _ _ _; walk_at "in enter")
  k_with "execs cons" => (k_here; (fail_if_success (fail_if_success k_gentoks)); refine gen_toks ?_; intro _; walk_at "in d")
  k_with "execs nil" => (k_here; (fail_if_success (fail_if_success k_gentoks)); refine gen_toks ?_; intro _; walk_at "in d")
  k_with "my tok" => ((try dsimp only); first | assumption | omega | (simp only [List.length_cons, List.length_nil]; omega))
  k_with "call builtin:str.replace" => (k_here; (with_reducible show wpAny _ _ (call _ [Value.str (S _) _, Value.str _ _, Value.str _ _]) _ _ _); refine' replS (by walk_at "my tok") (by walk_at "my tok") (by walk_at "my tok") (by assumption) (by assumption) (by first | decide | assumption) (by first | decide | assumption) (by walk_at "my tok") (by (simp only [List.length_cons, List.length_nil]; omega)) ?_; k_whole; intro _ _; walk_at "in d")
  trivial
theorem lines_Quote_2 : True := by
  k_with "my S" => first | with_reducible assumption | with_reducible rfl | assumption
  k_with "binaryOp Add str str" => (k_here; (with_reducible show wpAny _ _ (binaryOp Operator.Add (Value.str _ _) (Value.str _ _)) _ _ _); refine' addS (by walk_at "my S") (by walk_at "my S") (by walk_at "my tok") (by ((simp only [List.length_cons, List.length_nil, List.length_append]); omega)) ?_; k_whole; intro _ _; walk_at "in d")
  k_with "call builtin:len" => (k_here; (with_reducible show wpAny _ _ (call (Value.builtin "len") [Value.str (S _) _]) _ _ _); refine lenS (by first | omega | (simp only [List.length_cons, List.length_nil, List.length_append]; omega)) ?_; (try dsimp only))
  trivial
theorem pat1 {w : World} {h : Heap} (X : (hd.heap_39 w.params).In h) : PatAt h 56 55 code1 ∧ (∃ o, h.get? 56 = some o ∧ o.cls = .type "re.Pattern" ∧ o.dict = none) := by
  have a1 := X 56 _ (by k_is)
  have a2 := X 55 _ (by k_is)
  exact ⟨⟨_, _, _, _, _, _, _, _, _, a1, a2, by decide +kernel⟩, ⟨_, a1, rfl, rfl⟩⟩
theorem pat2 {w : World} {h : Heap} (X : (hd.heap_39 w.params).In h) : PatAt h 61 60 code2 ∧ (∃ o, h.get? 61 = some o ∧ o.cls = .type "re.Pattern" ∧ o.dict = none) := by
  have b1 := X 61 _ (by k_is)
  have b2 := X 60 _ (by k_is)
  exact ⟨⟨_, _, _, _, _, _, _, _, _, b1, b2, by decide +kernel⟩, ⟨_, b1, rfl, rfl⟩⟩
theorem PatAt.grown {h h' : Heap} {P C : Addr} {code : Array Nat} (p : PatAt h P C code) (hk : ∀ b o, h.get? b = some o → h'.get? b = some o) : PatAt h' P C code := by
  obtain ⟨a, b, dP, dC, items, slP, slC, cC, nC, q1, q2, q3⟩ := p.ex
  exact ⟨a, b, dP, dC, items, slP, slC, cC, nC, hk _ _ q1, hk _ _ q2, q3⟩
section
variable {w : World} {A : Around} {E : Value → Shared → Prop} {s : Shared} {h₀ : Heap} {L : Addr} {m : PySem.Str → Option Value} {news : List (Addr × Obj)}
theorem meth_sub1 {pl : Sem Bool} {Q : Value × List Value → Shared → Prop} (X : (hd.heap_39 w.params).In h₀) (F : Fr h₀ L s.heap m) (h : Q (.builtin "re.Pattern.sub", [.ref 56]) s) :
    wpAny (model PySem.Challenge.rw_ta0008_01.row.prog w) A (getMethod (.ref 56) (PySem.Str.ofString "sub") pl) Q E s := by
  obtain ⟨_, o, ho, hc, hd⟩ := pat1 X
  exact getMethod_builtin (T := "re.Pattern") ⟨o, F.keep _ _ ho, hc⟩ plain_pat slot_sub type_sub (fun a e => by cases e; exact ⟨o, F.keep _ _ ho, hd⟩) h
theorem meth_sub2 {pl : Sem Bool} {Q : Value × List Value → Shared → Prop} (X : (hd.heap_39 w.params).In h₀) (F : Fr h₀ L s.heap m) (h : Q (.builtin "re.Pattern.sub", [.ref 61]) s) :
    wpAny (model PySem.Challenge.rw_ta0008_01.row.prog w) A (getMethod (.ref 61) (PySem.Str.ofString "sub") pl) Q E s := by
  obtain ⟨_, o, ho, hc, hd⟩ := pat2 X
  exact getMethod_builtin (T := "re.Pattern") ⟨o, F.keep _ _ ho, hc⟩ plain_pat slot_sub type_sub (fun a e => by cases e; exact ⟨o, F.keep _ _ ho, hd⟩) h
theorem call_sub1 {l : List Nat} {y : PySem.Str} {tr tx : Nat} {Q : Value → Shared → Prop} (X : (hd.heap_39 w.params).In h₀) (F : Fr h₀ L s.heap m) (N : News h₀ L s.heap news) (hy : y = S [46, 46]) (hl : l.length ≤ 4000000) (htr : tr ≠ 0) (hs : 0 < s.toks)
    (hq : ∀ (t' k : Nat) h', Fr h₀ L h' m → News h₀ L h' news → s.toks ≤ k → Q (.str (S (dots l)) t') { s with heap := h', toks := k }) :
    wpAny (model PySem.Challenge.rw_ta0008_01.row.prog w) A (call (.builtin "re.Pattern.sub") [.ref 56, .str y tr, .str (S l) tx]) Q E s := by
  subst hy
  obtain ⟨p, o, ho, hc, _⟩ := pat1 X
  have := dots_len l true
  have e : dots l = dotsA true l := rfl
  refine call_sub (code := code1) (rp := [46, 46]) hl (p.grown F.keep) ⟨o, F.keep _ _ ho, hc⟩ (by decide +kernel) (fun i hi => ?_) htr hs (sub1 l) (by rw [e]; omega) fun t' k h' q1 q2 q3 => hq t' k h' (Fr.grown F q3) (News.grown N q3) q2
  obtain ⟨k, hk, q⟩ := forSearch1 l i hi
  exact ⟨k, by omega, q⟩
theorem call_sub2 {l : List Nat} {y : PySem.Str} {tr tx : Nat} {Q : Value → Shared → Prop} (X : (hd.heap_39 w.params).In h₀) (F : Fr h₀ L s.heap m) (N : News h₀ L s.heap news) (hy : y = S CRLF) (hl : l.length ≤ 4000000) (hn : (norm l).length ≤ 2000000) (htr : tr ≠ 0) (hs : 0 < s.toks)
    (hq : ∀ (t' k : Nat) h', Fr h₀ L h' m → News h₀ L h' news → s.toks ≤ k → Q (.str (S (norm l)) t') { s with heap := h', toks := k }) :
    wpAny (model PySem.Challenge.rw_ta0008_01.row.prog w) A (call (.builtin "re.Pattern.sub") [.ref 61, .str y tr, .str (S l) tx]) Q E s := by
  subst hy
  obtain ⟨p, o, ho, hc, _⟩ := pat2 X
  refine call_sub (code := code2) (rp := CRLF) hl (p.grown F.keep) ⟨o, F.keep _ _ ho, hc⟩ (by decide +kernel) (fun i hi => ?_) htr hs (sub2 l) (by omega) fun t' k h' q1 q2 q3 => hq t' k h' (Fr.grown F q3) (News.grown N q3) q2
  obtain ⟨k, hk, q⟩ := forSearch2 l i hi
  exact ⟨k, by omega, q⟩
end
theorem lines_Quote_3 : True := by
  k_with "getMethod ref" => (k_here; first | (refine meth_sub1 (by k_asm) (by k_asm) ?_) | (refine meth_sub2 (by k_asm) (by k_asm) ?_))
  k_with "call builtin:re.Pattern.sub" => (k_here; first
    | (refine' call_sub1 (by k_asm) (by k_asm) (by k_asm) (by decide) (by omega) (by first | decide | walk_at "my tok") (by walk_at "my tok") ?_; intro _ _ _ _ _; walk_at "in d")
    | (refine' call_sub2 (by k_asm) (by k_asm) (by k_asm) (by decide) (by omega) (by omega) (by first | decide | walk_at "my tok") (by walk_at "my tok") ?_; intro _ _ _ _ _; walk_at "in d"))
  trivial
theorem c_quote (w : World) (x : List Nat) (tx : Nat) (hx : x.length ≤ 1000000) (hn : (norm x).length ≤ 2000000) : TCtr w 68 [.str (S x) tx] 1 (fun _ => True) (dots (norm x)) := by
  unfold TCtr
  intro p loose mean mg mb dp un gd cn cs a ccd cl outer A₀ base h₀ L m news s Q E B F X N T hk hd hu hpre hret
  refine wpAny_call ?_
  walk_at "my enter"
  refine wpAny_mono (E := fun _ _ => False) ?_ (fun _ _ h => h) (fun _ _ h => h.elim)
  (with_reducible rename Fr _ _ _ _ => F1)
  have F2 := Fr.bind1 F1 rfl
  clear F1
  walk_at "my begin"
  rename_i tk0 htk0
  walk_at "my steps"
  exact hret _ _ _ (by assumption) (by assumption) (by omega)
end

/-! part Boxed -/
theorem flush_Boxed {M : Model} {A : Around} {env : Env} {Q : Flow → Shared → Prop} {E : Value → Shared → Prop} {s : Shared} (h : wpAny M A (execs [] env) Q E s) : wpAny M A (execs [] env) Q E s := by w_top off; k_with_none; first | (walk1; done) | exact h
section
theorem lines_Boxed_1 : True := by
  k_with "my steps" => repeat' (first | (k_unfold; (try dsimp only)) | ((fail_if_success (with_reducible show wpAny _ _ (exec (Stmt.While _ _ _ _) _) _ _ _)); (fail_if_success (with_reducible show wpAny _ _ (exec (Stmt.For _ _ _ _ _) _) _ _ _)); (fail_if_success (with_reducible show wpAny _ _ (pyIter _) _ _ _)); first | walk1 | (dsimp only; walk1) | (leave1; try dsimp only)))
  k_with "my enter" => k_dflt (refine' code_def (by k_asm) (by k_asm) (by k_asm) (by k_asm) (by k_asm) (by exact rfl) (by exact rfl) (by assumption) (by k_is) (by k_is) (by ktr_room) (by first | exact BindsTo.of_eq rfl | exact binds_K (by k_in) rfl (by k_is) rfl rfl rfl) (by exact locs rfl) ?_ (by exact rfl) (by exact rfl) (by exact rfl) (by decide); k_whole; intro _ _ _ _ _ _; walk_at "in enter")
  k_with "execs cons" => (k_here; (fail_if_success (fail_if_success k_gentoks)); refine gen_toks ?_; intro _; walk_at "in d")
  k_with "execs nil" => (k_here; (fail_if_success (fail_if_success k_gentoks)); refine gen_toks ?_; intro _; walk_at "in d")
  k_with "my tok" => ((try dsimp only); first | assumption | omega | (simp only [List.length_cons, List.length_nil]; omega))
  k_with "call builtin:str.replace" => (k_here; (with_reducible show wpAny _ _ (call _ [Value.str (S _) _, Value.str _ _, Value.str _ _]) _ _ _); refine' replS (by walk_at "my tok") (by walk_at "my tok") (by walk_at "my tok") (by assumption) (by assumption) (by first | decide | assumption) (by first | decide | assumption) (by walk_at "my tok") (by (simp only [List.length_cons, List.length_nil]; omega)) ?_; k_whole; intro _ _; walk_at "in d")
  trivial
theorem lines_Boxed_2 : True := by
  k_with "my S" => first | with_reducible assumption | with_reducible rfl | assumption
  k_with "binaryOp Add str str" => (k_here; (with_reducible show wpAny _ _ (binaryOp Operator.Add (Value.str _ _) (Value.str _ _)) _ _ _); refine' addS (by walk_at "my S") (by walk_at "my S") (by walk_at "my tok") (by ((simp only [List.length_cons, List.length_nil, List.length_append]); omega)) ?_; k_whole; intro _ _; walk_at "in d")
  k_with "call builtin:len" => (k_here; (with_reducible show wpAny _ _ (call (Value.builtin "len") [Value.str (S _) _]) _ _ _); refine lenS (by first | omega | (simp only [List.length_cons, List.length_nil, List.length_append]; omega)) ?_; (try dsimp only))
  trivial
theorem replT2 {prog : Program} {w : World} {A : Around} {E : Value → Shared → Prop} {s : Shared} {x y z : PySem.Str} {t u v : Nat} {Q : Value → Shared → Prop} (hu : u ≠ 0) (hv : v ≠ 0) (huv : u ≠ v) (hs : 0 < s.toks) (hb : x.length + (x.length + 1) * z.length ≤ 16777216) (hnb : NoneBooked s.heap)
    (hq : ∀ (t' k : Nat), s.toks ≤ k → Q (.str (Txt.replace x y z) t') { s with toks := k }) : wpAny (model prog w) A (call (.builtin "str.replace") [.str x t, .str y u, .str z v]) Q E s := by
  have e : sizeLine = 16777216 := by decide
  have hl : Builtin.Str.tooLong (x.length + (Builtin.Str.occurrences x y 0 x.length (x.length + 1)).length * z.length) = false := by
    have h1 := StrLaws.occ_length_le x y 0 x.length (x.length + 1)
    have h2 : (Builtin.Str.occurrences x y 0 x.length (x.length + 1)).length * z.length ≤ (x.length + 1) * z.length := Nat.mul_le_mul_right _ h1
    unfold Builtin.Str.tooLong
    exact decide_eq_false (by omega)
  refine call_givesAt F.slot_str_replace (typeIs_str _ _ _) F.entry_str_replace (F.args_str_replace_3 _ _ _)
    (gives_str_replace2 x y z t u v fun _ => ⟨by simp [hu, hv], by simp [huv], hl⟩) hnb ?_
  have hq' := hq
  unfold Txt.replace at hq'
  cases hc : ((Builtin.Str.occurrences x y 0 x.length (x.length + 1)).isEmpty || (y.length == 0 && z.length == 0))
  · rw [hc] at hq'
    simp only [Bool.false_eq_true, if_false] at hq' ⊢
    cases hyz : (y == z)
    · simp only [Bool.false_eq_true, if_false]
      exact ⟨fits_replaced y hb, hq' _ _ (Nat.le_succ _)⟩
    · simp only [if_true]
      have e : y = z := eq_of_beq hyz
      subst e
      rw [StrLaws.glued_between_self] at hq' ⊢
      exact ⟨hq' t s.toks (Nat.le_refl _), by rw [e]; omega, hq' _ _ (Nat.le_succ _)⟩
  · rw [hc] at hq'
    simp only [if_true] at hq' ⊢
    exact hq' t s.toks (Nat.le_refl _)
theorem none_of_K {K : Frag} {h : Heap} {a : Addr} {mg : PySem.Str → Option Value} {n : PySem.Str} (X : K.In h) (G : h.Ns a mg) (e : nsIn K a n = some none) : mg n = none := by
  obtain ⟨o, es, ep, ho, hd, _, hf⟩ := G
  unfold nsIn at e
  split at e
  · rename_i c d es' n' sl q
    have := X _ _ q
    rw [ho] at this
    cases this
    cases hd
    split at e
    · cases e
    · rename_i he
      rw [← hf]
      unfold nsFind findBy
      rw [← Array.find?_toList, he]
      rfl
  · cases e
theorem booked {w : World} {p : Program} {loose : List PySem.Str} {mean : ExcName → Option Value} {mg mb : PySem.Str → Option Value} {h : Heap} (X : (hd.heap_39 w.params).In h) (T : Top p loose mean mg mb h) : NoneBooked h := by
  obtain ⟨mc, h1, _⟩ := T.nodigits
  exact ⟨mc, h1, none_of_K X h1 (by k_is)⟩
theorem replEnds {w : World} {A : Around} {E : Value → Shared → Prop} {s : Shared} {x e : List Nat} {ys : PySem.Str} {t u v : Nat} {Q : Value → Shared → Prop} {p : Program} {loose : List PySem.Str} {mean : ExcName → Option Value} {mg mb : PySem.Str → Option Value} {h₀ : Heap} {L : Addr} {m : PySem.Str → Option Value}
    (X : (hd.heap_39 w.params).In h₀) (T : Top p loose mean mg mb h₀) (F : Fr h₀ L s.heap m) (hu : u ≠ 0) (hv : v ≠ 0) (huv : u ≠ v) (hs : 0 < s.toks) (hy : ys = S CRLF) (hx : x.length ≤ 1000000) (he : e.length ≤ 2)
    (hq : ∀ (t' k : Nat), s.toks ≤ k → Q (.str (S (rep CRLF e x)) t') { s with toks := k }) : wpAny (model PySem.Challenge.rw_ta0008_01.row.prog w) A (call (.builtin "str.replace") [.str (S x) t, .str ys u, .str (S e) v]) Q E s := by
  subst hy
  refine replT2 hu hv huv hs ?_ (booked (X.keeps F.keep) (T.keeps F.keep)) ?_
  · rw [S_len, S_len]
    have : (x.length + 1) * e.length ≤ (x.length + 1) * 2 := Nat.mul_le_mul_left _ he
    omega
  · rw [replace_S (by decide)]; exact hq
theorem lines_Boxed_3 : True := by
  k_with "call builtin:str.replace" => (k_here; (with_reducible show wpAny _ _ (call _ [Value.str (S _) _, Value.str (PySem.Str.ofString _) _, Value.str (S _) _]) _ _ _); refine' replEnds (by k_asm) (by k_asm) (by k_asm) (by walk_at "my tok") (by walk_at "my tok") (by walk_at "my tok") (by walk_at "my tok") (by walk_at "my S") (by omega) (by omega) ?_; k_whole; intro _ _; walk_at "in d")
  k_with "call ref" => (k_here; k_dflt (refine' TCtr.use (c_esc _ _ _ (by omega)) (by k_asm) (by k_asm) (by k_asm) (by k_asm) (by k_asm) (by first | exact rfl | assumption) (by ktr_room) (by ktr_units) trivial ?_); k_whole; intro _ _ _ _ _; walk_at "in d"; (try dsimp only); (try k_fold))
  k_with "call ref" => (k_here; k_dflt (refine' TCtr.use (c_fmt _ [112] _ _ _ _ (by decide) (by omega) (by omega)) (by k_asm) (by k_asm) (by k_asm) (by k_asm) (by k_asm) (by first | exact rfl | assumption) (by ktr_room) (by ktr_units) trivial ?_); k_whole; intro _ _ _ _ _; walk_at "in d"; (try dsimp only); (try k_fold))
  k_with "call ref" => (k_here; k_dflt (refine' TCtr.use (c_quote _ _ _ (by omega) (by omega)) (by k_asm) (by k_asm) (by k_asm) (by k_asm) (by k_asm) (by first | exact rfl | assumption) (by ktr_room) (by ktr_units) trivial ?_); k_whole; intro _ _ _ _ _; walk_at "in d"; (try dsimp only); (try k_fold))
  trivial
theorem c_box1 (w : World) (x e : List Nat) (t1 tx te : Nat) (hx : x.length ≤ 60000) : TCtr w 103 [.int 1 t1, .str (S x) tx, .str (S e) te] 2 (fun _ => True) ([60, 101, 62] ++ escC x ++ [60, 47, 101, 62]) := by
  unfold TCtr
  intro p loose mean mg mb dp un gd cn cs a ccd cl outer A₀ base h₀ L m news s Q E B F X N T hk hd hu hpre hret
  refine wpAny_call ?_
  walk_at "my enter"
  rename_i g1 L1 h1 FG F1 N1 B1 X1 T1
  refine wpAny_noRaise ?_
  have F2 := Fr.bind3 F1 rfl
  clear F1
  walk_at "my begin"
  rename_i tk0 htk0
  have e1 : PySem.Str.ofString "<e>" = S [60, 101, 62] := by decide
  have e2 : PySem.Str.ofString "</e>" = S [60, 47, 101, 62] := by decide
  have l1 := escC_len x
  walk_at "my steps"
  exact hret _ _ _ (by assumption) (by assumption) (by walk_at "my tok")
theorem c_box2 (w : World) (x e : List Nat) (t1 tx te : Nat) (hx0 : 0 < x.length) (hx : x.length ≤ 60000) : TCtr w 103 [.int 2 t1, .str (S x) tx, .str (S e) te] 2 (fun _ => True) ([112] ++ [61, 34] ++ parE x ++ [34]) := by
  unfold TCtr
  intro p loose mean mg mb dp un gd cn cs a ccd cl outer A₀ base h₀ L m news s Q E B F X N T hk hd hu hpre hret
  refine wpAny_call ?_
  walk_at "my enter"
  rename_i g1 L1 h1 FG F1 N1 B1 X1 T1
  refine wpAny_noRaise ?_
  have F2 := Fr.bind3 F1 rfl
  clear F1
  walk_at "my begin"
  rename_i tk0 htk0
  walk_at "my steps"
  exact hret _ _ _ (by assumption) (by assumption) (by walk_at "my tok")
theorem c_box3 (w : World) (x e : List Nat) (t1 tx te : Nat) (hx : x.length ≤ 60000) (hte : te ≠ 0) (hc : Clean x) (he : e = [13, 10] ∨ e = [10] ∨ e = [13]) : TCtr w 103 [.int 3 t1, .str (S x) tx, .str (S e) te] 2 (fun s => te < s.toks) ([109, 13, 10] ++ dots x ++ [13, 10, 46, 13, 10]) := by
  unfold TCtr
  intro p loose mean mg mb dp un gd cn cs a ccd cl outer A₀ base h₀ L m news s Q E B F X N T hk hd hu hpre hret
  refine wpAny_call ?_
  walk_at "my enter"
  rename_i g1 L1 h1 FG F1 N1 B1 X1 T1
  refine wpAny_noRaise ?_
  have F2 := Fr.bind3 F1 rfl
  clear F1
  walk_at "my begin"
  rename_i tk0 htk0
  have e0 : PySem.Str.ofString "\r\n" = S CRLF := by decide
  have e1 : PySem.Str.ofString "m\r\n" = S [109, 13, 10] := by decide
  have e2 : PySem.Str.ofString "\r\n.\r\n" = S [13, 10, 46, 13, 10] := by decide
  have hel : e.length ≤ 2 := by rcases he with rfl | rfl | rfl <;> decide
  have hn := norm_ends he hc
  have l1 := rep_len (y := CRLF) (z := e) (l := x) hel (by decide)
  have l2 : (norm (rep CRLF e x)).length = x.length := by rw [hn]
  have l3 := dots_len (norm (rep CRLF e x)) true
  have l4 : (dots (norm (rep CRLF e x))).length ≤ 2 * (norm (rep CRLF e x)).length := l3
  walk_at "my steps"
  rw [hn]
  exact hret _ _ _ (by assumption) (by assumption) (by walk_at "my tok")
end

/-! shared macros, 2 -/
local macro_rules | `(tactic| walk_at "in l") => `(tactic| (intro l1; (try k_lt l1)))
local macro_rules | `(tactic| k_all) => `(tactic| first | (refine allNe ?_; with_reducible assumption) | (refine allNe (AllLt.to _ ?_); with_reducible assumption) | with_reducible assumption)

/-! part Plain -/
theorem flush_Plain {M : Model} {A : Around} {env : Env} {Q : Flow → Shared → Prop} {E : Value → Shared → Prop} {s : Shared} (h : wpAny M A (execs [] env) Q E s) : wpAny M A (execs [] env) Q E s := by w_top off; k_with_none; first | (walk1; done) | exact h
section
theorem lines_Plain_1 : True := by
  k_with "my steps" => repeat' (first | (k_unfold; (try dsimp only)) | ((fail_if_success (with_reducible show wpAny _ _ (exec (Stmt.While _ _ _ _) _) _ _ _)); (fail_if_success (with_reducible show wpAny _ _ (exec (Stmt.For _ _ _ _ _) _) _ _ _)); (fail_if_success (with_reducible show wpAny _ _ (pyIter _) _ _ _)); first | walk1 | (dsimp only; walk1) | (leave1; try dsimp only)))
  k_with "my enter" => k_dflt (refine' code_def (by k_asm) (by k_asm) (by k_asm) (by k_asm) (by k_asm) (by exact rfl) (by exact rfl) (by assumption) (by k_is) (by k_is) (by ktr_room) (by first | exact BindsTo.of_eq rfl | exact binds_K (by k_in) rfl (by k_is) rfl rfl rfl) (by exact locs rfl) ?_ (by exact rfl) (by exact rfl) (by exact rfl) (by decide); k_whole; intro _ _ _ _ _ _; walk_at "in enter")
  k_with "execs cons" => (k_here; (fail_if_success (fail_if_success k_gentoks)); refine gen_toks ?_; intro _; walk_at "in d")
  k_with "execs nil" => (k_here; (fail_if_success (fail_if_success k_gentoks)); refine gen_toks ?_; intro _; walk_at "in d")
  k_with "my tok" => ((try dsimp only); first | assumption | omega | (simp only [List.length_cons, List.length_nil]; omega))
  k_with "call builtin:str.replace" => (k_here; (with_reducible show wpAny _ _ (call _ [Value.str (S _) _, Value.str _ _, Value.str _ _]) _ _ _); refine' replS (by walk_at "my tok") (by walk_at "my tok") (by walk_at "my tok") (by assumption) (by assumption) (by first | decide | assumption) (by first | decide | assumption) (by walk_at "my tok") (by (simp only [List.length_cons, List.length_nil]; omega)) ?_; k_whole; intro _ _; walk_at "in d")
  trivial
theorem lines_Plain_2 : True := by
  k_with "my S" => first | with_reducible assumption | with_reducible rfl | assumption
  k_with "binaryOp Add str str" => (k_here; (with_reducible show wpAny _ _ (binaryOp Operator.Add (Value.str _ _) (Value.str _ _)) _ _ _); refine' addS (by walk_at "my S") (by walk_at "my S") (by walk_at "my tok") (by ((simp only [List.length_cons, List.length_nil, List.length_append]); omega)) ?_; k_whole; intro _ _; walk_at "in d")
  k_with "call builtin:len" => (k_here; (with_reducible show wpAny _ _ (call (Value.builtin "len") [Value.str (S _) _]) _ _ _); refine lenS (by first | omega | (simp only [List.length_cons, List.length_nil, List.length_append]; omega)) ?_; (try dsimp only))
  trivial
theorem lines_Plain_3 : True := by
  k_with "call builtin:str.split" => (k_here; (with_reducible show wpAny _ _ (call _ [Value.str (S _) _, Value.str _ _]) _ _ _); refine' splitS (by k_asm) (by k_asm) (by walk_at "my S") (by decide) (by decide) (by omega) ?_; k_whole; intro _ _ _ _ _ _ _; walk_at "in l")
  k_with "my lst" => first | exact News.isList (by k_asm) (by k_mem) | exact Fr.lst (by k_asm) (by k_asm) | k_asm
  k_with "my pure" => first | (intro _; with_unfolding_all rfl) | (intro _; rfl)
  k_with "subscriptTail Name Slice str ref" => (k_here; k_dflt (first
    | (refine' tsl_ns (by k_asm) (by k_asm) (by omega) (by omega) ?_ (by with_unfolding_all rfl) (by walk_at "my pure"); intro _ _ _ _ _)
    | (refine' tsl_sn (by k_asm) (by k_asm) (by omega) (by omega) ?_ (by with_unfolding_all rfl) (by walk_at "my pure"); intro _ _ _ _ _)
    | (refine' tsl_ss (by k_asm) (by k_asm) (by omega) (by omega) (by omega) ?_ (by with_unfolding_all rfl) (by walk_at "my pure"); intro _ _ _ _ _)))
  k_with "subscriptTail Name Slice ref ref" => (k_here; (with_reducible show wpAny _ _ (subscriptTail _ (PySem.Expr.Slice _ _ none _) (Value.ref _) (Value.ref _)) _ _ _); k_dflt (refine' lsl (by k_asm) (by k_asm) (by walk_at "my lst") (by kmk_part) (by kmk_part) (by first | assumption | (simp only [List.length_append, List.length_cons, List.length_nil]; omega)) ?_ (by with_unfolding_all rfl) (by walk_at "my pure")); intro _ _ _ _; walk_at "in l")
  k_with "my item0" => (k_here; k_dflt (refine' item0 (by walk_at "my lst") (by assumption) (by first | assumption | exact spl59 _ _ (by assumption)) ?_ (by with_unfolding_all rfl)); k_whole; intro _)
  k_with "subscriptTail Name Constant ref int" => walk_at "my item0"
  k_with "subscriptTail Call Attribute cons nil Constant ref int" => walk_at "my item0"
  k_with "compareOp NotIn str str" => (k_here; refine' notin_mem (by walk_at "my S") (by first | assumption | (simp only [List.mem_append, List.mem_cons, true_or, or_true]; done) | (simp; done)) ?_; k_whole)
  k_with "my add len" => first | omega | ((simp only [List.length_cons, List.length_nil, List.length_append, List.length_drop, List.length_take]); omega)
  k_with "binaryOp Add str str" => (k_here; (with_reducible show wpAny _ _ (binaryOp Operator.Add (Value.str _ _) (Value.str _ _)) _ _ _); first
    | (refine' addS (by walk_at "my S") (by walk_at "my S") (by walk_at "my tok") (by walk_at "my add len") ?_; k_whole; intro _ _; walk_at "in d")
    | (refine' addN (by walk_at "my S") (by walk_at "my S") (by walk_at "my add len") ?_; k_whole; intro _ _))
  k_with "compareOp Eq str str" => (k_here; first
    | (refine' eqS_t (by walk_at "my S") (by walk_at "my S") (by first | assumption | decide) ?_; k_whole)
    | (refine' eqS_f (by walk_at "my S") (by walk_at "my S") (by first | assumption | decide) ?_; k_whole))
  k_with "compareOp NotEq str str" => (k_here; first
    | (refine' neS_f (by walk_at "my S") (by walk_at "my S") (by first | assumption | decide) ?_; k_whole)
    | (refine' neS_t (by walk_at "my S") (by walk_at "my S") (by first | assumption | decide) ?_; k_whole))
  k_with "compareOp In str str" => (k_here; refine' in_not (by walk_at "my S") (by assumption) ?_; k_whole)
  k_with "call builtin:list.append" => (k_here; (with_reducible show wpAny _ _ (call (Value.builtin _) [Value.ref _, _]) _ _ _); refine' lappend (by k_asm) (by k_asm) (by k_upd) (by first | omega | (simp only [strValues, List.length_map]; omega) | (simp only [List.length_append, List.length_cons, List.length_nil]; omega)) ?_; k_whole; intro _ _ _)
  trivial
theorem Fr.bind2 {h₀ h : Heap} {L : Addr} {b : List (PySem.Str × Value)} {x y : PySem.Str} {v u : Value} (F : Fr h₀ L h (fun q => List.lookup q b)) (e : b = [(x, v), (y, u)]) :
    Fr h₀ L h (fun q => if q = x then some v else if q = y then some u else none) := by
  subst e
  refine Fr.congr F fun q => ?_
  simp only [List.lookup]
  by_cases h1 : q = x
  · subst h1; simp
  · have e1 : (q == x) = false := by simpa using h1
    by_cases h2 : q = y
    · subst h2; simp [e1, h1]
    · have e2 : (q == y) = false := by simpa using h2
      simp [e1, e2, h1, h2]
theorem vals_at {ps : List (PySem.Str × Nat)} {ls : List (List Nat)} (e : ps.map (·.1) = ls.map S) {i : Nat} {v : Value} (h : (strValues ps)[i]? = some v) : ∃ p t, ls[i]? = some p ∧ v = .str (S p) t := by
  simp only [strValues, List.getElem?_map] at h
  obtain ⟨q, hq, rfl⟩ := Option.map_eq_some_iff.mp h
  have h2 := congrArg (fun z : List PySem.Str => z[i]?) e
  simp only [List.getElem?_map, hq, Option.map_some] at h2
  obtain ⟨p, hp, e2⟩ := Option.map_eq_some_iff.mp h2.symm
  exact ⟨p, q.2, hp, by rw [e2]⟩
/-- the table of names, as the text writes it -/
abbrev Dk : List (PyData × PyData) := [(.str (PySem.Str.ofString "amp"), .str (PySem.Str.ofString "&")), (.str (PySem.Str.ofString "lt"), .str (PySem.Str.ofString "<")), (.str (PySem.Str.ofString "gt"), .str (PySem.Str.ofString ">")), (.str (PySem.Str.ofString "quot"), .str (PySem.Str.ofString "\"")), (.str (PySem.Str.ofString "#13"), .str (PySem.Str.ofString "\r")), (.str (PySem.Str.ofString "#10"), .str (PySem.Str.ofString "\n")), (.str (PySem.Str.ofString "#09"), .str (PySem.Str.ofString "\t"))]
def KnownO (w : World) (o : Obj) : Prop := ∃ kvs, o.IsDictOf (_root_.PySem.strKind PySem.Challenge.rw_ta0008_01.row.prog w) kvs ∧ PyProof.V.FlatPairs PyData.str kvs Dk
theorem Dk_look {c : Nat} {n : List Nat} (h : nmA c = some n) : Spec.lookup (.str (S n)) Dk = some (.str (S [c])) := by
  unfold nmA at h
  repeat' split at h
  all_goals first | (cases h; done) | (cases h; subst_vars; first | rfl | kernel_rfl)
section
variable {w : World} {A : Around} {E : Value → Shared → Prop} {s : Shared} {h₀ : Heap} {L d : Addr} {o : Obj} {news : List (Addr × Obj)} {Q : Value → Shared → Prop} {c t : Nat} {n : List Nat}
theorem notin_known (N : News h₀ L s.heap news) (hm : (d, o) ∈ news) (hd : (d == sysModules) = false) (K : KnownO w o) (hn : nmA c = some n) (h : Q (.bool false) { s with toks := s.toks + 1 }) :
    wpAny (model PySem.Challenge.rw_ta0008_01.row.prog w) A (compareOp .NotIn (.str (S n) t) (.ref d)) Q E s := by
  obtain ⟨kvs, k1, k2⟩ := K
  refine notin_strTab (TabAt.ofNews N hm hd k1 k2) ?_
  rw [Dk_look hn]; exact h
theorem item_known {value slice : PySem.Expr} (N : News h₀ L s.heap news) (hm : (d, o) ∈ news) (hd : (d == sysModules) = false) (K : KnownO w o) (hn : nmA c = some n) (h : ∀ t' : Nat, Q (.str (S [c]) t') { s with toks := s.toks + 1 })
    (hs : subscripted slice false (.ref d) (.str (S n) t) = operate [.ref d, .str (S n) t] (getItem (.ref d) (.str (S n) t))) (hg : ∀ r, letTemporaryGo value (.ref d) r = pure ()) :
    wpAny (model PySem.Challenge.rw_ta0008_01.row.prog w) A (subscriptTail value slice (.ref d) (.str (S n) t)) Q E s := by
  obtain ⟨kvs, k1, k2⟩ := K
  refine item_strTab (TabAt.ofNews N hm hd k1 k2) (Dk_look hn) (fun v hv => ?_) hs hg
  obtain ⟨t', e, -⟩ := reads_str_inv (hv s.heap)
  subst e
  exact h t'
end
theorem lines_Plain_4 : True := by
  k_with "compareOp NotIn str ref" => (k_here; refine' notin_known (by k_asm) (by k_mem) (by assumption) (by assumption) (by assumption) ?_; k_whole)
  k_with "subscriptTail Name Name ref str" => (k_here; k_dflt (refine' item_known (by k_asm) (by k_mem) (by assumption) (by assumption) (by assumption) ?_ (by with_unfolding_all rfl) (by walk_at "my pure")); k_whole; intro _)
  trivial
theorem c_plain (w : World) {nm : Nat → Option (List Nat)} {bare : List Nat} (ok : NmOk nm bare) (l : List Nat) (tx tb : Nat) (hl : (l.flatMap (escN nm)).length ≤ 2000000) (hb : bare.length ≤ 10) : TCtr0 w 110 [.str (S (l.flatMap (escN nm))) tx, .str (S bare) tb] 1 l := by
  unfold TCtr0
  generalize hx : l.flatMap (escN nm) = x at hl
  intro p loose mean mg mb dp un gd cn cs a ccd cl outer A₀ base h₀ L m news s Q E B F X N T hk hd hu hret
  refine wpAny_call ?_
  walk_at "my enter"
  rename_i g1 L1 h1 FG F1 N1 B1 X1 T1
  refine wpAny_noRaise ?_
  have F2 := Fr.bind2 F1 rfl
  clear F1
  walk_at "my begin"
  rename_i tk0 htk0
  have e38 : PySem.Str.ofString "&" = S [38] := by decide
  have e59 : PySem.Str.ofString ";" = S [59] := by decide
  have hs38 : spl [38] x = (pcs nm l).1 :: (pcs nm l).2.map (piece nm) := by rw [← hx]; exact spl_esc ok l []
  have hh38 : (spl [38] x).head? = some (pcs nm l).1 := by rw [hs38]; rfl
  walk_at "my steps"
  rename_i hA oK lK loK hdK hfK apK hB D1 ps hC kC eps lD hE tkE htkE tI hF F3 N3
  have hK : KnownO w oK := ⟨_, hdK, hfK⟩
  clear hdK hfK
  dsimp only at F3
  generalize h1.objs.size = dK at *
  rw [hs38] at eps
  obtain ⟨t0, ps2, rfl, eps2⟩ := head_vals eps rfl
  rw [List.tail_cons] at eps2
  have hlen : (strValues ((S (pcs nm l).1, t0) :: ps2)).length ≤ 16777216 := by
    have h1 := congrArg List.length eps
    have h2 := spl_count [38] x
    rw [hs38] at h2
    simp only [List.length_map, strValues] at h1 ⊢
    omega
  refine wpAny_For ?_
  walk_at "my steps"
  rename_i D2 hG F4 N4 lD2
  rw [show kms_pick (strValues ((S (pcs nm l).1, t0) :: ps2)) (some 1) none = strValues ps2 from pick_tail _ _] at N4
  refine for_list (items := strValues ps2) (fun i m₁ nw _ => ∃ t : Nat, Bnd m₁ [(PySem.Str.ofString "plain", .str (S ((pcs nm l).1 ++ ((pcs nm l).2.take i).flatMap (fun q => q.1 :: q.2))) t), (PySem.Str.ofString "pieces", .ref D1), (PySem.Str.ofString "known", .ref dK), (PySem.Str.ofString "bare", .str (S bare) tb)] ∧ nw = (D2, W.listOf (strValues ps2).toArray 0) :: (D1, W.listOf (strValues ((S (pcs nm l).1, t0) :: ps2)).toArray 0) :: (dK, oK) :: news) (by exact rfl) (by exact rfl) (by exact rfl) F4 N4 (News.isList N4 (.head _)) ?hst ?h0 ?turn ?done
  case hst => rintro i m₁ nw tk₁ h₁ ⟨t, hb, rfl⟩ F5 N5; exact News.isList N5 (.head _)
  case h0 => exact ⟨tI, ⟨by rw [List.take_zero, List.flatMap_nil, List.append_nil]; rfl, rfl, rfl, rfl, trivial⟩, rfl⟩
  case turn =>
    rintro i v m₁ nw tk₁ h₁ it o hv ⟨t, hb, rfl⟩ hO hne F5 N5
    obtain ⟨pq, tp, hpq, rfl⟩ := vals_at eps2 hv
    rw [List.getElem?_map] at hpq
    obtain ⟨q, hq, rfl⟩ := Option.map_eq_some_iff.mp hpq
    clear hpq
    have hqm := List.mem_of_getElem? hq
    obtain ⟨n, hn⟩ := pcs_some nm l q hqm
    obtain ⟨hnA, hin⟩ := ok.all _ _ hn
    have hpc : piece nm q = n ++ 59 :: q.2 := by unfold piece; rw [hn]; rfl
    have h59 := (nmA_free hnA).2
    rw [hpc] at F5
    have F6 := Fr.turn F5 hb rfl
    clear F5
    have hplen : (n ++ 59 :: q.2).length ≤ 2000010 := by
      have h1 := pcs_len2 nm l q hqm
      have h2 := nmA_len hnA
      have h3 := escN_len nm l
      rw [hx] at h3
      simp only [List.length_append, List.length_cons]; omega
    have hnlen := nmA_len hnA
    have hq2 := pcs_len2 nm l q hqm
    have hacc := pcs_len nm l i
    have hll := escN_len nm l
    rw [hx] at hll
    have hin2 : q.1 ∈ [38] ++ bare := by
      rcases hin with h | h
      · rw [h]; exact .head _
      · exact List.mem_append_right _ h
    have h59p : 59 ∈ n ++ 59 :: q.2 := by simp
    obtain ⟨P, hP⟩ : ∃ P, P = (pcs nm l).1 ++ ((pcs nm l).2.take i).flatMap (fun q => q.1 :: q.2) := ⟨_, rfl⟩
    rw [← hP] at hacc F6
    walk_at "my steps"
    rename_i h7 F7 N7 tk7 htk7
    rw [drop_piece] at F7
    have eP : P ++ [q.1] ++ q.2 = (pcs nm l).1 ++ ((pcs nm l).2.take (i + 1)).flatMap (fun q => q.1 :: q.2) := by
      rw [hP, take_succ_at hq]; simp
    rw [eP] at F7
    exact ⟨_, _, _, _, rfl, F7, News.sub N7 (fun p hp => .tail _ hp), hne, _, ⟨rfl, rfl, rfl, rfl, trivial⟩, rfl⟩
  case done =>
    rintro m₁ nw tk₁ h₁ ⟨t, hb, rfl⟩ F5 N5
    have e1 : (strValues ps2).length = (pcs nm l).2.length := by
      have := congrArg List.length eps2
      simpa [strValues] using this
    rw [e1, List.take_length, pcs_back] at hb
    have F6 := Fr.nf F5 hb
    clear F5
    dsimp only
    walk_at "my steps"
    refine wpAny_For ?_
    walk_at "my steps"
    refine for_list (items := strValues ((S (pcs nm l).1, t0) :: ps2)) (fun i m₁ nw _ => Bnd m₁ [(PySem.Str.ofString "plain", .str (S l) t), (PySem.Str.ofString "bare", .str (S bare) tb)] ∧ nw = (D2, W.listOf (strValues ps2).toArray 0) :: (D1, W.listOf (strValues ((S (pcs nm l).1, t0) :: ps2)).toArray 0) :: (dK, oK) :: news) (by exact rfl) (by exact rfl) (by exact rfl) F6 N5 (News.isList N5 (.tail _ (.head _))) ?hst2 ?h02 ?turn2 ?done2
    case hst2 => rintro i m₁ nw tk₁ h₁ ⟨hb, rfl⟩ F5 N5; exact News.isList N5 (.tail _ (.head _))
    case h02 => exact ⟨⟨rfl, rfl, trivial⟩, rfl⟩
    case turn2 =>
      rintro i v m₁ nw tk₁ h₁ it o hv ⟨hb, rfl⟩ hO hne F5 N5
      obtain ⟨pp, tp, hpp, rfl⟩ := vals_at eps hv
      have hpm := pieces_bare ok l pp (List.mem_of_getElem? hpp)
      have F6 := Fr.turn F5 hb rfl
      clear F5
      walk_at "my steps"
      refine wpAny_For ?_
      walk_at "my steps"
      refine for_str (fun i m₁ nw _ => Bnd m₁ [(PySem.Str.ofString "plain", .str (S l) t), (PySem.Str.ofString "bare", .str (S bare) tb)] ∧ nw = (it, o) :: (D2, W.listOf (strValues ps2).toArray 0) :: (D1, W.listOf (strValues ((S (pcs nm l).1, t0) :: ps2)).toArray 0) :: (dK, oK) :: news) (by exact rfl) (by exact rfl) (by exact rfl) F6 N5 ?h03 ?turn3 ?done3
      case h03 => exact ⟨⟨rfl, rfl, trivial⟩, rfl⟩
      case turn3 =>
        rintro j c m₁ nw tk₁ h₁ it2 o2 tc hc ⟨hb, rfl⟩ hne2 F5 N5
        have hcb : c ∉ bare := hpm c (List.mem_of_getElem? (by simpa using hc))
        have F6 := Fr.turn F5 hb rfl
        clear F5
        walk_at "my steps"
        exact ⟨_, _, _, _, rfl, by assumption, by assumption, hne2, ⟨rfl, rfl, trivial⟩, rfl⟩
      case done3 =>
        rintro m₁ nw tk₁ h₁ ⟨hb, rfl⟩ F5 N5
        dsimp only
        walk_at "my steps"
        exact ⟨_, _, _, _, rfl, F5, N5, hne, ⟨hb, rfl⟩⟩
    case done2 =>
      rintro m₁ nw tk₁ h₁ ⟨hb, rfl⟩ F5 N5
      have F6 := Fr.nf F5 hb
      clear F5
      dsimp only
      walk_at "my steps"
      exact hret _ _ _ (by assumption) (News.sub (by assumption) fun p hp => .tail _ (.tail _ (.tail _ hp)))
end

/-! part Rows -/
theorem flush_Rows {M : Model} {A : Around} {env : Env} {Q : Flow → Shared → Prop} {E : Value → Shared → Prop} {s : Shared} (h : wpAny M A (execs [] env) Q E s) : wpAny M A (execs [] env) Q E s := by w_top off; k_with_none; first | (walk1; done) | exact h
section
theorem lines_Rows_1 : True := by
  k_with "my steps" => repeat' (first | (k_unfold; (try dsimp only)) | ((fail_if_success (with_reducible show wpAny _ _ (exec (Stmt.While _ _ _ _) _) _ _ _)); (fail_if_success (with_reducible show wpAny _ _ (exec (Stmt.For _ _ _ _ _) _) _ _ _)); (fail_if_success (with_reducible show wpAny _ _ (pyIter _) _ _ _)); first | walk1 | (dsimp only; walk1) | (leave1; try dsimp only)))
  k_with "my enter" => k_dflt (refine' code_def (by k_asm) (by k_asm) (by k_asm) (by k_asm) (by k_asm) (by exact rfl) (by exact rfl) (by assumption) (by k_is) (by k_is) (by ktr_room) (by first | exact BindsTo.of_eq rfl | exact binds_K (by k_in) rfl (by k_is) rfl rfl rfl) (by exact locs rfl) ?_ (by exact rfl) (by exact rfl) (by exact rfl) (by decide); k_whole; intro _ _ _ _ _ _; walk_at "in enter")
  k_with "execs cons" => (k_here; (fail_if_success (fail_if_success k_gentoks)); refine gen_toks ?_; intro _; walk_at "in d")
  k_with "execs nil" => (k_here; (fail_if_success (fail_if_success k_gentoks)); refine gen_toks ?_; intro _; walk_at "in d")
  k_with "my tok" => ((try dsimp only); first | assumption | omega | (simp only [List.length_cons, List.length_nil]; omega))
  k_with "call builtin:str.replace" => (k_here; (with_reducible show wpAny _ _ (call _ [Value.str (S _) _, Value.str _ _, Value.str _ _]) _ _ _); refine' replS (by walk_at "my tok") (by walk_at "my tok") (by walk_at "my tok") (by assumption) (by assumption) (by first | decide | assumption) (by first | decide | assumption) (by walk_at "my tok") (by (simp only [List.length_cons, List.length_nil]; omega)) ?_; k_whole; intro _ _; walk_at "in d")
  trivial
theorem lines_Rows_2 : True := by
  k_with "my S" => first | with_reducible assumption | with_reducible rfl | assumption
  k_with "binaryOp Add str str" => (k_here; (with_reducible show wpAny _ _ (binaryOp Operator.Add (Value.str _ _) (Value.str _ _)) _ _ _); refine' addS (by walk_at "my S") (by walk_at "my S") (by walk_at "my tok") (by ((simp only [List.length_cons, List.length_nil, List.length_append]); omega)) ?_; k_whole; intro _ _; walk_at "in d")
  k_with "call builtin:len" => (k_here; (with_reducible show wpAny _ _ (call (Value.builtin "len") [Value.str (S _) _]) _ _ _); refine lenS (by first | omega | (simp only [List.length_cons, List.length_nil, List.length_append]; omega)) ?_; (try dsimp only))
  trivial
theorem lines_Rows_3 : True := by
  k_with "call builtin:str.split" => (k_here; (with_reducible show wpAny _ _ (call _ [Value.str (S _) _, Value.str _ _]) _ _ _); refine' splitS (by k_asm) (by k_asm) (by walk_at "my S") (by decide) (by decide) (by omega) ?_; k_whole; intro _ _ _ _ _ _ _; walk_at "in l")
  k_with "my lst" => first | exact News.isList (by k_asm) (by k_mem) | exact Fr.lst (by k_asm) (by k_asm) | k_asm
  k_with "my pure" => first | (intro _; with_unfolding_all rfl) | (intro _; rfl)
  k_with "subscriptTail Name Slice str ref" => (k_here; k_dflt (first
    | (refine' tsl_ns (by k_asm) (by k_asm) (by omega) (by omega) ?_ (by with_unfolding_all rfl) (by walk_at "my pure"); intro _ _ _ _ _)
    | (refine' tsl_sn (by k_asm) (by k_asm) (by omega) (by omega) ?_ (by with_unfolding_all rfl) (by walk_at "my pure"); intro _ _ _ _ _)
    | (refine' tsl_ss (by k_asm) (by k_asm) (by omega) (by omega) (by omega) ?_ (by with_unfolding_all rfl) (by walk_at "my pure"); intro _ _ _ _ _)))
  k_with "subscriptTail Name Slice ref ref" => (k_here; (with_reducible show wpAny _ _ (subscriptTail _ (PySem.Expr.Slice _ _ none _) (Value.ref _) (Value.ref _)) _ _ _); k_dflt (refine' lsl (by k_asm) (by k_asm) (by walk_at "my lst") (by kmk_part) (by kmk_part) (by first | assumption | (simp only [List.length_append, List.length_cons, List.length_nil]; omega)) ?_ (by with_unfolding_all rfl) (by walk_at "my pure")); intro _ _ _ _; walk_at "in l")
  k_with "my item0" => (k_here; k_dflt (refine' item0 (by walk_at "my lst") (by assumption) (by first | assumption | exact spl59 _ _ (by assumption)) ?_ (by with_unfolding_all rfl)); k_whole; intro _)
  k_with "subscriptTail Name Constant ref int" => walk_at "my item0"
  k_with "subscriptTail Call Attribute cons nil Constant ref int" => walk_at "my item0"
  k_with "compareOp NotIn str str" => (k_here; refine' notin_mem (by walk_at "my S") (by first | assumption | (simp only [List.mem_append, List.mem_cons, true_or, or_true]; done) | (simp; done)) ?_; k_whole)
  k_with "my add len" => first | omega | ((simp only [List.length_cons, List.length_nil, List.length_append, List.length_drop, List.length_take]); omega)
  k_with "binaryOp Add str str" => (k_here; (with_reducible show wpAny _ _ (binaryOp Operator.Add (Value.str _ _) (Value.str _ _)) _ _ _); first
    | (refine' addS (by walk_at "my S") (by walk_at "my S") (by walk_at "my tok") (by walk_at "my add len") ?_; k_whole; intro _ _; walk_at "in d")
    | (refine' addN (by walk_at "my S") (by walk_at "my S") (by walk_at "my add len") ?_; k_whole; intro _ _))
  k_with "compareOp Eq str str" => (k_here; first
    | (refine' eqS_t (by walk_at "my S") (by walk_at "my S") (by first | assumption | decide) ?_; k_whole)
    | (refine' eqS_f (by walk_at "my S") (by walk_at "my S") (by first | assumption | decide) ?_; k_whole))
  k_with "compareOp NotEq str str" => (k_here; first
    | (refine' neS_f (by walk_at "my S") (by walk_at "my S") (by first | assumption | decide) ?_; k_whole)
    | (refine' neS_t (by walk_at "my S") (by walk_at "my S") (by first | assumption | decide) ?_; k_whole))
  k_with "compareOp In str str" => (k_here; refine' in_not (by walk_at "my S") (by assumption) ?_; k_whole)
  k_with "call builtin:list.append" => (k_here; (with_reducible show wpAny _ _ (call (Value.builtin _) [Value.ref _, _]) _ _ _); refine' lappend (by k_asm) (by k_asm) (by k_upd) (by first | omega | (simp only [strValues, List.length_map]; omega) | (simp only [List.length_append, List.length_cons, List.length_nil]; omega)) ?_; k_whole; intro _ _ _)
  trivial
theorem vals_at2 {ps : List (PySem.Str × Nat)} {ls : List (List Nat)} (e : ps.map (·.1) = ls.map S) {i : Nat} {v : Value} (h : (strValues ps)[i]? = some v) : ∃ p t, ls[i]? = some p ∧ v = .str (S p) t := by
  simp only [strValues, List.getElem?_map] at h
  obtain ⟨q, hq, rfl⟩ := Option.map_eq_some_iff.mp h
  have h2 := congrArg (fun z : List PySem.Str => z[i]?) e
  simp only [List.getElem?_map, hq, Option.map_some] at h2
  obtain ⟨p, hp, e2⟩ := Option.map_eq_some_iff.mp h2.symm
  exact ⟨p, q.2, hp, by rw [e2]⟩
theorem strV_snoc (us : List (PySem.Str × Nat)) (a : PySem.Str) (t : Nat) : strValues us ++ [.str a t] = strValues (us ++ [(a, t)]) := by simp [strValues]
theorem hne2 {a b c : Addr} {x z z' : Obj} {news : List (Addr × Obj)} (h : ∀ p ∈ (a, x) :: (b, z) :: news, p.1 ≠ c) : ∀ p ∈ (a, x) :: (b, z') :: news, p.1 ≠ c := by
  intro p hp
  rcases List.mem_cons.mp hp with rfl | hp
  · exact h _ (.head _)
  · rcases List.mem_cons.mp hp with rfl | hp
    · exact h (b, z) (.tail _ (.head _))
    · exact h _ (.tail _ (.tail _ hp))
theorem lines_Rows_4 : True := by
  k_with "call builtin:str.join" => (k_here; (with_reducible show wpAny _ _ (call (Value.builtin "str.join") [Value.str _ _, Value.ref _]) _ _ _); refine' joinS (by walk_at "my lst") (by assumption) (by walk_at "my S") (by assumption) ?_; k_whole; intro _ _ _)
  trivial
theorem c_rows (w : World) {h : List Nat} (hc : Clean h) (tx : Nat) (hl : (dots h).length ≤ 1000000) : TCtr0 w 117 [.str (S (dots h)) tx] 1 h := by
  unfold TCtr0
  obtain ⟨rs, hne, hf, rfl⟩ := hc.rows
  rw [dots_jn hf hne] at hl ⊢
  have hf2 : ∀ r ∈ rs.map dotRow, FreeRow r := by
    intro r hr
    obtain ⟨x, hx, rfl⟩ := List.mem_map.mp hr
    exact dotRow_free (hf x hx)
  have hsp : spl CRLF (jn CRLF (rs.map dotRow)) = rs.map dotRow := spl_rows hf2 (by simpa using hne)
  generalize hx : jn CRLF (rs.map dotRow) = x at hl hsp
  intro p loose mean mg mb dp un gd cn cs a ccd cl outer A₀ base h₀ L m news s Q E B F X N T hk hd hu hret
  refine wpAny_call ?_
  walk_at "my enter"
  rename_i g1 L1 h1 FG F1 N1 B1 X1 T1
  refine wpAny_noRaise ?_
  have F2 := Fr.bind1 F1 rfl
  clear F1
  walk_at "my begin"
  rename_i tk0 htk0
  have e13 : PySem.Str.ofString "\r\n" = S CRLF := by decide
  walk_at "my steps"
  refine wpAny_For ?_
  walk_at "my steps"
  rename_i lR h2 llR h3 F3 N3 tk3 htk3 D ps h4 k4 eps F4 N4 lD
  rw [hsp] at eps
  have hjl := jn_len CRLF (rs.map dotRow) (by simpa using hne)
  rw [hx, List.length_map, show CRLF.length = 2 from rfl] at hjl
  have hds := dotRows_sum rs
  refine for_list (items := strValues ps) (fun i m₁ nw _ => ∃ us : List (PySem.Str × Nat), us.map (·.1) = (rs.take i).map S ∧ Bnd m₁ [(PySem.Str.ofString "rows", .ref lR)] ∧ nw = (D, W.listOf (strValues ps).toArray 0) :: (lR, W.listOf (strValues us).toArray i) :: news) (by exact rfl) (by exact rfl) (by exact rfl) F4 N4 (News.isList N4 (.head _)) ?hst ?h0 ?turn ?done
  case hst => rintro i m₁ nw tk₁ h₁ ⟨us, hus, hb, rfl⟩ F5 N5; exact News.isList N5 (.head _)
  case h0 => exact ⟨[], rfl, ⟨rfl, trivial⟩, rfl⟩
  case turn =>
    rintro i v m₁ nw tk₁ h₁ it o hv ⟨us, hus, hb, rfl⟩ hO hne' F5 N5
    obtain ⟨pp, tp, hpp, rfl⟩ := vals_at2 eps hv
    rw [List.getElem?_map] at hpp
    obtain ⟨r, hr, rfl⟩ := Option.map_eq_some_iff.mp hpp
    clear hpp
    have hfr := hf2 _ (List.mem_map_of_mem (List.mem_of_getElem? hr))
    have h13 : (13 : Nat) ∉ dotRow r := fun q => (hfr _ q).1 rfl
    have h10 : (10 : Nat) ∉ dotRow r := fun q => (hfr _ q).2 rfl
    have hul := congrArg List.length hus
    have hrl : (dotRow r).length ≤ 16777216 := by
      have := mem_len_sum _ _ (List.mem_map_of_mem (f := dotRow) (List.mem_of_getElem? hr)); omega
    have huz : us.length ≤ 16777216 := by simp only [List.length_map, List.length_take] at hul; omega
    have s13 : PySem.Str.ofString "\r" = S [13] := by decide
    have s10 : PySem.Str.ofString "\n" = S [10] := by decide
    have s46 : PySem.Str.ofString "." = S [46] := by decide
    have s462 : PySem.Str.ofString ".." = S [46, 46] := by decide
    have F6 := Fr.turn F5 hb rfl
    clear F5
    have hud := undot_dotRow r
    have hnl : @Ne Nat lR it := hne' (lR, _) (.tail _ (.head _))
    have hnl2 : lR < D := lD.1
    by_cases hd : (dotRow r).take (1 : Int).toNat = [46]
    · have hd2 : (dotRow r).take (2 : Int).toNat = [46, 46] := dotRow_two r hd
      walk_at "my steps"
      rename_i h5 F7 N7 tk7 htk7
      have hu : (dotRow r).drop (1 : Int).toNat = r := by
        unfold undot at hud; rw [if_pos (show (dotRow r).take 1 = [46] from hd)] at hud; exact hud
      rw [hu, strV_snoc] at N7
      refine ⟨_, _, _, _, rfl, F7, N7, hne2 hne', _, ?_, ⟨rfl, trivial⟩, rfl⟩
      rw [List.map_append, hus, take_succ_at hr, List.map_append]; rfl
    · walk_at "my steps"
      rename_i h5 F7 N7 tk7 htk7
      have hu : dotRow r = r := by
        unfold undot at hud; rw [if_neg (show ¬ (dotRow r).take 1 = [46] from hd)] at hud; exact hud
      rw [hu, strV_snoc] at N7
      refine ⟨_, _, _, _, rfl, F7, N7, hne2 hne', _, ?_, ⟨rfl, trivial⟩, rfl⟩
      rw [List.map_append, hus, take_succ_at hr, List.map_append]; rfl
  case done =>
    rintro m₁ nw tk₁ h₁ ⟨us, hus, hb, rfl⟩ F5 N5
    have e1 : (strValues ps).length = rs.length := by
      have := congrArg List.length eps
      simpa [strValues] using this
    rw [e1, List.take_length] at hus
    have F6 := Fr.nf F5 hb
    clear F5
    have hjz : (rs.map List.length).sum + rs.length * CRLF.length ≤ 16000000 := by rw [show CRLF.length = 2 from rfl]; omega
    dsimp only
    walk_at "my steps"
    exact hret _ _ _ (by assumption) (News.sub (by assumption) fun p hp => .tail _ (.tail _ hp))
end

/-! part Varint -/
theorem flush_Varint {M : Model} {A : Around} {env : Env} {Q : Flow → Shared → Prop} {E : Value → Shared → Prop} {s : Shared} (h : wpAny M A (execs [] env) Q E s) : wpAny M A (execs [] env) Q E s := by w_top off; k_with_none; first | (walk1; done) | exact h
section
theorem lines_Varint_1 : True := by
  k_with "my steps" => repeat' (first | (k_unfold; (try dsimp only)) | ((fail_if_success (with_reducible show wpAny _ _ (exec (Stmt.While _ _ _ _) _) _ _ _)); (fail_if_success (with_reducible show wpAny _ _ (exec (Stmt.For _ _ _ _ _) _) _ _ _)); (fail_if_success (with_reducible show wpAny _ _ (pyIter _) _ _ _)); first | walk1 | (dsimp only; walk1) | (leave1; try dsimp only)))
  k_with "my enter" => k_dflt (refine' code_def (by k_asm) (by k_asm) (by k_asm) (by k_asm) (by k_asm) (by exact rfl) (by exact rfl) (by assumption) (by k_is) (by k_is) (by ktr_room) (by first | exact BindsTo.of_eq rfl | exact binds_K (by k_in) rfl (by k_is) rfl rfl rfl) (by exact locs rfl) ?_ (by exact rfl) (by exact rfl) (by exact rfl) (by decide); k_whole; intro _ _ _ _ _ _; walk_at "in enter")
  k_with "execs cons" => (k_here; (fail_if_success (fail_if_success k_gentoks)); refine gen_toks ?_; intro _; walk_at "in d")
  k_with "execs nil" => (k_here; (fail_if_success (fail_if_success k_gentoks)); refine gen_toks ?_; intro _; walk_at "in d")
  k_with "my tok" => ((try dsimp only); first | assumption | omega | (simp only [List.length_cons, List.length_nil]; omega))
  k_with "call builtin:str.replace" => (k_here; (with_reducible show wpAny _ _ (call _ [Value.str (S _) _, Value.str _ _, Value.str _ _]) _ _ _); refine' replS (by walk_at "my tok") (by walk_at "my tok") (by walk_at "my tok") (by assumption) (by assumption) (by first | decide | assumption) (by first | decide | assumption) (by walk_at "my tok") (by (simp only [List.length_cons, List.length_nil]; omega)) ?_; k_whole; intro _ _; walk_at "in d")
  trivial
theorem lines_Varint_2 : True := by
  k_with "my S" => first | with_reducible assumption | with_reducible rfl | assumption
  k_with "binaryOp Add str str" => (k_here; (with_reducible show wpAny _ _ (binaryOp Operator.Add (Value.str _ _) (Value.str _ _)) _ _ _); refine' addS (by walk_at "my S") (by walk_at "my S") (by walk_at "my tok") (by ((simp only [List.length_cons, List.length_nil, List.length_append]); omega)) ?_; k_whole; intro _ _; walk_at "in d")
  k_with "call builtin:len" => (k_here; (with_reducible show wpAny _ _ (call (Value.builtin "len") [Value.str (S _) _]) _ _ _); refine lenS (by first | omega | (simp only [List.length_cons, List.length_nil, List.length_append]; omega)) ?_; (try dsimp only))
  trivial
theorem lines_Varint_3 : True := by
  k_with "call builtin:str.split" => (k_here; (with_reducible show wpAny _ _ (call _ [Value.str (S _) _, Value.str _ _]) _ _ _); refine' splitS (by k_asm) (by k_asm) (by walk_at "my S") (by decide) (by decide) (by omega) ?_; k_whole; intro _ _ _ _ _ _ _; walk_at "in l")
  k_with "my lst" => first | exact News.isList (by k_asm) (by k_mem) | exact Fr.lst (by k_asm) (by k_asm) | k_asm
  k_with "my pure" => first | (intro _; with_unfolding_all rfl) | (intro _; rfl)
  k_with "subscriptTail Name Slice str ref" => (k_here; k_dflt (first
    | (refine' tsl_ns (by k_asm) (by k_asm) (by omega) (by omega) ?_ (by with_unfolding_all rfl) (by walk_at "my pure"); intro _ _ _ _ _)
    | (refine' tsl_sn (by k_asm) (by k_asm) (by omega) (by omega) ?_ (by with_unfolding_all rfl) (by walk_at "my pure"); intro _ _ _ _ _)
    | (refine' tsl_ss (by k_asm) (by k_asm) (by omega) (by omega) (by omega) ?_ (by with_unfolding_all rfl) (by walk_at "my pure"); intro _ _ _ _ _)))
  k_with "subscriptTail Name Slice ref ref" => (k_here; (with_reducible show wpAny _ _ (subscriptTail _ (PySem.Expr.Slice _ _ none _) (Value.ref _) (Value.ref _)) _ _ _); k_dflt (refine' lsl (by k_asm) (by k_asm) (by walk_at "my lst") (by kmk_part) (by kmk_part) (by first | assumption | (simp only [List.length_append, List.length_cons, List.length_nil]; omega)) ?_ (by with_unfolding_all rfl) (by walk_at "my pure")); intro _ _ _ _; walk_at "in l")
  k_with "my item0" => (k_here; k_dflt (refine' item0 (by walk_at "my lst") (by assumption) (by first | assumption | exact spl59 _ _ (by assumption)) ?_ (by with_unfolding_all rfl)); k_whole; intro _)
  k_with "subscriptTail Name Constant ref int" => walk_at "my item0"
  k_with "subscriptTail Call Attribute cons nil Constant ref int" => walk_at "my item0"
  k_with "compareOp NotIn str str" => (k_here; refine' notin_mem (by walk_at "my S") (by first | assumption | (simp only [List.mem_append, List.mem_cons, true_or, or_true]; done) | (simp; done)) ?_; k_whole)
  k_with "my add len" => first | omega | ((simp only [List.length_cons, List.length_nil, List.length_append, List.length_drop, List.length_take]); omega)
  k_with "binaryOp Add str str" => (k_here; (with_reducible show wpAny _ _ (binaryOp Operator.Add (Value.str _ _) (Value.str _ _)) _ _ _); first
    | (refine' addS (by walk_at "my S") (by walk_at "my S") (by walk_at "my tok") (by walk_at "my add len") ?_; k_whole; intro _ _; walk_at "in d")
    | (refine' addN (by walk_at "my S") (by walk_at "my S") (by walk_at "my add len") ?_; k_whole; intro _ _))
  k_with "compareOp Eq str str" => (k_here; first
    | (refine' eqS_t (by walk_at "my S") (by walk_at "my S") (by first | assumption | decide) ?_; k_whole)
    | (refine' eqS_f (by walk_at "my S") (by walk_at "my S") (by first | assumption | decide) ?_; k_whole))
  k_with "compareOp NotEq str str" => (k_here; first
    | (refine' neS_f (by walk_at "my S") (by walk_at "my S") (by first | assumption | decide) ?_; k_whole)
    | (refine' neS_t (by walk_at "my S") (by walk_at "my S") (by first | assumption | decide) ?_; k_whole))
  k_with "compareOp In str str" => (k_here; refine' in_not (by walk_at "my S") (by assumption) ?_; k_whole)
  k_with "call builtin:list.append" => (k_here; (with_reducible show wpAny _ _ (call (Value.builtin _) [Value.ref _, _]) _ _ _); refine' lappend (by k_asm) (by k_asm) (by k_upd) (by first | omega | (simp only [strValues, List.length_map]; omega) | (simp only [List.length_append, List.length_cons, List.length_nil]; omega)) ?_; k_whole; intro _ _ _)
  trivial
def iv (xs : List (Nat × Nat)) : List Value := xs.map fun p => .int (p.1 : Int) p.2
theorem UpdF.again {d : Addr} {o : Obj} {l : List (Addr × Obj)} {g : Obj → List (Addr × Obj)} (U : UpdF d o l g) (o' : Obj) : UpdF d o' (g o') g := by
  induction U with
  | head h => exact .head h
  | tail h _ ih => exact .tail h ih
theorem UpdF.mem {d : Addr} {o : Obj} {l : List (Addr × Obj)} {g : Obj → List (Addr × Obj)} (U : UpdF d o l g) (o' : Obj) {p : Addr × Obj} (hp : p ∈ l) (hne : p.1 ≠ d) : p ∈ g o' := by
  induction U with
  | head h =>
    rcases List.mem_cons.mp hp with rfl | hp
    · exact absurd rfl hne
    · exact .tail _ hp
  | tail h _ ih =>
    rcases List.mem_cons.mp hp with rfl | hp
    · exact .head _
    · exact .tail _ (ih hp)
def octH (f n : Nat) : Nat := if f = 0 then n % 64 else 64 + n / 64 ^ f % 64
theorem octT_head (f n : Nat) : (octT f n)[0]? = some (octH f n) := by cases f <;> simp [octT, octH]
theorem octT_len (f n : Nat) : (octT f n).length = f + 1 := by induction f with
  | zero => rfl
  | succ f ih => simp [octT, ih]
theorem octT_at (n : Nat) : ∀ f j, j ≤ f → (octT f n)[f - j]? = some (octH j n)
  | 0, j, h => by
    have : j = 0 := by omega
    subst this; rfl
  | f + 1, j, h => by
    by_cases q : j = f + 1
    · subst q; rw [Nat.sub_self]; exact octT_head _ _
    · rw [show f + 1 - j = (f - j) + 1 by omega]
      simp only [octT, List.getElem?_cons_succ]
      exact octT_at n f j (by omega)
theorem bAnd (a b : Nat) : Builtin.bitAnd (a : Int) (b : Int) = ((a &&& b : Nat) : Int) := by
  unfold Builtin.bitAnd
  have h1 : decide ((0 : Int) ≤ (a : Int)) = true := decide_eq_true (Int.natCast_nonneg _)
  have h2 : decide ((0 : Int) ≤ (b : Int)) = true := decide_eq_true (Int.natCast_nonneg _)
  rw [h1, h2]; simp
theorem bOr (a b : Nat) : Builtin.bitOr (a : Int) (b : Int) = ((a ||| b : Nat) : Int) := by
  unfold Builtin.bitOr Builtin.bitAnd
  have h : ∀ x : Nat, Builtin.bitNot (x : Int) = -(x : Int) - 1 := fun x => by unfold Builtin.bitNot; omega
  have h3 : ∀ x : Nat, Builtin.bitNot (-(x : Int) - 1) = x := fun x => by unfold Builtin.bitNot; omega
  have h1 : decide ((0 : Int) ≤ Builtin.bitNot (a : Int)) = false := decide_eq_false (by rw [h]; omega)
  have h2 : decide ((0 : Int) ≤ Builtin.bitNot (b : Int)) = false := decide_eq_false (by rw [h]; omega)
  rw [h1, h2]
  simp only [h, h3, Int.toNat_natCast]
theorem b63 (a : Nat) : Builtin.bitAnd (a : Int) 63 = ((a % 64 : Nat) : Int) := by
  have := bAnd a 63
  rw [show ((63 : Nat) : Int) = 63 from rfl] at this
  rw [this, show (63 : Nat) = 2 ^ 6 - 1 from rfl, Nat.and_two_pow_sub_one_eq_mod]
theorem b64_lo (a : Nat) (h : a < 64) : Builtin.bitAnd (a : Int) 64 = 0 := by
  have := bAnd a 64
  rw [show ((64 : Nat) : Int) = 64 from rfl] at this
  rw [this]
  have : ∀ c : Fin 64, c.val &&& 64 = 0 := by decide
  rw [this ⟨a, h⟩]; rfl
theorem b64_hi (a : Nat) (h : a < 64) : Builtin.bitAnd ((64 + a : Nat) : Int) 64 = 64 := by
  have := bAnd (64 + a) 64
  rw [show ((64 : Nat) : Int) = 64 from rfl] at this
  rw [this]
  have : ∀ c : Fin 64, (64 + c.val) &&& 64 = 64 := by decide
  rw [this ⟨a, h⟩]; rfl
theorem or_low (a b : Nat) (h : b < 64) : Builtin.bitOr ((a * 64 : Nat) : Int) (b : Int) = ((a * 64 + b : Nat) : Int) := by
  rw [bOr]
  have := Nat.shiftLeft_add_eq_or_of_lt (show b < 2 ^ 6 from h) a
  rw [Nat.shiftLeft_eq] at this
  rw [← this]
theorem octH_mod (f n : Nat) : octH f n % 64 = n / 64 ^ f % 64 := by
  unfold octH; split
  · rename_i q; subst q; simp
  · omega
theorem c_varint (w : World) (n f : Nat) (hf : f ≤ 2) (hn : n < 64 ^ (f + 1))
    {p : Program} {loose : List PySem.Str} {mean : ExcName → Option Value} {mg mb : PySem.Str → Option Value}
    {dp un : Nat} {gd : Option (List Code)} {cn : PySem.Str} {cs : Scope} {a : Addr} {ccd : Value} {cl : List (PySem.Str × Addr)} {outer : List Env} {A₀ : Around} {base h₀ : Heap} {L : Addr} {m : PySem.Str → Option Value}
    {news : List (Addr × Obj)} {s : Shared} {Q E : Value → Shared → Prop}
    (B : Below A₀ base outer h₀) (F : Fr h₀ L s.heap m) (X : (hd.heap_39 w.params).In h₀) (N : News h₀ L s.heap news) (T : Top p loose mean mg mb h₀) (hk : cs.kind = .function)
    (hd : dp + 1 < recursionLimit) (hu : un + 8 * 1 < cLine)
    {it lo : Addr} {io : Obj} {g : Obj → List (Addr × Obj)} {i k : Nat} {xs : List (Nat × Nat)} {rest : List Nat}
    (U : UpdF it io news g) (hi : IterO lo i io) (hl : (lo, W.listOf (iv xs).toArray k) ∈ news) (hne : lo ≠ it) (hx : (xs.map (·.1)).drop i = octT f n ++ rest)
    (hret : ∀ (t : Nat) (h' : Heap) (o' : Obj) (tk' : Nat), Fr h₀ L h' m → News h₀ L h' (g o') → IterO lo (i + (f + 1)) o' → Q (.int (n : Int) t) { s with heap := h', toks := tk' }) :
    wpAny (model PySem.Challenge.rw_ta0008_01.row.prog w) (ktrTop dp un gd cn cs L a ccd cl outer) (call (.ref 51) [.ref it]) Q E s := by
  have hat : ∀ j, j ≤ f → ∃ t, (iv xs)[i + (f - j)]? = some (.int (octH j n : Int) t) := by
    intro j hj
    have h1 := octT_at n f j hj
    have h2 := congrArg (fun z : List Nat => z[f - j]?) hx
    simp only [List.getElem?_drop, List.getElem?_map] at h2
    rw [List.getElem?_append_left (by rw [octT_len]; omega), h1] at h2
    obtain ⟨q, hq, e⟩ := Option.map_eq_some_iff.mp h2
    exact ⟨q.2, by unfold iv; rw [List.getElem?_map, hq, Option.map_some, e]⟩
  refine wpAny_call ?_
  walk_at "my enter"
  rename_i g1 L1 h1 FG F1 N1 B1 X1 T1
  refine wpAny_noRaise ?_
  have F2 := Fr.bind1 F1 rfl
  clear F1
  walk_at "my begin"
  rename_i tk0 htk0
  obtain ⟨t0, ht0⟩ := hat f (Nat.le_refl _)
  rw [Nat.sub_self, Nat.add_zero] at ht0
  walk_at "my steps"
  refine lnext_item F2 N1 U hi (News.isList N1 hl) ht0 fun h2 o2 F3 N3 hi2 => ?_
  walk_at "my steps"
  rename_i h3 tk3 htk3 h4 F4 N4
  dsimp only at F4
  rw [b63, octH_mod, Nat.mod_eq_of_lt (show n / 64 ^ f < 64 by rw [Nat.div_lt_iff_lt_mul (Nat.pos_of_ne_zero (by simp))]; rw [Nat.pow_succ, Nat.mul_comm] at hn; exact hn)] at F4
  refine while_ind (fun j s' => j ≤ f ∧ ∃ (h' : Heap) (tk' : Nat) (o' : Obj) (t1 t2 : Nat) (m₁ : PySem.Str → Option Value), s' = ⟨h', s.gens, s.drawn, tk', s.os⟩ ∧ Fr g1 L1 h' m₁ ∧ Bnd m₁ [(PySem.Str.ofString "iterator", .ref it), (PySem.Str.ofString "b", .int (octH j n : Int) t1), (PySem.Str.ofString "val", .int ((n / 64 ^ j : Nat) : Int) t2)] ∧ News g1 L1 h' (g o') ∧ IterO lo (i + (f - j) + 1) o' ∧ UpdF it o' (g o') g ∧ (lo, W.listOf (iv xs).toArray k) ∈ g o') ?_ f ?_
  · rintro j s' ⟨hj, h', tk', o', t1, t2, m₁, rfl, F5, hb, N5, hi5, U5, hl5⟩
    have F6 := Fr.nf F5 hb
    clear F5
    walk_at "my steps"
    · rename_i hz tk5 htk5
      cases j with
      | zero =>
        exfalso
        refine hz (b64_lo _ ?_)
        unfold octH; rw [if_pos rfl]; exact Nat.mod_lt _ (by decide)
      | succ j =>
        have hb64 : n / 64 ^ (j + 1) < 262144 := by
          refine Nat.lt_of_le_of_lt (Nat.div_le_self _ _) (Nat.lt_of_lt_of_le hn (Nat.pow_le_pow_right (by decide) (by omega : f + 1 ≤ 3)))
        have hdiv : n / 64 ^ (j + 1) * 64 + n / 64 ^ j % 64 = n / 64 ^ j := by
          rw [Nat.pow_succ, ← Nat.div_div_eq_div_mul]; omega
        obtain ⟨tj, htj⟩ := hat j (by omega)
        rw [show i + (f - j) = i + (f - (j + 1)) + 1 by omega] at htj
        refine ilshift_int_small (by decide) (by decide) (by rw [Int.natAbs_natCast]; omega) ?_
        walk_at "my steps"
        rename_i h6 F7 N7
        refine lnext_item F7 N7 U5 hi5 (News.isList N7 hl5) htj fun h7 o7 F8 N8 hi8 => ?_
        walk_at "my steps"
        rename_i h9 F9 N9
        dsimp only at F9
        rw [b63, octH_mod, show ((n / 64 ^ (j + 1) : Nat) : Int) * 2 ^ Int.toNat 6 = ((n / 64 ^ (j + 1) * 64 : Nat) : Int) by rw [Int.natCast_mul]; rfl, or_low _ _ (Nat.mod_lt _ (by decide)), hdiv] at F9
        refine ⟨j, Nat.lt_succ_self _, by omega, _, _, o7, _, _, _, rfl, F9, ⟨rfl, rfl, rfl, trivial⟩, N9, ?_, UpdF.again U5 o7, UpdF.mem U5 o7 hl5 (fun q => hne q)⟩
        rw [show i + (f - j) + 1 = i + (f - (j + 1)) + 1 + 1 by omega]
        exact hi8
    · rename_i hz tk5 htk5 kF kN kT kX
      have hj0 : j = 0 := by
        cases j with
        | zero => rfl
        | succ j =>
          exfalso
          have : octH (j + 1) n = 64 + n / 64 ^ (j + 1) % 64 := by unfold octH; rw [if_neg (by omega)]
          rw [this, b64_hi _ (Nat.mod_lt _ (by decide))] at hz
          exact absurd hz (by decide)
      subst hj0
      rw [Nat.pow_zero, Nat.div_one, Nat.sub_zero] at *
      exact hret _ _ _ _ kF kN hi5
  · refine ⟨Nat.le_refl _, _, _, o2, _, _, _, rfl, F4, ⟨rfl, rfl, rfl, trivial⟩, N4, by rw [Nat.sub_self, Nat.add_zero]; exact hi2, UpdF.again U o2, UpdF.mem U o2 hl (fun q => hne q)⟩
end

/-! part ORules -/
section
section
variable {prog : Program} {w : World} {A : Around} {E : Value → Shared → Prop} {s : Shared} {h₀ : Heap} {L : Addr} {m : PySem.Str → Option Value} {news : List (Addr × Obj)} {Q : Value → Shared → Prop}
theorem ltI_t {a b : Int} {t u : Nat} (h : a < b) (hq : Q (.bool true) s) : wpAny (model prog w) A (compareOp .Lt (.int a t) (.int b u)) Q E s := P.lt_int (by rw [decide_eq_true h]; exact hq)
theorem ltI_f {a b : Int} {t u : Nat} (h : ¬ a < b) (hq : Q (.bool false) s) : wpAny (model prog w) A (compareOp .Lt (.int a t) (.int b u)) Q E s := P.lt_int (by rw [decide_eq_false h]; exact hq)
theorem itemS {value slice : PySem.Expr} {T : List Nat} {i : Int} {c : Nat} {t u : Nat} (hi : 0 ≤ i) (hc : T[i.toNat]? = some c) (hT : T.length ≤ 16777216) (hq : ∀ t' : Nat, Q (.str (S [c]) t') { s with toks := s.toks + 1 })
    (hs : subscripted slice false (.str (S T) t) (.int i u) = operate [.str (S T) t, .int i u] (getItem (.str (S T) t) (.int i u)))
    (ht : ∀ r, letTemporaryGo value (.str (S T) t) r = pure ()) : wpAny (model prog w) A (subscriptTail value slice (.str (S T) t) (.int i u)) Q E s := by
  obtain ⟨n, rfl⟩ : ∃ n : Nat, i = (n : Int) := ⟨i.toNat, by omega⟩
  rw [Int.toNat_natCast] at hc
  have hn : n < T.length := (List.getElem?_eq_some_iff.mp hc).1
  have e : Txt.item (S T) (n : Int) = S [c] := by
    have hx : Txt.charAt (S T) (n : Int) = some c := by
      unfold Txt.charAt seqIndex?
      rw [S_len]
      simp only [show ¬ ((n : Int) < 0) by omega, if_false]
      rw [if_pos (by simp; omega)]
      simp [hc]
    unfold Txt.item
    rw [hx]; rfl
  refine PyProof.Rows.item_str (x := S T) ?_ (by omega) (by rw [S_len]; omega) (fun _ => ?_) hs ht
  · exact fitsSsize_of (N := 9223372036854775808) (by omega) (by omega) (Int.le_refl _)
  · rw [e]; exact hq _
theorem notin_C {l : List Nat} {c : Nat} {x y : PySem.Str} {t u : Nat} (hy : y = S [c]) (hx : x = S l) (hm : c ∈ l) (h : Q (.bool false) s) : wpAny (model prog w) A (compareOp .NotIn (.str y u) (.str x t)) Q E s := by
  subst hx
  exact notin_mem hy hm h
theorem UpdF.self {d : Addr} {o : Obj} {l : List (Addr × Obj)} {g : Obj → List (Addr × Obj)} (U : UpdF d o l g) : g o = l := by
  induction U with
  | head h => rfl
  | tail h _ ih => exact congrArg (List.cons _) ih
theorem UpdF.one {d : Addr} {o : Obj} {l : List (Addr × Obj)} {g : Obj → List (Addr × Obj)} (U : UpdF d o l g) (o' : Obj) : Upd d o o' l (g o') := by
  induction U with
  | head h => exact .head h
  | tail h _ ih => exact .tail h ih
theorem UpdF.app {d : Addr} {o : Obj} {l : List (Addr × Obj)} {g : Obj → List (Addr × Obj)} (U : UpdF d o l g) (nw : List (Addr × Obj)) : (∀ p ∈ nw, p.1 ≠ d) → UpdF d o (nw ++ l) (fun o' => nw ++ g o') := by
  induction nw with
  | nil => intro _; exact U
  | cons p r ih => intro h; exact .tail (h p (.head _)) (ih fun q hq => h q (.tail _ hq))
theorem UpdF.isIn {d : Addr} {o : Obj} {l : List (Addr × Obj)} {g : Obj → List (Addr × Obj)} (U : UpdF d o l g) (o' : Obj) : (d, o') ∈ g o' := by
  induction U with
  | head h => exact .head _
  | tail h _ ih => exact .tail _ ih
theorem UpdF.at {d : Addr} {o : Obj} {l : List (Addr × Obj)} {g : Obj → List (Addr × Obj)} (U : UpdF d o l g) (o' : Obj) {p : Addr × Obj} (hp : p ∈ g o') : p.1 = d ∨ p ∈ l := by
  induction U with
  | head h =>
    rcases List.mem_cons.mp hp with rfl | hp
    · exact .inl rfl
    · exact .inr (.tail _ hp)
  | tail h _ ih =>
    rcases List.mem_cons.mp hp with rfl | hp
    · exact .inr (.head _)
    · rcases ih hp with q | q
      · exact .inl q
      · exact .inr (.tail _ q)
theorem lextend {D b : Addr} {vs ws : List Value} {n n2 : Nat} {g : Obj → List (Addr × Obj)} (F : Fr h₀ L s.heap m) (N : News h₀ L s.heap news) (hb : (b, W.listOf ws.toArray n2) ∈ news) (hne : ws ≠ [])
    (U : UpdF D (W.listOf vs.toArray n) news g) (hz : vs.length + ws.length ≤ 16777216)
    (h : ∀ h', Fr h₀ L h' m → News h₀ L h' (g (W.listOf (vs ++ ws).toArray (n + 1))) → Q .none { s with heap := h' }) : wpAny (model prog w) A (call (.builtin "list.extend") [.ref D, .ref b]) Q E s := by
  have e2 : sizeLine = 16777216 := by decide
  refine kl_extend (its := vs.toArray) (its2 := ws.toArray) (l := vs ++ ws) (news' := g (W.listOf (vs ++ ws).toArray (n + 1))) F N hb (by simp) ?_ (UpdF.one U _) ?_ (by rw [e2]; simp; omega) (by rw [e2]; simp; omega) h
  · cases ws with
    | nil => exact absurd rfl hne
    | cons a r => simp
  · simp only [Bool.and_eq_true, not_and, Bool.not_eq_true]
    intro _
    unfold Builtin.List.listTooLong
    simp; omega
end
section
open LCg
variable {prog : Program} {w : World} {A : Around} {h₀ : Heap} {L : Addr} {m : PySem.Str → Option Value} {env : Env} {elt : PySem.Expr} {x : PySem.Str} {scope : Scope} {cl : List (PySem.Str × Addr)} {s : Shared}
  {R : List (Addr × Obj) → Prop} {P : Nat → Value → Prop} {Fin : List Value → List (Addr × Obj) → Prop}
theorem comp_ind (I : Nat → List Value → List (Addr × Obj) → Prop) (N : Nat)
    (turn : ∀ i ys news v I' oI C oC D m₂ h tk (E' : Value → Shared → Prop), i < N → I i ys news → P i v → NsObj oC m₂ → m₂ x = some v → Fr h₀ L h m → News h₀ L h ((I', oI) :: (C, oC) :: (D, lst ys) :: news) → Off3 I' C D news → ((@Ne Nat I' C) ∧ (@Ne Nat I' D) ∧ (@Ne Nat C D)) →
      wpAny (model prog w) A (eval elt (compEnvC scope cl C env)) (CompEnd h₀ L m { s with heap := h, toks := tk } I' oI C oC D (lst ys) R (fun y news' => I (i + 1) (ys ++ [y]) news')) E' { s with heap := h, toks := tk })
    (fin : ∀ ys news, I N ys news → Fin ys news) : ∀ n i ys news, i + n = N → I i ys news → CompRest prog w A h₀ L m env elt x scope cl s R P Fin n i ys news
  | 0, i, ys, news, h, hI => fin ys news (by rw [← h]; exact hI)
  | n + 1, i, ys, news, h, hI => by
    refine CompRest.succ ?_
    intro v I' oI C oC D m₂ hp tk E' hP hC hx F N' off ne
    refine wpAny_mono (turn i ys news v I' oI C oC D m₂ hp tk E' (by omega) hI hP hC hx F N' off ne) (fun y s₂ q => ?_) (fun _ _ q => q)
    obtain ⟨h', tk', news', rfl, F2, N2, o2, S2, r2⟩ := q
    exact ⟨h', tk', news', rfl, F2, N2, o2, S2, comp_ind I N turn fin n (i + 1) (ys ++ [y]) news' (by omega) r2⟩
end
theorem iv_snoc (qs : List (Nat × Nat)) (a t : Nat) : iv qs ++ [.int (a : Int) t] = iv (qs ++ [(a, t)]) := by simp [iv]
theorem iv_len (qs : List (Nat × Nat)) : (iv qs).length = qs.length := by simp [iv]
theorem iv_app (a b : List (Nat × Nat)) : iv a ++ iv b = iv (a ++ b) := by simp [iv]
end

/-! part Opened -/
theorem flush_Opened {M : Model} {A : Around} {env : Env} {Q : Flow → Shared → Prop} {E : Value → Shared → Prop} {s : Shared} (h : wpAny M A (execs [] env) Q E s) : wpAny M A (execs [] env) Q E s := by w_top off; k_with_none; first | (walk1; done) | exact h
section
theorem lines_Opened_1 : True := by
  k_with "my steps" => repeat' (first | (k_unfold; (try dsimp only)) | ((fail_if_success (with_reducible show wpAny _ _ (exec (Stmt.While _ _ _ _) _) _ _ _)); (fail_if_success (with_reducible show wpAny _ _ (exec (Stmt.For _ _ _ _ _) _) _ _ _)); (fail_if_success (with_reducible show wpAny _ _ (pyIter _) _ _ _)); first | walk1 | (dsimp only; walk1) | (leave1; try dsimp only)))
  k_with "my enter" => k_dflt (refine' code_def (by k_asm) (by k_asm) (by k_asm) (by k_asm) (by k_asm) (by exact rfl) (by exact rfl) (by assumption) (by k_is) (by k_is) (by ktr_room) (by first | exact BindsTo.of_eq rfl | exact binds_K (by k_in) rfl (by k_is) rfl rfl rfl) (by exact locs rfl) ?_ (by exact rfl) (by exact rfl) (by exact rfl) (by decide); k_whole; intro _ _ _ _ _ _; walk_at "in enter")
  k_with "execs cons" => (k_here; (fail_if_success (fail_if_success k_gentoks)); refine gen_toks ?_; intro _; walk_at "in d")
  k_with "execs nil" => (k_here; (fail_if_success (fail_if_success k_gentoks)); refine gen_toks ?_; intro _; walk_at "in d")
  k_with "my tok" => ((try dsimp only); first | assumption | omega | (simp only [List.length_cons, List.length_nil]; omega))
  k_with "call builtin:str.replace" => (k_here; (with_reducible show wpAny _ _ (call _ [Value.str (S _) _, Value.str _ _, Value.str _ _]) _ _ _); refine' replS (by walk_at "my tok") (by walk_at "my tok") (by walk_at "my tok") (by assumption) (by assumption) (by first | decide | assumption) (by first | decide | assumption) (by walk_at "my tok") (by (simp only [List.length_cons, List.length_nil]; omega)) ?_; k_whole; intro _ _; walk_at "in d")
  trivial
theorem lines_Opened_2 : True := by
  k_with "my S" => first | with_reducible assumption | with_reducible rfl | assumption
  k_with "binaryOp Add str str" => (k_here; (with_reducible show wpAny _ _ (binaryOp Operator.Add (Value.str _ _) (Value.str _ _)) _ _ _); refine' addS (by walk_at "my S") (by walk_at "my S") (by walk_at "my tok") (by ((simp only [List.length_cons, List.length_nil, List.length_append]); omega)) ?_; k_whole; intro _ _; walk_at "in d")
  k_with "call builtin:len" => (k_here; (with_reducible show wpAny _ _ (call (Value.builtin "len") [Value.str (S _) _]) _ _ _); refine lenS (by first | omega | (simp only [List.length_cons, List.length_nil, List.length_append]; omega)) ?_; (try dsimp only))
  trivial
theorem lines_Opened_3 : True := by
  k_with "call builtin:str.split" => (k_here; (with_reducible show wpAny _ _ (call _ [Value.str (S _) _, Value.str _ _]) _ _ _); refine' splitS (by k_asm) (by k_asm) (by walk_at "my S") (by decide) (by decide) (by omega) ?_; k_whole; intro _ _ _ _ _ _ _; walk_at "in l")
  k_with "my lst" => first | exact News.isList (by k_asm) (by k_mem) | exact Fr.lst (by k_asm) (by k_asm) | k_asm
  k_with "my pure" => first | (intro _; with_unfolding_all rfl) | (intro _; rfl)
  k_with "subscriptTail Name Slice str ref" => (k_here; k_dflt (first
    | (refine' tsl_ns (by k_asm) (by k_asm) (by omega) (by omega) ?_ (by with_unfolding_all rfl) (by walk_at "my pure"); intro _ _ _ _ _)
    | (refine' tsl_sn (by k_asm) (by k_asm) (by omega) (by omega) ?_ (by with_unfolding_all rfl) (by walk_at "my pure"); intro _ _ _ _ _)
    | (refine' tsl_ss (by k_asm) (by k_asm) (by omega) (by omega) (by omega) ?_ (by with_unfolding_all rfl) (by walk_at "my pure"); intro _ _ _ _ _)))
  k_with "subscriptTail Name Slice ref ref" => (k_here; (with_reducible show wpAny _ _ (subscriptTail _ (PySem.Expr.Slice _ _ none _) (Value.ref _) (Value.ref _)) _ _ _); k_dflt (refine' lsl (by k_asm) (by k_asm) (by walk_at "my lst") (by kmk_part) (by kmk_part) (by first | assumption | (simp only [List.length_append, List.length_cons, List.length_nil]; omega)) ?_ (by with_unfolding_all rfl) (by walk_at "my pure")); intro _ _ _ _; walk_at "in l")
  k_with "my item0" => (k_here; k_dflt (refine' item0 (by walk_at "my lst") (by assumption) (by first | assumption | exact spl59 _ _ (by assumption)) ?_ (by with_unfolding_all rfl)); k_whole; intro _)
  k_with "subscriptTail Name Constant ref int" => walk_at "my item0"
  k_with "subscriptTail Call Attribute cons nil Constant ref int" => walk_at "my item0"
  k_with "compareOp NotIn str str" => (k_here; refine' notin_mem (by walk_at "my S") (by first | assumption | (simp only [List.mem_append, List.mem_cons, true_or, or_true]; done) | (simp; done)) ?_; k_whole)
  k_with "my add len" => first | omega | ((simp only [List.length_cons, List.length_nil, List.length_append, List.length_drop, List.length_take]); omega)
  k_with "binaryOp Add str str" => (k_here; (with_reducible show wpAny _ _ (binaryOp Operator.Add (Value.str _ _) (Value.str _ _)) _ _ _); first
    | (refine' addS (by walk_at "my S") (by walk_at "my S") (by walk_at "my tok") (by walk_at "my add len") ?_; k_whole; intro _ _; walk_at "in d")
    | (refine' addN (by walk_at "my S") (by walk_at "my S") (by walk_at "my add len") ?_; k_whole; intro _ _))
  k_with "compareOp Eq str str" => (k_here; first
    | (refine' eqS_t (by walk_at "my S") (by walk_at "my S") (by first | assumption | decide) ?_; k_whole)
    | (refine' eqS_f (by walk_at "my S") (by walk_at "my S") (by first | assumption | decide) ?_; k_whole))
  k_with "compareOp NotEq str str" => (k_here; first
    | (refine' neS_f (by walk_at "my S") (by walk_at "my S") (by first | assumption | decide) ?_; k_whole)
    | (refine' neS_t (by walk_at "my S") (by walk_at "my S") (by first | assumption | decide) ?_; k_whole))
  k_with "compareOp In str str" => (k_here; refine' in_not (by walk_at "my S") (by assumption) ?_; k_whole)
  k_with "call builtin:list.append" => (k_here; (with_reducible show wpAny _ _ (call (Value.builtin _) [Value.ref _, _]) _ _ _); refine' lappend (by k_asm) (by k_asm) (by k_upd) (by first | omega | (simp only [strValues, List.length_map]; omega) | (simp only [List.length_append, List.length_cons, List.length_nil]; omega)) ?_; k_whole; intro _ _ _)
  trivial
namespace Fo
def size : Fo → Nat
  | nil => 0
  | leaf _ r => r.size + 1
  | box _ i r => i.size + r.size + 1
end Fo
/-- the contract of _law_opened upon a row of trees -/
def OpenCtr (w : World) (f : Fo) : Prop :=
  ∀ (p : Program) (loose : List PySem.Str) (mean : ExcName → Option Value) (mg mb : PySem.Str → Option Value)
    (dp un : Nat) (gd : Option (List Code)) (cn : PySem.Str) (cs : Scope) (a : Addr) (ccd : Value) (cl : List (PySem.Str × Addr)) (outer : List Env) (A₀ : Around) (base h₀ : Heap) (L : Addr) (m : PySem.Str → Option Value)
    (news : List (Addr × Obj)) (s : Shared) (Q E : Value → Shared → Prop) (tx : Nat) (oD : Addr) (g : Obj → List (Addr × Obj)) (xs : List (Nat × Nat)) (k : Nat),
    Below A₀ base outer h₀ → Fr h₀ L s.heap m → (hd.heap_39 w.params).In h₀ → News h₀ L s.heap news → Top p loose mean mg mb h₀ → cs.kind = .function →
    dp + (f.dep + 2) < recursionLimit → un + 8 * (f.dep + 2) < cLine →
    UpdF oD (W.listOf (iv xs).toArray k) news g → xs.length + f.octs.length ≤ 1000000 →
    (∀ (lT kT k' tk' : Nat) (h' : Heap) (vs : List Value) (ys : List (Nat × Nat)) (nw : List (Addr × Obj)), Fr h₀ L h' m → News h₀ L h' ((lT, W.listOf vs.toArray kT) :: (nw ++ g (W.listOf (iv ys).toArray k'))) →
      DatAll nw vs f.dat → ys.map (·.1) = xs.map (·.1) ++ f.octs → (∀ q ∈ news, q.1 < lT) → (∀ p ∈ nw, ∀ q ∈ news, q.1 < p.1) → Q (.ref lT) { s with heap := h', toks := tk' }) →
    wpAny (model PySem.Challenge.rw_ta0008_01.row.prog w) (ktrTop dp un gd cn cs L a ccd cl outer) (call (.ref 122) [.str (S f.enc) tx, .ref oD]) Q E s
theorem datApp {nw : List (Addr × Obj)} : ∀ {vs vs2 : List Value} {ds ds2 : List Dat}, DatAll nw vs ds → DatAll nw vs2 ds2 → DatAll nw (vs ++ vs2) (ds ++ ds2)
  | _, _, _, _, .nil, h => h
  | _, _, _, _, .cons a b, h => .cons a (datApp b h)
theorem c_plainX (w : World) {nm : Nat → Option (List Nat)} {bare x : List Nat} {y : PySem.Str} (ok : NmOk nm bare) {l : List Nat} {tx tb : Nat} (hx : x = l.flatMap (escN nm)) (hy : y = S bare) (hl : x.length ≤ 2000000) (hb : bare.length ≤ 10) : TCtr0 w 110 [.str (S x) tx, .str y tb] 1 l := by
  subst hx hy
  exact c_plain w ok l tx tb hl hb
theorem ordS {prog : Program} {w : World} {A : Around} {E : Value → Shared → Prop} {s : Shared} {Q : Value → Shared → Prop} {c u : Nat} (hq : Q (.int (c : Int) s.toks) { s with toks := s.toks + 1 }) : wpAny (model prog w) A (call (.builtin "ord") [.str ⟨#[c]⟩ u]) Q E s :=
  ord_of_one rfl hq
theorem lines_Opened_4 : True := by
  k_with "call builtin:ord" => (k_here; refine ordS ?_; (try dsimp only))
  k_with "compareOp Lt int int" => (k_here; first | (refine' ltI_t (by omega) ?_; k_whole) | (refine' ltI_f (by omega) ?_; k_whole))
  k_with "subscriptTail Name Name str int" => (k_here; k_dflt (refine' itemS (by omega) (by with_reducible assumption) (by assumption) ?_ (by with_unfolding_all rfl) (by walk_at "my pure")); k_whole; intro _)
  k_with "call builtin:str.index" => (k_here; refine' indexS (by walk_at "my S") (by assumption) (by omega) (by decide) ?_; k_whole; (try dsimp only))
  k_with "call ref" => (k_here; k_dflt (refine' TCtr0.use (c_plainX _ (by assumption) (by assumption) (by walk_at "my S") (by first | assumption | omega) (by decide)) (by k_asm) (by k_asm) (by k_asm) (by k_asm) (by k_asm) (by first | exact rfl | assumption) (by ktr_room) (by ktr_units) ?_; k_whole; intro _ _ _ _ _; (try dsimp only); (try k_fold)))
  k_with "eval ListComp" => (k_here; lcg_look; k_dflt (refine' ListComp_S (by k_asm) (by rfl) (by decide) (by rfl) (by decide) (by rfl) ?_ (by intro _; rfl)))
  trivial
theorem memOpen {p a b : Addr × Obj} {x y z : List (Addr × Obj)} (h : p ∈ a :: (b :: (x ++ y) ++ z)) : p ∈ b :: (x ++ (a :: (y ++ z))) := by
  simp only [List.mem_cons, List.mem_append, List.cons_append] at h ⊢
  rcases h with h | h | (h | h) | h <;> simp [h]
theorem memOpen2 {p a b c : Addr × Obj} {y z : List (Addr × Obj)} (h : p ∈ b :: (a :: c :: y ++ z)) : p ∈ a :: b :: (c :: y ++ z) := by
  simp only [List.mem_cons, List.mem_append, List.cons_append] at h ⊢
  rcases h with h | h | h <;> simp [h]
theorem c_rowsX (w : World) {h x : List Nat} (hc : Clean h) {tx : Nat} (hx : x = dots h) (hl : (dots h).length ≤ 1000000) : TCtr0 w 117 [.str (S x) tx] 1 h := by
  subst hx
  exact c_rows w hc tx hl
theorem lines_Opened_5 : True := by
  k_with "call ref" => (k_here; k_dflt (refine' TCtr0.use (c_rowsX _ (by assumption) (by assumption) (by assumption)) (by k_asm) (by k_asm) (by k_asm) (by k_asm) (by k_asm) (by first | exact rfl | assumption) (by ktr_room) (by ktr_units) ?_; k_whole; intro _ _ _ _ _; (try dsimp only); (try k_fold)))
  k_with "compareOp NotIn str str" => (k_here; refine' notin_C (by walk_at "my S") (by assumption) (by assumption) ?_; k_whole)
  trivial
theorem off1_mem {D : Addr} : ∀ {l : List (Addr × Obj)}, LCg.Off1 D l → ∀ p ∈ l, p.1 ≠ D
  | [], _, _, h => nomatch h
  | _ :: _, x, p, h => by
    rcases List.mem_cons.mp h with rfl | h
    · exact x.1
    · exact off1_mem x.2 p h
theorem memIn {p : Addr × Obj} {l : List (Addr × Obj)} (h : p ∈ l) : List.Mem p l := h
local macro_rules | `(tactic| k_mem) => `(tactic| (refine memIn ?_; with_reducible assumption))
theorem Fo.dat_len : ∀ f : Fo, f.dat.length = f.top
  | .nil => rfl
  | .leaf n r => by simp only [Fo.dat, Fo.top, List.length_cons, Fo.dat_len r]
  | .box k i r => by simp only [Fo.dat, Fo.top, List.length_cons, Fo.dat_len r]
theorem Fo.top_le : ∀ f : Fo, f.top ≤ f.enc.length
  | .nil => Nat.le_refl _
  | .leaf n r => by have := Fo.top_le r; simp only [Fo.enc, Fo.top, List.length_cons, List.length_append]; omega
  | .box k i r => by
    have := Fo.top_le r
    have h : 1 ≤ (boxT k i.enc).length := by unfold boxT; (repeat' split) <;> simp
    simp only [Fo.enc, Fo.top, List.length_append]; omega
theorem datLen {nw : List (Addr × Obj)} : ∀ {vs : List Value} {ds : List Dat}, DatAll nw vs ds → vs.length = ds.length
  | _, _, .nil => rfl
  | _, _, .cons a b => by rw [List.length_cons, List.length_cons, datLen b]
theorem OpenCtr.use {w : World} {f : Fo} (H : OpenCtr w f)
    {p : Program} {loose : List PySem.Str} {mean : ExcName → Option Value} {mg mb : PySem.Str → Option Value}
    {dp un : Nat} {gd : Option (List Code)} {cn : PySem.Str} {cs : Scope} {a : Addr} {ccd : Value} {cl : List (PySem.Str × Addr)} {outer : List Env} {A₀ : Around} {base h₀ : Heap} {L : Addr} {m : PySem.Str → Option Value}
    {news : List (Addr × Obj)} {s : Shared} {Q E : Value → Shared → Prop} {x : List Nat} {tx : Nat} {oD : Addr} {g : Obj → List (Addr × Obj)} {xs : List (Nat × Nat)} {k : Nat}
    (B : Below A₀ base outer h₀) (F : Fr h₀ L s.heap m) (X : (hd.heap_39 w.params).In h₀) (N : News h₀ L s.heap news) (T : Top p loose mean mg mb h₀) (hk : cs.kind = .function)
    (hd : dp + (f.dep + 2) < recursionLimit) (hu : un + 8 * (f.dep + 2) < cLine) (hx : x = f.enc)
    (U : UpdF oD (W.listOf (iv xs).toArray k) news g) (hxs : xs.length + f.octs.length ≤ 1000000)
    (hret : ∀ (lT kT k' tk' : Nat) (h' : Heap) (vs : List Value) (ys : List (Nat × Nat)) (nw : List (Addr × Obj)), Fr h₀ L h' m → News h₀ L h' ((lT, W.listOf vs.toArray kT) :: (nw ++ g (W.listOf (iv ys).toArray k'))) →
      DatAll nw vs f.dat → ys.map (·.1) = xs.map (·.1) ++ f.octs → (∀ q ∈ news, q.1 < lT) → (∀ p ∈ nw, ∀ q ∈ news, q.1 < p.1) → Q (.ref lT) { s with heap := h', toks := tk' }) :
    wpAny (model PySem.Challenge.rw_ta0008_01.row.prog w) (ktrTop dp un gd cn cs L a ccd cl outer) (call (.ref 122) [.str (S x) tx, .ref oD]) Q E s := by
  subst hx
  exact H p loose mean mg mb dp un gd cn cs a ccd cl outer A₀ base h₀ L m news s Q E tx oD g xs k B F X N T hk hd hu U hxs hret
theorem lines_Opened_6 : True := by
  k_with "my open" => (k_dflt (refine' OpenCtr.use (by assumption) (by k_asm) (by k_asm) (by k_asm) (by k_asm) (by k_asm) (by first | exact rfl | assumption) (by ktr_room) (by ktr_units) (by rfl) (by assumption) (by assumption) ?_); k_whole)
  trivial
theorem c_opened (w : World) : ∀ (N : Nat) (f : Fo), f.size < N → f.wf → f.enc.length ≤ 1000000 → OpenCtr w f := by
  intro N
  induction N with
  | zero => intro f h; exact absurd h (Nat.not_lt_zero _)
  | succ N IH =>
  intro f hsz hwf hlen
  unfold OpenCtr
  intro p loose mean mg mb dp un gd cn cs a ccd cl outer A₀ base h₀ L m news s Q E tx oD g xs k B F X N T hk hd hu U hxs hret
  generalize hT : f.enc = TT at hlen
  refine wpAny_call ?_
  walk_at "my enter"
  rename_i g1 L1 h1 FG F1 N1 B1 X1 T1
  refine wpAny_noRaise ?_
  have F2 := Fr.bind2 F1 rfl
  clear F1
  walk_at "my begin"
  rename_i tk0 htk0
  walk_at "my steps"
  rename_i lT h2 llT h3 tk3 htk3 h4 F4 N4
  dsimp only at F4
  refine while_indP (fun n s' => ∃ (r : Fo) (P tP tk' kT ky : Nat) (h' : Heap) (vs : List Value) (ys : List (Nat × Nat)) (nw : List (Addr × Obj)) (ds : List Dat) (m₁ : PySem.Str → Option Value),
    r.top = n ∧ r.wf ∧ r.size ≤ f.size ∧ r.dep ≤ f.dep ∧ TT.drop P = r.enc ∧ P ≤ TT.length ∧ s' = ⟨h', s.gens, s.drawn, tk', s.os⟩ ∧ Fr g1 L1 h' m₁ ∧
    Bnd m₁ [(PySem.Str.ofString "text", .str (S TT) tx), (PySem.Str.ofString "octets", .ref oD), (PySem.Str.ofString "trees", .ref lT), (PySem.Str.ofString "place", .int (P : Int) tP)] ∧
    News g1 L1 h' ((lT, W.listOf vs.toArray kT) :: (nw ++ g (W.listOf (iv ys).toArray ky))) ∧ DatAll nw vs ds ∧ ds ++ r.dat = f.dat ∧ ys.map (·.1) ++ r.octs = xs.map (·.1) ++ f.octs ∧
    (∀ p ∈ nw, @LT.lt Nat _ lT p.1 ∧ ∀ q ∈ news, q.1 < p.1)) ?_ f.top ?_
  · rintro PP nn s' hPP ⟨r, P, tP, tk', kT, ky, h', vs, ys, nw, ds, m₁, hn, hrw, hrs, hrd, hdr, hP, rfl, F5, hb, N5, hD, hds, hys, hnw⟩
    have F6 := Fr.nf F5 hb
    clear F5
    have hTl : TT.length ≤ 16777216 := by omega
    have hoD : (oD, W.listOf (iv xs).toArray k) ∈ news := by have := UpdF.isIn U (W.listOf (iv xs).toArray k); rwa [UpdF.self U] at this
    have hlo : lT ≠ oD := fun q => Nat.lt_irrefl _ (q ▸ llT _ hoD)
    have hnwo : ∀ p ∈ nw, p.1 ≠ oD := fun p hp => Ne.symm (Nat.ne_of_lt ((hnw p hp).2 _ hoD))
    have hgl : ∀ o', ∀ p ∈ nw ++ g o', p.1 ≠ lT := by
      intro o' p hp
      rcases List.mem_append.mp hp with hp | hp
      · exact Ne.symm (Nat.ne_of_lt (hnw p hp).1)
      · rcases UpdF.at U o' hp with q | q
        · rw [q]; exact Ne.symm hlo
        · exact Nat.ne_of_lt (llT p q)
    have hvl : vs.length ≤ 16777216 := by
      have h1 := congrArg List.length hds
      have h2 := Fo.dat_len f
      have h3 := Fo.top_le f
      rw [hT] at h3
      rw [datLen hD]
      rw [List.length_append, h2] at h1
      omega
    cases r with
    | nil =>
      have hPe : TT.length ≤ P := by
        have := congrArg List.length hdr
        simp only [Fo.enc, List.length_drop, List.length_nil] at this; omega
      walk_at "my steps"
      simp only [Fo.dat, Fo.octs, List.append_nil] at hds hys
      subst hds
      exact hret lT kT ky _ _ vs ys nw (by assumption) (by assumption) hD hys llT (fun p hp => (hnw p hp).2)
    | leaf n r =>
      have h34 : TT[(P : Int).toNat]? = some 34 := at_drop hdr
      have hPl : P < TT.length := lt_drop hdr
      have e34 : PySem.Str.ofString "\"" = S [34] := by decide
      have e6 : PySem.Str.ofString "<>\"\r\n\t" = S [60, 62, 34, 13, 10, 9] := by decide
      have hd1 : TT.drop (P + 1) = escA (signs n) ++ 34 :: r.enc := drop_more (a := [34]) hdr
      have hfi : FirstAt [34] (TT.drop (P + 1)) (escA (signs n)).length := by rw [hd1]; exact first34 _ _ (fun c hc => (escA_free c hc).2.2.1)
      have hom : (oD, W.listOf (iv ys).toArray ky) ∈ nw ++ g (W.listOf (iv ys).toArray ky) := List.mem_append_right _ (UpdF.isIn U _)
      have ok := nmOkA
      have hsl : (TT.drop ((P : Int) + 1).toNat).take (((P + 1 + (escA (signs n)).length : Nat) : Int) - ((P : Int) + 1)).toNat = (signs n).flatMap (escN nmA) := by
        rw [show ((P : Int) + 1).toNat = P + 1 by omega, show (((P + 1 + (escA (signs n)).length : Nat) : Int) - ((P : Int) + 1)).toNat = (escA (signs n)).length by omega, hd1, List.take_left', escA_N]
        rfl
      have hsll : ((TT.drop ((P : Int) + 1).toNat).take (((P + 1 + (escA (signs n)).length : Nat) : Int) - ((P : Int) + 1)).toNat).length ≤ 2000000 := by
        simp only [List.length_take, List.length_drop]; omega
      walk_at "my steps"
      refine ⟨signs n, _, _, rfl, rfl, by assumption, by assumption, by have := signs_len n; omega, ?_⟩
      rintro s₂ ⟨hg, rfl⟩
      refine comp_ind (fun i us nw' => nw' = (lT, W.listOf vs.toArray kT) :: (nw ++ g (W.listOf (iv ys).toArray ky)) ∧ ∃ qs : List (Nat × Nat), us = iv qs ∧ qs.map (·.1) = (signs n).take i) _ ?turnC ?finC _ 0 _ _ (Nat.zero_add _) ⟨rfl, [], rfl, rfl⟩
      case turnC =>
        rintro i us nw' v I' oI C oC D m₂ hp tk E' hiN ⟨rfl, qs, rfl, hqs⟩ ⟨c, u, hc, rfl⟩ hC hx F7 N7 off ne
        walk_at "my steps"
        have hc' : (signs n)[i]? = some c := by simpa using hc
        exact ⟨_, _, _, rfl, F7, N7, off, trivial, rfl, qs ++ [(c, _)], iv_snoc _ _ _, by rw [List.map_append, hqs, take_succ_at hc']; rfl⟩
      case finC =>
        rintro us nw' ⟨rfl, qs, rfl, hqs⟩
        rw [List.take_length] at hqs
        have hql : qs.length = (signs n).length := by rw [← hqs, List.length_map]
        have hsl0 := signs_pos n
        have hsl3 := signs_len n
        unfold LCg.FinE
        intro D hp tk F7 N7 o1
        have o2 := off1_mem o1
        have hDo : D ≠ oD := fun q => o2 _ (.tail _ hom) q.symm
        walk_at "my steps"
        have hyl : (iv ys).length + (iv qs).length ≤ 16777216 := by
          have h1 := congrArg List.length hys
          simp only [List.length_append, List.length_map, Fo.octs] at h1
          rw [iv_len, iv_len]; omega
        refine lextend F7 N7 (.head _) (by intro q; have := congrArg List.length q; rw [iv_len, hql] at this; simp only [List.length_nil] at this; omega) (.tail hDo (.tail hlo (UpdF.app (UpdF.again U _) nw hnwo))) hyl fun hp2 F8 N8 => ?_
        rw [iv_app] at N8
        have N9 := News.sub N8 fun p hp => List.Mem.tail _ hp
        clear N8 N7 F7 hom
        have hom : (oD, W.listOf (iv (ys ++ qs)).toArray (ky + 1)) ∈ nw ++ g (W.listOf (iv (ys ++ qs)).toArray (ky + 1)) := List.mem_append_right _ (UpdF.isIn U _)
        have hgl9 := hgl (W.listOf (iv (ys ++ qs)).toArray (ky + 1))
        walk_at "my steps"
        rename_i hA tkA htkA hZ FZ NZ
        dsimp only at FZ
        have hd2 : TT.drop (P + 1 + (escA (signs n)).length + 1) = r.enc := drop_more (a := [34]) (drop_more (a := escA (signs n)) hd1)
        refine hPP _ _ ?_; refine ⟨r.top, by rw [← hn]; exact Nat.lt_succ_self _, r, P + 1 + (escA (signs n)).length + 1, _, _, _, _, _, _, ys ++ qs, nw, ds ++ [.int 0], _, rfl, hrw.2, ?_, ?_, hd2, ?_, rfl, FZ, ⟨rfl, rfl, rfl, rfl, trivial⟩, NZ, datApp hD (.cons (.int 0 _) .nil), ?_, ?_, hnw⟩
        · simp only [Fo.size] at hrs; omega
        · exact hrd
        · have h1 := congrArg List.length hd1
          simp only [List.length_drop, List.length_append, List.length_cons] at h1
          omega
        · rw [List.append_assoc]; exact hds
        · rw [List.map_append, hqs, List.append_assoc]; exact hys
    | box k i r =>
      have hPl : P < TT.length := by
        have h1 := congrArg List.length hdr
        have h2 : 1 ≤ (boxT k i.enc).length := by unfold boxT; (repeat' split) <;> simp
        simp only [Fo.enc, List.length_drop, List.length_append] at h1; omega
      have e34 : PySem.Str.ofString "\"" = S [34] := by decide
      have e1 : PySem.Str.ofString "<e>" = S [60, 101, 62] := by decide
      have e1e : PySem.Str.ofString "</e>" = S [60, 47, 101, 62] := by decide
      have e1p : PySem.Str.ofString "<>" = S [60, 62] := by decide
      have e2 : PySem.Str.ofString "p=\"" = S [112, 61, 34] := by decide
      have e3 : PySem.Str.ofString "m\r\n" = S [109, 13, 10] := by decide
      have e3e : PySem.Str.ofString "\r\n.\r\n" = S [13, 10, 46, 13, 10] := by decide
      have hir := Fo.inner_le k i r
      have hil : i.enc.length ≤ TT.length := by
        have h1 := congrArg List.length hdr
        rw [List.length_drop] at h1; omega
      have hI : OpenCtr w i := IH i (by simp only [Fo.size] at hrs; omega) hrw.2.2.1 (by omega)
      have hom : (oD, W.listOf (iv ys).toArray ky) ∈ nw ++ g (W.listOf (iv ys).toArray ky) := List.mem_append_right _ (UpdF.isIn U _)
      have hUa : UpdF oD (W.listOf (iv ys).toArray ky) ((lT, W.listOf vs.toArray kT) :: (nw ++ g (W.listOf (iv ys).toArray ky))) (fun o' => (lT, W.listOf vs.toArray kT) :: (nw ++ g o')) := .tail hlo (UpdF.app (UpdF.again U _) nw hnwo)
      have hyi : ys.length + i.octs.length ≤ 1000000 := by
        have h1 := congrArg List.length hys
        simp only [List.length_append, List.length_map, Fo.octs] at h1
        omega
      have hdi : i.dep + 1 ≤ f.dep := by simp only [Fo.dep] at hrd; omega
      have hdr1 : TT.drop P = boxT k i.enc ++ r.enc := hdr
      have hnext : (P + (boxT k i.enc).length ≤ TT.length) ∧ TT.drop (P + (boxT k i.enc).length) = r.enc := by
        refine ⟨?_, drop_more hdr1⟩
        have h1 := congrArg List.length hdr1
        rw [List.length_drop, List.length_append] at h1; omega
      have hk123 := hrw.1
      have hgen : ∀ (A B : Nat), ((A : Int) = (B : Int)) → A = B := fun _ _ h => by omega
      rcases hk123 with rfl | rfl | rfl
      · have hbt : boxT 1 i.enc = 60 :: 101 :: 62 :: (escC i.enc ++ [60, 47, 101, 62]) := by simp [boxT]
        have hd1 : TT.drop P = 60 :: 101 :: 62 :: (escC i.enc ++ ([60, 47, 101, 62] ++ r.enc)) := by rw [hdr1, hbt]; simp
        have hc0 : TT[(P : Int).toNat]? = some 60 := at_drop hd1
        have hs3 : (TT.drop (P : Int).toNat).take (((P : Int) + 3) - (P : Int)).toNat = [60, 101, 62] := by
          rw [Int.toNat_natCast, show (((P : Int) + 3) - (P : Int)).toNat = 3 by omega, hd1]; rfl
        have hfi : FirstAt [60, 47, 101, 62] (TT.drop P) (3 + (escC i.enc).length) := by rw [hd1]; exact first_e _ _
        have ok := nmOkC
        have hsl : (TT.drop ((P : Int) + 3).toNat).take (((P + (3 + (escC i.enc).length) : Nat) : Int) - ((P : Int) + 3)).toNat = i.enc.flatMap (escN nmC) := by
          rw [show ((P : Int) + 3).toNat = P + 3 by omega, show (((P + (3 + (escC i.enc).length) : Nat) : Int) - ((P : Int) + 3)).toNat = (escC i.enc).length by omega, ← List.drop_drop, hd1, ← escC_N]
          exact List.take_left
        have hsll : ((TT.drop ((P : Int) + 3).toNat).take (((P + (3 + (escC i.enc).length) : Nat) : Int) - ((P : Int) + 3)).toNat).length ≤ 2000000 := by
          simp only [List.length_take, List.length_drop]; omega
        walk_at "my steps"
        walk_at "my open"
        intro lI kI kI2 tkI hI8 vI yI nwI FI NI DI eI l1 l2
        have N8 : News g1 L1 hI8 ((lT, W.listOf vs.toArray kT) :: ((lI, W.listOf vI.toArray kI) :: (nwI ++ nw) ++ g (W.listOf (iv yI).toArray kI2))) := News.sub NI (fun p hp => memOpen hp)
        clear NI hom
        have hlI : @LT.lt Nat _ lT lI := l1 _ (.head _)
        have hgl9 : ∀ p ∈ (lI, W.listOf vI.toArray kI) :: (nwI ++ nw) ++ g (W.listOf (iv yI).toArray kI2), p.1 ≠ lT := by
          intro p hp
          rcases List.mem_cons.mp (show p ∈ (lI, W.listOf vI.toArray kI) :: ((nwI ++ nw) ++ g (W.listOf (iv yI).toArray kI2)) from hp) with rfl | hp
          · exact Ne.symm (Nat.ne_of_lt hlI)
          · rw [List.append_assoc] at hp
            rcases List.mem_append.mp hp with hp | hp
            · exact Ne.symm (Nat.ne_of_lt (l2 p hp _ (.head _)))
            · exact hgl _ p hp
        walk_at "my steps"
        rename_i lZ hZ1 lZl hZ2 tkZ htkZ hZ FZ NZ
        dsimp only at FZ
        have hnw9 : ∀ o : Obj, ∀ p ∈ (lZ, o) :: (lI, W.listOf vI.toArray kI) :: (nwI ++ nw), @LT.lt Nat _ lT p.1 ∧ ∀ q ∈ news, q.1 < p.1 := by
          intro o p hp
          have h : @LT.lt Nat _ lT p.1 := by
            rcases List.mem_cons.mp hp with rfl | hp
            · exact lZl.1
            · rcases List.mem_cons.mp hp with rfl | hp
              · exact hlI
              · rcases List.mem_append.mp hp with hp | hp
                · exact l2 p hp _ (.head _)
                · exact (hnw p hp).1
          exact ⟨h, fun q hq => Nat.lt_trans (llT q hq) h⟩
        have hP9 : P + (3 + (escC i.enc).length) + 4 = P + (boxT 1 i.enc).length := by rw [hbt]; simp; try omega
        refine hPP _ _ ?_; refine ⟨r.top, by rw [← hn]; exact Nat.lt_succ_self _, r, P + (3 + (escC i.enc).length) + 4, _, _, _, kI2, _, _, yI, (lZ, _) :: (lI, W.listOf vI.toArray kI) :: (nwI ++ nw), ds ++ [.list [.int ((1 : Nat) : Int), .list i.dat]], _, rfl, hrw.2.2.2, ?_, ?_, by rw [hP9]; exact hnext.2, by rw [hP9]; exact hnext.1, rfl, FZ, ⟨rfl, rfl, rfl, rfl, trivial⟩, News.sub NZ (fun p hp => memOpen2 hp), ?_, ?_, ?_, hnw9 _⟩
        · simp only [Fo.size] at hrs; omega
        · simp only [Fo.dep] at hrd; omega
        · exact datApp (hD.mono fun p hp => .tail _ (.tail _ (List.mem_append_right _ hp))) (.cons (.list (.head _) (.cons (.int _ _) (.cons (.list (.tail _ (.head _)) (DI.mono fun p hp => .tail _ (.tail _ (List.mem_append_left _ hp)))) .nil))) .nil)
        · rw [List.append_assoc]; exact hds
        · rw [eI, List.append_assoc]; exact hys
      · have hbt : boxT 2 i.enc = 112 :: 61 :: 34 :: (parE i.enc ++ [34]) := by simp [boxT]
        have hd1 : TT.drop P = [112, 61, 34] ++ (parE i.enc ++ 34 :: r.enc) := by rw [hdr1, hbt]; simp
        have hc0 : TT[(P : Int).toNat]? = some 112 := at_drop hd1
        have hs3 : (TT.drop (P : Int).toNat).take (((P : Int) + 3) - (P : Int)).toNat = [112, 61, 34] := by
          rw [Int.toNat_natCast, show (((P : Int) + 3) - (P : Int)).toNat = 3 by omega, hd1]; rfl
        have hs3a : (TT.drop (P : Int).toNat).take (((P : Int) + 3) - (P : Int)).toNat ≠ [60, 101, 62] := by rw [hs3]; decide
        have e92 : PySem.Str.ofString "\\" = S [92] := by decide
        have e9234 : PySem.Str.ofString "\\\"" = S [92, 34] := by decide
        have e0 : PySem.Str.ofString "" = S [] := by decide
        walk_at "my steps"
        rename_i hW1 tW1 kW1 tkW htkW hW FW NW
        dsimp only at FW
        refine while_indP (fun n s' => ∃ (x1 x2 : List Nat) (P2 tP2 th tk2 : Nat) (h2 : Heap) (m₂ : PySem.Str → Option Value), x1 ++ x2 = i.enc ∧ x2.length = n ∧ TT.drop P2 = parE x2 ++ 34 :: r.enc ∧ s' = ⟨h2, s.gens, s.drawn, tk2, s.os⟩ ∧ Fr g1 L1 h2 m₂ ∧
          Bnd m₂ [(PySem.Str.ofString "text", .str (S TT) tx), (PySem.Str.ofString "octets", .ref oD), (PySem.Str.ofString "trees", .ref lT), (PySem.Str.ofString "place", .int (P2 : Int) tP2), (PySem.Str.ofString "held", .str (S x1) th)] ∧
          News g1 L1 h2 ((lT, W.listOf vs.toArray kT) :: (nw ++ g (W.listOf (iv ys).toArray ky)))) ?_ i.enc.length ?_
        · rintro PP2 n2 s2 hPP2 ⟨x1, x2, P2, tP2, th, tk2, h2, m₂, hx12, hn2, hdQ, rfl, FQ, hbQ, NQ⟩
          have FQ2 := Fr.nf FQ hbQ
          clear FQ
          have hP2l : P2 < TT.length := by
            have h1 := congrArg List.length hdQ
            simp only [List.length_drop, List.length_append, List.length_cons] at h1; omega
          have hx1l : x1.length ≤ 1000000 := by
            have h1 := congrArg List.length hx12
            rw [List.length_append] at h1; omega
          cases x2 with
          | nil =>
            rw [List.append_nil] at hx12
            subst hx12
            have hcQ : TT[(P2 : Int).toNat]? = some 34 := at_drop hdQ
            have hdQ : TT.drop P2 = 34 :: r.enc := hdQ
            walk_at "my steps"
            walk_at "my open"
            intro lI kI kI2 tkI hI8 vI yI nwI FI NI DI eI l1 l2
            have N8 : News g1 L1 hI8 ((lT, W.listOf vs.toArray kT) :: ((lI, W.listOf vI.toArray kI) :: (nwI ++ nw) ++ g (W.listOf (iv yI).toArray kI2))) := News.sub NI (fun p hp => memOpen hp)
            clear NI hom
            have hlI : @LT.lt Nat _ lT lI := l1 _ (.head _)
            have hgl9 : ∀ p ∈ (lI, W.listOf vI.toArray kI) :: (nwI ++ nw) ++ g (W.listOf (iv yI).toArray kI2), p.1 ≠ lT := by
              intro p hp
              rcases List.mem_cons.mp (show p ∈ (lI, W.listOf vI.toArray kI) :: ((nwI ++ nw) ++ g (W.listOf (iv yI).toArray kI2)) from hp) with rfl | hp
              · exact Ne.symm (Nat.ne_of_lt hlI)
              · rw [List.append_assoc] at hp
                rcases List.mem_append.mp hp with hp | hp
                · exact Ne.symm (Nat.ne_of_lt (l2 p hp _ (.head _)))
                · exact hgl _ p hp
            walk_at "my steps"
            rename_i lZ hZ1 lZl hZ2 tkZ htkZ hZ FZ NZ
            dsimp only at FZ
            have hnw9 : ∀ o : Obj, ∀ p ∈ (lZ, o) :: (lI, W.listOf vI.toArray kI) :: (nwI ++ nw), @LT.lt Nat _ lT p.1 ∧ ∀ q ∈ news, q.1 < p.1 := by
              intro o p hp
              have h : @LT.lt Nat _ lT p.1 := by
                rcases List.mem_cons.mp hp with rfl | hp
                · exact lZl.1
                · rcases List.mem_cons.mp hp with rfl | hp
                  · exact hlI
                  · rcases List.mem_append.mp hp with hp | hp
                    · exact l2 p hp _ (.head _)
                    · exact (hnw p hp).1
              exact ⟨h, fun q hq => Nat.lt_trans (llT q hq) h⟩
            refine hPP _ _ ?_; refine ⟨r.top, by rw [← hn]; exact Nat.lt_succ_self _, r, P2 + 1, _, _, _, kI2, _, _, yI, (lZ, _) :: (lI, W.listOf vI.toArray kI) :: (nwI ++ nw), ds ++ [.list [.int ((2 : Nat) : Int), .list i.dat]], _, rfl, hrw.2.2.2, ?_, ?_, drop_more (a := [34]) hdQ, by have := lt_drop hdQ; omega, rfl, FZ, ⟨rfl, rfl, rfl, rfl, trivial⟩, News.sub NZ (fun p hp => memOpen2 hp), ?_, ?_, ?_, hnw9 _⟩
            · simp only [Fo.size] at hrs; omega
            · simp only [Fo.dep] at hrd; omega
            · exact datApp (hD.mono fun p hp => .tail _ (.tail _ (List.mem_append_right _ hp))) (.cons (.list (.head _) (.cons (.int _ _) (.cons (.list (.tail _ (.head _)) (DI.mono fun p hp => .tail _ (.tail _ (List.mem_append_left _ hp)))) .nil))) .nil)
            · rw [List.append_assoc]; exact hds
            · rw [eI, List.append_assoc]; exact hys
          | cons c x3 =>
            have hx12' : x1 ++ [c] ++ x3 = i.enc := by rw [← hx12]; simp
            have hpe : parE (c :: x3) = parE1 c ++ parE x3 := by simp [parE]
            rw [hpe, List.append_assoc] at hdQ
            by_cases hcs : c = 92 ∨ c = 34
            · have hp1 : parE1 c = [92, c] := by rcases hcs with rfl | rfl <;> rfl
              rw [hp1] at hdQ
              have hcA : TT[(P2 : Int).toNat]? = some 92 := at_drop hdQ
              have hcB : TT[((P2 : Int) + 1).toNat]? = some c := at_drop (drop_more (a := [92]) hdQ)
              have hcm : c ∈ [92, 34] := by rcases hcs with rfl | rfl <;> simp
              walk_at "my steps"
              rename_i hZ FZ NZ
              dsimp only at FZ
              refine hPP2 _ _ ?_; exact ⟨x3.length, by rw [← hn2]; exact Nat.lt_succ_self _, x1 ++ [c], x3, P2 + 1 + 1, _, _, _, _, _, hx12', rfl, drop_more (a := [92, c]) hdQ, rfl, FZ, ⟨rfl, rfl, rfl, rfl, rfl, trivial⟩, NZ⟩
            · have hp1 : parE1 c = [c] := by unfold parE1; rw [if_neg (fun q => hcs (.inl q)), if_neg (fun q => hcs (.inr q))]
              rw [hp1] at hdQ
              have hcA : TT[(P2 : Int).toNat]? = some c := at_drop hdQ
              have hq92 : [c] ≠ [92] := fun q => hcs (.inl (List.head_eq_of_cons_eq q))
              have hq34 : [c] ≠ [34] := fun q => hcs (.inr (List.head_eq_of_cons_eq q))
              walk_at "my steps"
              rename_i hZ FZ NZ
              dsimp only at FZ
              refine hPP2 _ _ ?_; exact ⟨x3.length, by rw [← hn2]; exact Nat.lt_succ_self _, x1 ++ [c], x3, P2 + 1, _, _, _, _, _, hx12', rfl, drop_more (a := [c]) hdQ, rfl, FZ, ⟨rfl, rfl, rfl, rfl, rfl, trivial⟩, NZ⟩
        · refine ⟨[], i.enc, P + 3, _, _, _, _, _, rfl, rfl, drop_more hd1, rfl, FW, ⟨rfl, rfl, rfl, rfl, rfl, trivial⟩, NW⟩
      · have hbt : boxT 3 i.enc = 109 :: 13 :: 10 :: (dots i.enc ++ [13, 10, 46, 13, 10]) := by simp [boxT]
        have hd1 : TT.drop P = 109 :: 13 :: 10 :: (dots i.enc ++ ([13, 10, 46, 13, 10] ++ r.enc)) := by rw [hdr1, hbt]; simp
        have hc0 : TT[(P : Int).toNat]? = some 109 := at_drop hd1
        have hs3 : (TT.drop (P : Int).toNat).take (((P : Int) + 3) - (P : Int)).toNat = [109, 13, 10] := by
          rw [Int.toNat_natCast, show (((P : Int) + 3) - (P : Int)).toNat = 3 by omega, hd1]; rfl
        have hs3a : (TT.drop (P : Int).toNat).take (((P : Int) + 3) - (P : Int)).toNat ≠ [60, 101, 62] := by rw [hs3]; decide
        have hs3b : (TT.drop (P : Int).toNat).take (((P : Int) + 3) - (P : Int)).toNat ≠ [112, 61, 34] := by rw [hs3]; decide
        have hcl := Fo.clean i
        have hfi : FirstAt [13, 10, 46, 13, 10] (TT.drop P) (3 + (dots i.enc).length) := by rw [hd1]; exact first_m hcl _
        have hsl : (TT.drop ((P : Int) + 3).toNat).take (((P + (3 + (dots i.enc).length) : Nat) : Int) - ((P : Int) + 3)).toNat = dots i.enc := by
          rw [show ((P : Int) + 3).toNat = P + 3 by omega, show (((P + (3 + (dots i.enc).length) : Nat) : Int) - ((P : Int) + 3)).toNat = (dots i.enc).length by omega, ← List.drop_drop, hd1]
          exact List.take_left
        have hsll : (dots i.enc).length ≤ 1000000 := by
          have h1 := congrArg List.length hd1
          simp only [List.length_drop, List.length_cons, List.length_append] at h1; omega
        walk_at "my steps"
        walk_at "my open"
        intro lI kI kI2 tkI hI8 vI yI nwI FI NI DI eI l1 l2
        have N8 : News g1 L1 hI8 ((lT, W.listOf vs.toArray kT) :: ((lI, W.listOf vI.toArray kI) :: (nwI ++ nw) ++ g (W.listOf (iv yI).toArray kI2))) := News.sub NI (fun p hp => memOpen hp)
        clear NI hom
        have hlI : @LT.lt Nat _ lT lI := l1 _ (.head _)
        have hgl9 : ∀ p ∈ (lI, W.listOf vI.toArray kI) :: (nwI ++ nw) ++ g (W.listOf (iv yI).toArray kI2), p.1 ≠ lT := by
          intro p hp
          rcases List.mem_cons.mp (show p ∈ (lI, W.listOf vI.toArray kI) :: ((nwI ++ nw) ++ g (W.listOf (iv yI).toArray kI2)) from hp) with rfl | hp
          · exact Ne.symm (Nat.ne_of_lt hlI)
          · rw [List.append_assoc] at hp
            rcases List.mem_append.mp hp with hp | hp
            · exact Ne.symm (Nat.ne_of_lt (l2 p hp _ (.head _)))
            · exact hgl _ p hp
        walk_at "my steps"
        rename_i lZ hZ1 lZl hZ2 tkZ htkZ hZ FZ NZ
        dsimp only at FZ
        have hnw9 : ∀ o : Obj, ∀ p ∈ (lZ, o) :: (lI, W.listOf vI.toArray kI) :: (nwI ++ nw), @LT.lt Nat _ lT p.1 ∧ ∀ q ∈ news, q.1 < p.1 := by
          intro o p hp
          have h : @LT.lt Nat _ lT p.1 := by
            rcases List.mem_cons.mp hp with rfl | hp
            · exact lZl.1
            · rcases List.mem_cons.mp hp with rfl | hp
              · exact hlI
              · rcases List.mem_append.mp hp with hp | hp
                · exact l2 p hp _ (.head _)
                · exact (hnw p hp).1
          exact ⟨h, fun q hq => Nat.lt_trans (llT q hq) h⟩
        have hP9 : P + (3 + (dots i.enc).length) + 5 = P + (boxT 3 i.enc).length := by rw [hbt]; simp; try omega
        refine hPP _ _ ?_; refine ⟨r.top, by rw [← hn]; exact Nat.lt_succ_self _, r, P + (3 + (dots i.enc).length) + 5, _, _, _, kI2, _, _, yI, (lZ, _) :: (lI, W.listOf vI.toArray kI) :: (nwI ++ nw), ds ++ [.list [.int ((3 : Nat) : Int), .list i.dat]], _, rfl, hrw.2.2.2, ?_, ?_, by rw [hP9]; exact hnext.2, by rw [hP9]; exact hnext.1, rfl, FZ, ⟨rfl, rfl, rfl, rfl, trivial⟩, News.sub NZ (fun p hp => memOpen2 hp), ?_, ?_, ?_, hnw9 _⟩
        · simp only [Fo.size] at hrs; omega
        · simp only [Fo.dep] at hrd; omega
        · exact datApp (hD.mono fun p hp => .tail _ (.tail _ (List.mem_append_right _ hp))) (.cons (.list (.head _) (.cons (.int _ _) (.cons (.list (.tail _ (.head _)) (DI.mono fun p hp => .tail _ (.tail _ (List.mem_append_left _ hp)))) .nil))) .nil)
        · rw [List.append_assoc]; exact hds
        · rw [eI, List.append_assoc]; exact hys
  · refine ⟨f, 0, _, _, 0, k, h4, [], xs, [], [], _, rfl, hwf, Nat.le_refl _, Nat.le_refl _, by rw [hT]; rfl, Nat.zero_le _, rfl, F4, ⟨rfl, rfl, rfl, rfl, trivial⟩, ?_, DatAll.nil, rfl, rfl, fun p hp => nomatch hp⟩
    rw [UpdF.self U]; exact N4
end

/-! part VarEnd -/
theorem flush_VarEnd {M : Model} {A : Around} {env : Env} {Q : Flow → Shared → Prop} {E : Value → Shared → Prop} {s : Shared} (h : wpAny M A (execs [] env) Q E s) : wpAny M A (execs [] env) Q E s := by w_top off; k_with_none; first | (walk1; done) | exact h
section
theorem lines_VarEnd_1 : True := by
  k_with "my steps" => repeat' (first | (k_unfold; (try dsimp only)) | ((fail_if_success (with_reducible show wpAny _ _ (exec (Stmt.While _ _ _ _) _) _ _ _)); (fail_if_success (with_reducible show wpAny _ _ (exec (Stmt.For _ _ _ _ _) _) _ _ _)); (fail_if_success (with_reducible show wpAny _ _ (pyIter _) _ _ _)); first | walk1 | (dsimp only; walk1) | (leave1; try dsimp only)))
  k_with "my enter" => k_dflt (refine' code_def (by k_asm) (by k_asm) (by k_asm) (by k_asm) (by k_asm) (by exact rfl) (by exact rfl) (by assumption) (by k_is) (by k_is) (by ktr_room) (by first | exact BindsTo.of_eq rfl | exact binds_K (by k_in) rfl (by k_is) rfl rfl rfl) (by exact locs rfl) ?_ (by exact rfl) (by exact rfl) (by exact rfl) (by decide); k_whole; intro _ _ _ _ _ _; walk_at "in enter")
  k_with "execs cons" => (k_here; (fail_if_success (fail_if_success k_gentoks)); refine gen_toks ?_; intro _; walk_at "in d")
  k_with "execs nil" => (k_here; (fail_if_success (fail_if_success k_gentoks)); refine gen_toks ?_; intro _; walk_at "in d")
  k_with "my tok" => ((try dsimp only); first | assumption | omega | (simp only [List.length_cons, List.length_nil]; omega))
  k_with "call builtin:str.replace" => (k_here; (with_reducible show wpAny _ _ (call _ [Value.str (S _) _, Value.str _ _, Value.str _ _]) _ _ _); refine' replS (by walk_at "my tok") (by walk_at "my tok") (by walk_at "my tok") (by assumption) (by assumption) (by first | decide | assumption) (by first | decide | assumption) (by walk_at "my tok") (by (simp only [List.length_cons, List.length_nil]; omega)) ?_; k_whole; intro _ _; walk_at "in d")
  trivial
theorem lines_VarEnd_2 : True := by
  k_with "my S" => first | with_reducible assumption | with_reducible rfl | assumption
  k_with "binaryOp Add str str" => (k_here; (with_reducible show wpAny _ _ (binaryOp Operator.Add (Value.str _ _) (Value.str _ _)) _ _ _); refine' addS (by walk_at "my S") (by walk_at "my S") (by walk_at "my tok") (by ((simp only [List.length_cons, List.length_nil, List.length_append]); omega)) ?_; k_whole; intro _ _; walk_at "in d")
  k_with "call builtin:len" => (k_here; (with_reducible show wpAny _ _ (call (Value.builtin "len") [Value.str (S _) _]) _ _ _); refine lenS (by first | omega | (simp only [List.length_cons, List.length_nil, List.length_append]; omega)) ?_; (try dsimp only))
  trivial
theorem lines_VarEnd_3 : True := by
  k_with "call builtin:str.split" => (k_here; (with_reducible show wpAny _ _ (call _ [Value.str (S _) _, Value.str _ _]) _ _ _); refine' splitS (by k_asm) (by k_asm) (by walk_at "my S") (by decide) (by decide) (by omega) ?_; k_whole; intro _ _ _ _ _ _ _; walk_at "in l")
  k_with "my lst" => first | exact News.isList (by k_asm) (by k_mem) | exact Fr.lst (by k_asm) (by k_asm) | k_asm
  k_with "my pure" => first | (intro _; with_unfolding_all rfl) | (intro _; rfl)
  k_with "subscriptTail Name Slice str ref" => (k_here; k_dflt (first
    | (refine' tsl_ns (by k_asm) (by k_asm) (by omega) (by omega) ?_ (by with_unfolding_all rfl) (by walk_at "my pure"); intro _ _ _ _ _)
    | (refine' tsl_sn (by k_asm) (by k_asm) (by omega) (by omega) ?_ (by with_unfolding_all rfl) (by walk_at "my pure"); intro _ _ _ _ _)
    | (refine' tsl_ss (by k_asm) (by k_asm) (by omega) (by omega) (by omega) ?_ (by with_unfolding_all rfl) (by walk_at "my pure"); intro _ _ _ _ _)))
  k_with "subscriptTail Name Slice ref ref" => (k_here; (with_reducible show wpAny _ _ (subscriptTail _ (PySem.Expr.Slice _ _ none _) (Value.ref _) (Value.ref _)) _ _ _); k_dflt (refine' lsl (by k_asm) (by k_asm) (by walk_at "my lst") (by kmk_part) (by kmk_part) (by first | assumption | (simp only [List.length_append, List.length_cons, List.length_nil]; omega)) ?_ (by with_unfolding_all rfl) (by walk_at "my pure")); intro _ _ _ _; walk_at "in l")
  k_with "my item0" => (k_here; k_dflt (refine' item0 (by walk_at "my lst") (by assumption) (by first | assumption | exact spl59 _ _ (by assumption)) ?_ (by with_unfolding_all rfl)); k_whole; intro _)
  k_with "subscriptTail Name Constant ref int" => walk_at "my item0"
  k_with "subscriptTail Call Attribute cons nil Constant ref int" => walk_at "my item0"
  k_with "compareOp NotIn str str" => (k_here; refine' notin_mem (by walk_at "my S") (by first | assumption | (simp only [List.mem_append, List.mem_cons, true_or, or_true]; done) | (simp; done)) ?_; k_whole)
  k_with "my add len" => first | omega | ((simp only [List.length_cons, List.length_nil, List.length_append, List.length_drop, List.length_take]); omega)
  k_with "binaryOp Add str str" => (k_here; (with_reducible show wpAny _ _ (binaryOp Operator.Add (Value.str _ _) (Value.str _ _)) _ _ _); first
    | (refine' addS (by walk_at "my S") (by walk_at "my S") (by walk_at "my tok") (by walk_at "my add len") ?_; k_whole; intro _ _; walk_at "in d")
    | (refine' addN (by walk_at "my S") (by walk_at "my S") (by walk_at "my add len") ?_; k_whole; intro _ _))
  k_with "compareOp Eq str str" => (k_here; first
    | (refine' eqS_t (by walk_at "my S") (by walk_at "my S") (by first | assumption | decide) ?_; k_whole)
    | (refine' eqS_f (by walk_at "my S") (by walk_at "my S") (by first | assumption | decide) ?_; k_whole))
  k_with "compareOp NotEq str str" => (k_here; first
    | (refine' neS_f (by walk_at "my S") (by walk_at "my S") (by first | assumption | decide) ?_; k_whole)
    | (refine' neS_t (by walk_at "my S") (by walk_at "my S") (by first | assumption | decide) ?_; k_whole))
  k_with "compareOp In str str" => (k_here; refine' in_not (by walk_at "my S") (by assumption) ?_; k_whole)
  k_with "call builtin:list.append" => (k_here; (with_reducible show wpAny _ _ (call (Value.builtin _) [Value.ref _, _]) _ _ _); refine' lappend (by k_asm) (by k_asm) (by k_upd) (by first | omega | (simp only [strValues, List.length_map]; omega) | (simp only [List.length_append, List.length_cons, List.length_nil]; omega)) ?_; k_whole; intro _ _ _)
  trivial
local macro_rules | `(tactic| walk_at "in 8") => `(tactic| (intro FG8 R8 U8 K8; (try dsimp only at FG8 R8 U8 K8 ⊢)))
theorem lines_VarEnd_4 : True := by
  k_with "leaving ref" => (k_here; refine' wpAny_K2 (safe2_leaving _ _) (by assumption) ?_; refine' leave_raiseS (by assumption) (by exact Heap.MadeExc.of (by assumption)) (by assumption) (by assumption) ?_; k_whole; intro _ _; walk_at "in 8")
  trivial
theorem c_varend (w : World)
    {p : Program} {loose : List PySem.Str} {mean : ExcName → Option Value} {mg mb : PySem.Str → Option Value}
    {dp un : Nat} {gd : Option (List Code)} {cn : PySem.Str} {cs : Scope} {a : Addr} {ccd : Value} {cl : List (PySem.Str × Addr)} {outer : List Env} {A₀ : Around} {base h₀ : Heap} {L : Addr} {m : PySem.Str → Option Value}
    {news : List (Addr × Obj)} {s : Shared} {Q E : Value → Shared → Prop}
    (B : Below A₀ base outer h₀) (F : Fr h₀ L s.heap m) (X : (hd.heap_39 w.params).In h₀) (N : News h₀ L s.heap news) (T : Top p loose mean mg mb h₀) (hk : cs.kind = .function)
    (hd : dp + 1 < recursionLimit) (hu : un + 8 * 1 < cLine)
    {it lo : Addr} {io : Obj} {k : Nat} {xs : List (Nat × Nat)} {nw : List (Addr × Obj)}
    (hm : (it, io) ∈ news) (hi : IterO lo xs.length io) (hl : (lo, W.listOf (iv xs).toArray k) ∈ news) (hnw : ∀ p ∈ nw, p ∈ news ∧ p.1 ≠ it)
    (hraise : ∀ (G h' : Heap) (e t : Addr) (tk' : Nat), Fr h₀ L G m → RaisedS base G (envX cn cs L a ccd cl :: outer) e (.type "StopIteration") t [] nw h' → G.UpToSlots h' → K2 e h' → E (.ref e) { s with heap := h', toks := tk' }) :
    wpAny (model PySem.Challenge.rw_ta0008_01.row.prog w) (ktrTop dp un gd cn cs L a ccd cl outer) (call (.ref 51) [.ref it]) Q E s := by
  refine wpAny_call ?_
  walk_at "my enter"
  rename_i g1 L1 h1 FG F1 N1 B1 X1 T1
  have F2 := Fr.bind1 F1 rfl
  clear F1
  walk_at "my begin"
  rename_i tk0 htk0
  walk_at "my steps"
  refine lnext_end (by exact rfl) F2 N1 hm hi (News.isList N1 hl) (by unfold iv; simp) fun hm h' e F3 N3 M => ?_
  have N4 := N3 nw hnw
  have hK2 : K2 e h' := by
    obtain ⟨t, ht, _⟩ := (Heap.MadeExc.of M).there
    exact ⟨_, ht, _, rfl, rfl⟩
  walk_at "my steps"
  rename_i h9 t9 S9 R9 U9 K9
  exact hraise g1 h9 e t9 _ FG S9 U9 K9
end

/-! part Reads -/
theorem flush_Reads {M : Model} {A : Around} {env : Env} {Q : Flow → Shared → Prop} {E : Value → Shared → Prop} {s : Shared} (h : wpAny M A (execs [] env) Q E s) : wpAny M A (execs [] env) Q E s := by w_top off; k_with_none; first | (walk1; done) | exact h
section
theorem lines_Reads_1 : True := by
  k_with "my steps" => repeat' (first | (k_unfold; (try dsimp only)) | ((fail_if_success (with_reducible show wpAny _ _ (exec (Stmt.While _ _ _ _) _) _ _ _)); (fail_if_success (with_reducible show wpAny _ _ (exec (Stmt.For _ _ _ _ _) _) _ _ _)); (fail_if_success (with_reducible show wpAny _ _ (pyIter _) _ _ _)); first | walk1 | (dsimp only; walk1) | (leave1; try dsimp only)))
  k_with "my enter" => k_dflt (refine' code_def (by k_asm) (by k_asm) (by k_asm) (by k_asm) (by k_asm) (by exact rfl) (by exact rfl) (by assumption) (by k_is) (by k_is) (by ktr_room) (by first | exact BindsTo.of_eq rfl | exact binds_K (by k_in) rfl (by k_is) rfl rfl rfl) (by exact locs rfl) ?_ (by exact rfl) (by exact rfl) (by exact rfl) (by decide); k_whole; intro _ _ _ _ _ _; walk_at "in enter")
  k_with "execs cons" => (k_here; (fail_if_success (fail_if_success k_gentoks)); refine gen_toks ?_; intro _; walk_at "in d")
  k_with "execs nil" => (k_here; (fail_if_success (fail_if_success k_gentoks)); refine gen_toks ?_; intro _; walk_at "in d")
  k_with "my tok" => ((try dsimp only); first | assumption | omega | (simp only [List.length_cons, List.length_nil]; omega))
  k_with "call builtin:str.replace" => (k_here; (with_reducible show wpAny _ _ (call _ [Value.str (S _) _, Value.str _ _, Value.str _ _]) _ _ _); refine' replS (by walk_at "my tok") (by walk_at "my tok") (by walk_at "my tok") (by assumption) (by assumption) (by first | decide | assumption) (by first | decide | assumption) (by walk_at "my tok") (by (simp only [List.length_cons, List.length_nil]; omega)) ?_; k_whole; intro _ _; walk_at "in d")
  trivial
theorem lines_Reads_2 : True := by
  k_with "my S" => first | with_reducible assumption | with_reducible rfl | assumption
  k_with "binaryOp Add str str" => (k_here; (with_reducible show wpAny _ _ (binaryOp Operator.Add (Value.str _ _) (Value.str _ _)) _ _ _); refine' addS (by walk_at "my S") (by walk_at "my S") (by walk_at "my tok") (by ((simp only [List.length_cons, List.length_nil, List.length_append]); omega)) ?_; k_whole; intro _ _; walk_at "in d")
  k_with "call builtin:len" => (k_here; (with_reducible show wpAny _ _ (call (Value.builtin "len") [Value.str (S _) _]) _ _ _); refine lenS (by first | omega | (simp only [List.length_cons, List.length_nil, List.length_append]; omega)) ?_; (try dsimp only))
  trivial
theorem lines_Reads_3 : True := by
  k_with "call builtin:str.split" => (k_here; (with_reducible show wpAny _ _ (call _ [Value.str (S _) _, Value.str _ _]) _ _ _); refine' splitS (by k_asm) (by k_asm) (by walk_at "my S") (by decide) (by decide) (by omega) ?_; k_whole; intro _ _ _ _ _ _ _; walk_at "in l")
  k_with "my lst" => first | exact News.isList (by k_asm) (by k_mem) | exact Fr.lst (by k_asm) (by k_asm) | k_asm
  k_with "my pure" => first | (intro _; with_unfolding_all rfl) | (intro _; rfl)
  k_with "subscriptTail Name Slice str ref" => (k_here; k_dflt (first
    | (refine' tsl_ns (by k_asm) (by k_asm) (by omega) (by omega) ?_ (by with_unfolding_all rfl) (by walk_at "my pure"); intro _ _ _ _ _)
    | (refine' tsl_sn (by k_asm) (by k_asm) (by omega) (by omega) ?_ (by with_unfolding_all rfl) (by walk_at "my pure"); intro _ _ _ _ _)
    | (refine' tsl_ss (by k_asm) (by k_asm) (by omega) (by omega) (by omega) ?_ (by with_unfolding_all rfl) (by walk_at "my pure"); intro _ _ _ _ _)))
  k_with "subscriptTail Name Slice ref ref" => (k_here; (with_reducible show wpAny _ _ (subscriptTail _ (PySem.Expr.Slice _ _ none _) (Value.ref _) (Value.ref _)) _ _ _); k_dflt (refine' lsl (by k_asm) (by k_asm) (by walk_at "my lst") (by kmk_part) (by kmk_part) (by first | assumption | (simp only [List.length_append, List.length_cons, List.length_nil]; omega)) ?_ (by with_unfolding_all rfl) (by walk_at "my pure")); intro _ _ _ _; walk_at "in l")
  k_with "my item0" => (k_here; k_dflt (refine' item0 (by walk_at "my lst") (by assumption) (by first | assumption | exact spl59 _ _ (by assumption)) ?_ (by with_unfolding_all rfl)); k_whole; intro _)
  k_with "subscriptTail Name Constant ref int" => walk_at "my item0"
  k_with "subscriptTail Call Attribute cons nil Constant ref int" => walk_at "my item0"
  k_with "compareOp NotIn str str" => (k_here; refine' notin_mem (by walk_at "my S") (by first | assumption | (simp only [List.mem_append, List.mem_cons, true_or, or_true]; done) | (simp; done)) ?_; k_whole)
  k_with "my add len" => first | omega | ((simp only [List.length_cons, List.length_nil, List.length_append, List.length_drop, List.length_take]); omega)
  k_with "binaryOp Add str str" => (k_here; (with_reducible show wpAny _ _ (binaryOp Operator.Add (Value.str _ _) (Value.str _ _)) _ _ _); first
    | (refine' addS (by walk_at "my S") (by walk_at "my S") (by walk_at "my tok") (by walk_at "my add len") ?_; k_whole; intro _ _; walk_at "in d")
    | (refine' addN (by walk_at "my S") (by walk_at "my S") (by walk_at "my add len") ?_; k_whole; intro _ _))
  k_with "compareOp Eq str str" => (k_here; first
    | (refine' eqS_t (by walk_at "my S") (by walk_at "my S") (by first | assumption | decide) ?_; k_whole)
    | (refine' eqS_f (by walk_at "my S") (by walk_at "my S") (by first | assumption | decide) ?_; k_whole))
  k_with "compareOp NotEq str str" => (k_here; first
    | (refine' neS_f (by walk_at "my S") (by walk_at "my S") (by first | assumption | decide) ?_; k_whole)
    | (refine' neS_t (by walk_at "my S") (by walk_at "my S") (by first | assumption | decide) ?_; k_whole))
  k_with "compareOp In str str" => (k_here; refine' in_not (by walk_at "my S") (by assumption) ?_; k_whole)
  k_with "call builtin:list.append" => (k_here; (with_reducible show wpAny _ _ (call (Value.builtin _) [Value.ref _, _]) _ _ _); refine' lappend (by k_asm) (by k_asm) (by k_upd) (by first | omega | (simp only [strValues, List.length_map]; omega) | (simp only [List.length_append, List.length_cons, List.length_nil]; omega)) ?_; k_whole; intro _ _ _)
  trivial
local macro_rules | `(tactic| walk_at "in enter0") => `(tactic| (intro B' X' T' D'; (try dsimp only); (try k_lift B'); (try k_fold)))
local macro_rules | `(tactic| walk_at "in 8") => `(tactic| (intro FG8 R8 U8 K8; (try dsimp only at FG8 R8 U8 K8 ⊢)))
local macro_rules | `(tactic| walk_at "in V") => `(tactic| (intro FV NV iV; (try dsimp only at FV NV ⊢)))
theorem lines_Reads_4 : True := by
  k_with "my enter0" => k_dflt (refine' code_defS0 (by k_asm) (by k_asm) (by k_asm) (by k_asm) (by k_asm) (by exact rfl) (by k_is) (by k_is) (by ktr_room) (by first | exact BindsTo.of_eq rfl | exact binds_K (by k_in) rfl (by k_is) rfl rfl rfl) (by exact locs rfl) ?_ (by first | exact rfl | assumption) (by exact rfl) (by exact rfl) (by exact rfl) (by decide); k_whole; intro _ _ _ _ _ _; walk_at "in enter0")
  trivial
theorem memIn2 {p : Addr × Obj} {l : List (Addr × Obj)} (h : p ∈ l) : List.Mem p l := h
local macro_rules | `(tactic| k_mem) => `(tactic| (refine memIn2 ?_; with_reducible assumption))
section
variable {prog : Program} {w : World} {A : Around} {E : Value → Shared → Prop} {s : Shared} {h₀ : Heap} {L a b : Addr} {news n₁ n₂ : List (Addr × Obj)} {xs ys : List Value} {ka kb : Nat} {ds : List Dat} {Q : Value → Shared → Prop}
open Classical in
theorem neD (N : News h₀ L s.heap news) (ma : (a, W.listOf xs.toArray ka) ∈ news) (Da : DatAll n₁ xs ds) (sa : ∀ p ∈ n₁, p ∈ news) (mb : (b, W.listOf ys.toArray kb) ∈ news) (Db : DatAll n₂ ys ds) (sb : ∀ p ∈ n₂, p ∈ news)
    (ok : ∀ d ∈ ds, kqdOk 8 d = true) (hu : A.units + 64 < cLine) (h : Q (.bool false) s) : wpAny (model prog w) A (compareOp .NotEq (.ref a) (.ref b)) Q E s := by
  refine kqd_ne N ma rfl rfl Da sa mb rfl rfl Db sb ok ok hu ?_
  rw [decide_eq_true rfl]
  exact h
theorem neI {i j : Int} {t u : Nat} (e : i = j) (h : Q (.bool false) s) : wpAny (model prog w) A (compareOp .NotEq (.int i t) (.int j u)) Q E s := by
  subst e
  exact P.ne_int (by rw [bne_self_eq_false]; exact h)
theorem eqI {i j : Int} {t u : Nat} (e : i = j) (h : Q (.bool true) s) : wpAny (model prog w) A (compareOp .Eq (.int i t) (.int j u)) Q E s := by
  subst e
  exact P.eq_int (by rw [beq_self_eq_true]; exact h)
end
theorem kqd_all0 : ∀ (f : Fo) (n : Nat), 2 * f.dep ≤ n → ∀ d ∈ f.dat, kqdOk n d = true
  | .nil, _, _, d, h => nomatch h
  | .leaf k r, n, hn, d, h => by
    rcases List.mem_cons.mp h with rfl | h
    · cases n <;> rfl
    · exact kqd_all0 r n hn d h
  | .box k i r, n, hn, d, h => by
    simp only [Fo.dep] at hn
    rcases List.mem_cons.mp h with rfl | h
    · obtain ⟨j, rfl⟩ : ∃ j, n = j + 2 := ⟨n - 2, by omega⟩
      have ih := kqd_all0 i j (by omega)
      have h1 : ∀ j, kqdOk j (.int (k : Int)) = true := fun j => by cases j <;> rfl
      simp only [kqdOk, List.all_cons, List.all_nil, Bool.and_true, Bool.and_eq_true, List.all_eq_true]
      first
        | exact ⟨h1 _, fun x hx => ih x hx⟩
        | exact ⟨trivial, fun x hx => ih x hx⟩
        | exact fun x hx => ih x hx
    · exact kqd_all0 r n (by omega) d h
theorem Fo.octs_nums : ∀ f : Fo, f.octs = f.nums.flatMap signs
  | .nil => rfl
  | .leaf n r => by simp only [Fo.octs, Fo.nums, List.flatMap_cons, Fo.octs_nums r]
  | .box k i r => by simp only [Fo.octs, Fo.nums, List.flatMap_append, Fo.octs_nums i, Fo.octs_nums r]
theorem Fo.nums_lt : ∀ f : Fo, f.wf → ∀ n ∈ f.nums, n < 262144
  | .nil, _, n, h => nomatch h
  | .leaf k r, hw, n, h => by
    rcases List.mem_cons.mp h with rfl | h
    · exact hw.1
    · exact Fo.nums_lt r hw.2 n h
  | .box k i r, hw, n, h => by
    rcases List.mem_append.mp h with h | h
    · exact Fo.nums_lt i hw.2.2.1 n h
    · exact Fo.nums_lt r hw.2.2.2 n h
theorem lines_Reads_5 : True := by
  k_with "my open" => (k_dflt (refine' OpenCtr.use (by assumption) (by k_asm) (by k_asm) (by k_asm) (by k_asm) (by k_asm) (by first | exact rfl | assumption) (by ktr_room) (by ktr_units) (by first | rfl | (symm; assumption)) (by assumption) (by assumption) ?_); k_whole)
  k_with "compareOp NotEq ref ref" => (k_here; k_dflt (refine' neD (by k_asm) (by exact List.Mem.head _) (by assumption) (by assumption) (by assumption) (by assumption) (by assumption) (by assumption) (by ktr_units) ?_); k_whole)
  k_with "call builtin:iter" => (k_here; k_dflt (refine' liter (by k_asm) (by k_asm) (by walk_at "my lst") ?_); k_whole; intro _ _ _ _ _ _ _)
  trivial
theorem flat_drop (g : Nat → List Nat) (l : List Nat) (i : Nat) : (l.flatMap g).drop ((l.take i).flatMap g).length = (l.drop i).flatMap g := by
  have h : l.flatMap g = (l.take i).flatMap g ++ (l.drop i).flatMap g := by rw [← List.flatMap_append, List.take_append_drop]
  rw [h, List.drop_left]
theorem drop_at {l : List Nat} {i n : Nat} (h : l[i]? = some n) : l.drop i = n :: l.drop (i + 1) := by
  obtain ⟨hi, e⟩ := List.getElem?_eq_some_iff.mp h
  rw [List.drop_eq_getElem_cons hi, e]
theorem iv_at {ns : List (Nat × Nat)} {i : Nat} {v : Value} (h : (iv ns)[i]? = some v) : ∃ n t, ns[i]? = some (n, t) ∧ v = .int (n : Int) t := by
  unfold iv at h
  rw [List.getElem?_map] at h
  obtain ⟨q, hq, rfl⟩ := Option.map_eq_some_iff.mp h
  exact ⟨q.1, q.2, hq, rfl⟩
theorem ints_iv : ∀ qs : List (Nat × Nat), IntsAre (iv qs) (qs.map fun p => (p.1 : Int))
  | [] => .nil
  | q :: r => .cons _ _ (ints_iv r)
theorem cast_sum : ∀ l : List Nat, (l.map (fun (n : Nat) => (n : Int))).sum = ((l.sum : Nat) : Int)
  | [] => rfl
  | a :: r => by rw [List.map_cons, List.sum_cons, List.sum_cons, cast_sum r]; omega
theorem nums_le : ∀ f : Fo, f.nums.length ≤ f.octs.length
  | .nil => Nat.le_refl _
  | .leaf n r => by have := nums_le r; have := signs_pos n; simp only [Fo.nums, Fo.octs, List.length_cons, List.length_append]; omega
  | .box k i r => by have := nums_le r; have := nums_le i; simp only [Fo.nums, Fo.octs, List.length_append]; omega
theorem len_flat (g : Nat → List Nat) : ∀ l : List Nat, (l.flatMap g).length = (l.map fun n => (g n).length).sum
  | [] => rfl
  | a :: r => by rw [List.flatMap_cons, List.length_append, List.map_cons, List.sum_cons, len_flat g r]
theorem off1_mem2 {D : Addr} : ∀ {l : List (Addr × Obj)}, LCg.Off1 D l → ∀ p ∈ l, p.1 ≠ D
  | [], _, _, h => nomatch h
  | _ :: _, x, p, h => by
    rcases List.mem_cons.mp h with rfl | h
    · exact x.1
    · exact off1_mem2 x.2 p h
theorem lenV {prog : Program} {w : World} {A : Around} {E : Value → Shared → Prop} {s : Shared} {Q : Value → Shared → Prop} {l : Addr} {ys : List (Nat × Nat)} (hl : s.heap.IsList l (iv ys).toArray) (hz : ys.length ≤ 2000000)
    (h : Q (.int ((ys.length : Nat) : Int) (s.toks + 1)) { s with toks := s.toks + 1 + 1 }) : wpAny (model prog w) A (call (.builtin "len") [.ref l]) Q E s := by
  have e : (iv ys).toArray.size = ys.length := by simp [iv]
  refine PyProof.Rows.len_list hl (by rw [e]; omega) ?_
  rw [e]; exact h
theorem isExc_SI : isSubtype (.type "StopIteration") (.type "BaseException") = pure true := by rw [isSubtype_type]; kernel_rfl
theorem notTuple_SI : isSubtype (.type ((Manifest.find? "StopIteration").elim "type" fun y => y.metatype)) (.type "tuple") = pure false := by rw [isSubtype_type]; kernel_rfl
theorem lines_Reads_6 : True := by
  k_with "noteFrame ref" => (k_here; k_dflt (refine' caughtK (T' := "StopIteration") (by assumption) (by assumption) (by assumption) (by assumption) (by assumption) (by assumption) (by assumption) (by k_is) PyProof.Rows.Boot.«StopIteration» (by decide) isExc_SI notTuple_SI isSubtype_stop ?_ (by rfl) (by rfl) (by decide)); k_whole)
  k_with "call builtin:len" => (k_here; (with_reducible show wpAny _ _ (call (Value.builtin "len") [Value.ref _]) _ _ _); k_dflt (refine' lenV (by walk_at "my lst") (by first | assumption | omega) ?_); k_whole; (try dsimp only))
  k_with "call builtin:sum" => (k_here; k_dflt (refine' sumH (by exact rfl) (by assumption) (by k_asm) (by k_asm) (by k_mem) (by walk_at "my lst") (by exact ints_iv _) ?_); k_whole; intro _ _ _ _ _; (try dsimp only))
  k_with "compareOp NotEq int int" => (k_here; refine' neI (by first | rfl | assumption | omega) ?_; k_whole)
  k_with "compareOp Eq int int" => (k_here; refine' eqI (by first | assumption | rfl | omega) ?_; k_whole)
  k_with "eval ListComp" => (k_here; lcg_look; k_dflt (refine' ListComp_H (by k_asm) (by rfl) (by decide) (by rfl) (by decide) (by rfl) ?_ (by intro _; rfl)))
  k_with "call ref" => (k_here; k_dflt (refine' c_varend _ (by k_asm) (by k_asm) (by k_asm) (by k_asm) (by k_asm) (by first | exact rfl | assumption) (by ktr_room) (by ktr_units) (by k_mem) (by assumption) (by k_mem) (by assumption) ?_); k_whole; intro _ _ _ _ _; walk_at "in 8")
  k_with "call ref" => (k_here; k_dflt (refine' c_varint _ _ _ (by assumption) (by assumption) (by k_asm) (by k_asm) (by k_asm) (by k_asm) (by k_asm) (by first | exact rfl | assumption) (by ktr_room) (by ktr_units) (by assumption) (by assumption) (by k_mem) (by assumption) (by assumption) ?_); k_whole; intro _ _ _ _; walk_at "in V")
  k_with "call ref" => (k_here; k_dflt (refine' c_signsH _ _ _ (by assumption) _ (by k_asm) (by k_asm) (by k_asm) (by k_asm) (by k_asm) (by first | exact rfl | assumption) (by ktr_room) (by ktr_units) ?_); k_whole; intro _ _ _; walk_at "in V")
  trivial
theorem c_reads (w : World) (f : Fo) (hwf : f.wf) (hlen : f.enc.length ≤ 1000000) (hdep : f.dep ≤ 4) (hoc : f.octs.length ≤ 1000000)
    {p : Program} {loose : List PySem.Str} {mean : ExcName → Option Value} {mg mb : PySem.Str → Option Value}
    {dp un : Nat} {gd : Option (List Code)} {cn : PySem.Str} {cs : Scope} {a : Addr} {ccd : Value} {A₀ : Around} {h₀ : Heap} {L : Addr} {m : PySem.Str → Option Value}
    {news : List (Addr × Obj)} {s : Shared} {Q E : Value → Shared → Prop} {tx : Nat} {trD nuD : Addr} {vt : List Value} {kt kn : Nat} {ns : List (Nat × Nat)} {nwT : List (Addr × Obj)}
    (B : Below A₀ h₀ [] h₀) (F : Fr h₀ L s.heap m) (X : (hd.heap_39 w.params).In h₀) (N : News h₀ L s.heap news) (T : Top p loose mean mg mb h₀) (hk : cs.kind = .function)
    (hd : dp + 20 < recursionLimit) (hu : un + 8 * 20 < cLine)
    (htr : (trD, W.listOf vt.toArray kt) ∈ news) (hDT : DatAll nwT vt f.dat) (hsT : ∀ p ∈ nwT, p ∈ news) (hnu : (nuD, W.listOf (iv ns).toArray kn) ∈ news) (hns : ns.map (·.1) = f.nums)
    (hret : ∀ (h' : Heap) (tk' : Nat), Fr h₀ L h' m → Q (.bool true) { s with heap := h', toks := tk' }) :
    wpAny (model PySem.Challenge.rw_ta0008_01.row.prog w) (ktrTop dp un gd cn cs L a ccd [] []) (call (.ref 127) [.str (S f.enc) tx, .ref trD, .ref nuD]) Q E s := by
  generalize hT : f.enc = TT at hlen
  refine wpAny_call ?_
  walk_at "my enter0"
  rename_i g1 L1 h1 FG F1 N1 B1 X1 T1 D1
  refine wpAny_noRaise ?_
  have F2 := Fr.bind3 F1 rfl
  clear F1
  walk_at "my begin"
  rename_i tk0 htk0
  have hI := c_opened w (f.size + 1) f (Nat.lt_succ_self _) hwf (by rw [hT]; exact hlen)
  have hxs0 : ([] : List (Nat × Nat)).length + f.octs.length ≤ 1000000 := by simpa using hoc
  walk_at "my steps"
  rename_i oD hA0 loD hA1 FA NA tkA htA
  have UA : UpdF oD (W.listOf (iv []).toArray 0) ((oD, W.listOf #[] 0) :: news) (fun o' => (oD, o') :: news) := .head (fun p hp => Nat.ne_of_lt (loD p hp))
  walk_at "my open"
  intro lT kT kY tkI hI8 vs ys nw FI NI DI eY l1 l2
  rw [List.map_nil, List.nil_append] at eY
  have hsa : ∀ p ∈ nw, p ∈ (lT, W.listOf vs.toArray kT) :: (nw ++ (oD, W.listOf (iv ys).toArray kY) :: news) := fun p hp => .tail _ (List.mem_append_left _ hp)
  have hmb : (trD, W.listOf vt.toArray kt) ∈ (lT, W.listOf vs.toArray kT) :: (nw ++ (oD, W.listOf (iv ys).toArray kY) :: news) := .tail _ (List.mem_append_right _ (.tail _ htr))
  have hsb : ∀ p ∈ nwT, p ∈ (lT, W.listOf vs.toArray kT) :: (nw ++ (oD, W.listOf (iv ys).toArray kY) :: news) := fun p hp => .tail _ (List.mem_append_right _ (.tail _ (hsT p hp)))
  have hok := kqd_all0 f 8 (by omega)
  walk1
  refine neD NI (.head _) DI hsa hmb hDT hsb hok (by ktr_units) ?_
  have N3 := News.sub NI (b := (oD, W.listOf (iv ys).toArray kY) :: news) fun p hp => .tail _ (List.mem_append_right _ hp)
  clear NI hsa hmb hsb
  have hmO : (oD, W.listOf (iv ys).toArray kY) ∈ (oD, W.listOf (iv ys).toArray kY) :: news := .head _
  have hmN : (nuD, W.listOf (iv ns).toArray kn) ∈ (oD, W.listOf (iv ys).toArray kY) :: news := .tail _ hnu
  walk_at "my steps"
  refine wpAny_For ?_
  walk_at "my steps"
  rename_i it hB0 oit lit iit hB FB NB tkB htB
  dsimp only at FB
  have hysl : ys.length ≤ 2000000 := by have := congrArg List.length eY; rw [List.length_map] at this; omega
  have hnl : (iv ns).length = f.nums.length := by rw [iv_len, ← hns, List.length_map]
  have hneo : oD ≠ it := Nat.ne_of_lt (lit _ (.head _))
  refine for_list (items := iv ns) (fun i m₁ nw' _ => ∃ o', Bnd m₁ [(PySem.Str.ofString "octets", .ref oD), (PySem.Str.ofString "left", .ref it), (PySem.Str.ofString "numbers", .ref nuD)] ∧ nw' = (it, o') :: (oD, W.listOf (iv ys).toArray kY) :: news ∧ IterO oD ((f.nums.take i).flatMap signs).length o') (by exact rfl) (by exact rfl) (by exact rfl) FB NB (News.isList NB (.tail _ hmN)) ?hst ?h0 ?turn ?done
  case hst => rintro i m₁ nw' tk₁ h₁ ⟨o', hb, rfl, hO'⟩ F5 N5; exact News.isList N5 (.tail _ hmN)
  case h0 => exact ⟨oit, ⟨rfl, rfl, rfl, trivial⟩, rfl, iit⟩
  case turn =>
    rintro i v m₁ nw' tk₁ h₁ it2 o2 hv ⟨o', hb, rfl, hO'⟩ hO hne F5 N5
    obtain ⟨n, tn, hn, rfl⟩ := iv_at hv
    have hnn : f.nums[i]? = some n := by rw [← hns, List.getElem?_map, hn]; rfl
    have hlt := Fo.nums_lt f hwf n (List.mem_of_getElem? hnn)
    obtain ⟨fo, hfo, hsg, hn64⟩ := signs_oct n hlt
    have hx : (ys.map (·.1)).drop ((f.nums.take i).flatMap signs).length = octT fo n ++ (f.nums.drop (i + 1)).flatMap signs := by
      rw [eY, Fo.octs_nums, flat_drop, drop_at hnn, List.flatMap_cons, hsg]
    have hmO2 : (oD, W.listOf (iv ys).toArray kY) ∈ (it2, o2) :: (it, o') :: (oD, W.listOf (iv ys).toArray kY) :: news := .tail _ (.tail _ (.head _))
    have hU : UpdF it o' ((it2, o2) :: (it, o') :: (oD, W.listOf (iv ys).toArray kY) :: news) (fun o => (it2, o2) :: (it, o) :: (oD, W.listOf (iv ys).toArray kY) :: news) := .tail (Ne.symm (hne (it, o') (.head _))) (.head fun p hp => Nat.ne_of_lt (lit p hp))
    have F6 := Fr.turn F5 hb rfl
    clear F5
    walk_at "my steps"
    rename_i tV hV oV tkV FZ NZ iV
    refine ⟨_, _, _, _, rfl, FZ, NZ, fun p hp => ?_, oV, ⟨rfl, rfl, rfl, trivial⟩, rfl, ?_⟩
    · rcases List.mem_cons.mp hp with rfl | hp
      · exact hne (it, o') (.head _)
      · exact hne p (.tail _ hp)
    · rw [take_succ_at hnn, List.flatMap_append, List.length_append, List.flatMap_cons, List.flatMap_nil, List.append_nil, hsg, octT_len]
      exact iV
  case done =>
    rintro m₁ nw' tk₁ h₁ ⟨o', hb, rfl, hO'⟩ F5 N5
    have F6 := Fr.nf F5 hb
    clear F5
    rw [hnl, List.take_length, ← Fo.octs_nums, ← eY, List.length_map] at hO'
    have hmO2 : (oD, W.listOf (iv ys).toArray kY) ∈ (it, o') :: (oD, W.listOf (iv ys).toArray kY) :: news := .tail _ (.head _)
    have hnw : ∀ p ∈ (oD, W.listOf (iv ys).toArray kY) :: news, p ∈ (it, o') :: (oD, W.listOf (iv ys).toArray kY) :: news ∧ p.1 ≠ it := fun p hp => ⟨.tail _ hp, Nat.ne_of_lt (lit p hp)⟩
    dsimp only
    walk_at "my steps"
    rename_i G8 h8 e8 t8 tk8 FG8 R8 U8 K8 hS gS oe T9 F9 hce N9 B9 X9 P9 tkS htkS
    clear FG8 R8 U8 K8
    have hme : (e8, oe) ∈ (e8, oe) :: (oD, W.listOf (iv ys).toArray kY) :: news := .head _
    refine ⟨nuD, iv ns, kn, _, e8, oe, rfl, rfl, hce, .head _, .tail _ (.tail _ hnu), F9, N9, by rw [hnl]; have := len_flat signs f.nums; rw [← Fo.octs_nums] at this; have h2 := nums_le f; omega, ?_⟩
    rintro s₂ ⟨hg, rfl⟩
    refine comp_ind (fun i us nw' => nw' = (e8, oe) :: (oD, W.listOf (iv ys).toArray kY) :: news ∧ ∃ qs : List (Nat × Nat), us = iv qs ∧ qs.map (·.1) = (f.nums.take i).map (fun n => (signs n).length)) _ ?turnC ?finC _ 0 _ _ (Nat.zero_add _) ⟨rfl, [], rfl, rfl⟩
    case turnC =>
      rintro i us nw' v I' oI C oC D m₂ hp tk E' hiN ⟨rfl, qs, rfl, hqs⟩ hv hC hx F7 N7 off ne
      obtain ⟨n, tn, hn, rfl⟩ := iv_at hv
      have hnn : f.nums[i]? = some n := by rw [← hns, List.getElem?_map, hn]; rfl
      have hlt := Fo.nums_lt f hwf n (List.mem_of_getElem? hnn)
      have hsl3 := signs_len n
      walk_at "my steps"
      rename_i tV hV tkV FV NV lV
      exact ⟨_, _, _, rfl, FV, NV, off, ⟨.head _, .tail _ (.tail _ hnu)⟩, rfl, qs ++ [((signs n).length, _)], iv_snoc _ _ _, by rw [List.map_append, hqs, take_succ_at hnn, List.map_append]; rfl⟩
    case finC =>
      rintro us nw' ⟨rfl, qs, rfl, hqs⟩
      rw [hnl, List.take_length] at hqs
      have hsum : ((ys.length : Nat) : Int) = (qs.map fun p => (p.1 : Int)).sum := by
        have h1 : (qs.map fun p => (p.1 : Int)) = (qs.map (·.1)).map (fun (n : Nat) => (n : Int)) := by rw [List.map_map]; rfl
        rw [h1, cast_sum, hqs, ← len_flat, ← Fo.octs_nums, ← eY, List.length_map]
      unfold LCg.FinE
      intro D hp tk F7 N7 o1
      have hme3 : (e8, oe) ∈ (D, LCg.lst (iv qs)) :: (e8, oe) :: (oD, W.listOf (iv ys).toArray kY) :: news := .tail _ (.head _)
      walk_at "my steps"
      exact hret _ _ (by assumption)
end

/-! part P5 -/
section
def cat (fs : List Fo) : Fo := fs.foldr Fo.app .nil
theorem cat_cons (f : Fo) (fs : List Fo) : cat (f :: fs) = f.app (cat fs) := rfl
theorem cat_enc : ∀ fs : List Fo, (cat fs).enc = (fs.map Fo.enc).flatten
  | [] => rfl
  | f :: r => by rw [cat_cons, Fo.enc_app, cat_enc r, List.map_cons, List.flatten_cons]
theorem cat_dat : ∀ fs : List Fo, (cat fs).dat = fs.flatMap Fo.dat
  | [] => rfl
  | f :: r => by rw [cat_cons, Fo.dat_app, cat_dat r, List.flatMap_cons]
theorem cat_nums : ∀ fs : List Fo, (cat fs).nums = fs.flatMap Fo.nums
  | [] => rfl
  | f :: r => by rw [cat_cons, Fo.nums_app, cat_nums r, List.flatMap_cons]
theorem cat_leaves : ∀ fs : List Fo, (cat fs).leaves = (fs.map Fo.leaves).sum
  | [] => rfl
  | f :: r => by rw [cat_cons, Fo.leaves_app, cat_leaves r, List.map_cons, List.sum_cons]
theorem cat_wf : ∀ {fs : List Fo}, (∀ f ∈ fs, f.wf) → (cat fs).wf
  | [], _ => trivial
  | f :: r, h => Fo.wf_app (cat_wf fun g hg => h g (.tail _ hg)) (h f (.head _))
theorem cat_ne {fs : List Fo} (h0 : fs ≠ []) (h : ∀ f ∈ fs, f ≠ .nil) : cat fs ≠ .nil := by
  cases fs with
  | nil => exact absurd rfl h0
  | cons f r => exact Fo.app_ne _ (h f (.head _))
theorem cat_dep_le {M : Nat} : ∀ {fs : List Fo}, (∀ f ∈ fs, f.dep ≤ M) → (cat fs).dep ≤ M
  | [], _ => Nat.zero_le _
  | f :: r, h => by
    rw [cat_cons, Fo.dep_app]
    exact Nat.max_le.mpr ⟨h f (.head _), cat_dep_le fun g hg => h g (.tail _ hg)⟩
theorem cat_dep_ge : ∀ {fs : List Fo} {f : Fo}, f ∈ fs → f.dep ≤ (cat fs).dep
  | g :: r, f, h => by
    rw [cat_cons, Fo.dep_app]
    rcases List.mem_cons.mp h with rfl | h
    · exact Nat.le_max_left _ _
    · exact Nat.le_trans (cat_dep_ge h) (Nat.le_max_right _ _)
theorem cat_dep_mem : ∀ {fs : List Fo}, fs ≠ [] → (cat fs).dep ∈ fs.map Fo.dep
  | [f], _ => by rw [cat_cons, Fo.dep_app]; simp [cat, Fo.dep]
  | f :: g :: r, _ => by
    have ih := cat_dep_mem (fs := g :: r) (by simp)
    rw [cat_cons, Fo.dep_app, List.map_cons]
    by_cases q : f.dep ≤ (cat (g :: r)).dep
    · rw [Nat.max_eq_right q]; exact .tail _ ih
    · rw [Nat.max_eq_left (by omega)]; exact .head _
theorem jn_nil : ∀ ls : List (List Nat), jn [] ls = ls.flatten
  | [] => rfl
  | [x] => by simp [jn]
  | x :: y :: r => by rw [jn_two, jn_nil (y :: r)]; simp
theorem Fo.leaves_pos : ∀ f : Fo, f.wf → f ≠ .nil → 1 ≤ f.leaves
  | .nil, _, h => absurd rfl h
  | .leaf n r, _, _ => by simp only [Fo.leaves]; omega
  | .box k i r, h, _ => by have := Fo.leaves_pos i h.2.2.1 h.2.1; simp only [Fo.leaves]; omega
def D1 (f : Fo) : Dat := f.dat.headD .none
structure RowS (nw : List (Addr × Obj)) (fs : List Fo) (tx : List (PySem.Str × Nat)) (vt : List Value) (dp ns : List (Nat × Nat)) (i : Nat) : Prop where
  tx : tx.map (·.1) = (fs.map Fo.enc).map S
  vt : DatAll nw vt (fs.map D1)
  one : ∀ f ∈ fs, f.dat = [D1 f]
  dp : dp.map (·.1) = fs.map Fo.dep
  ns : ns.map (·.1) = fs.flatMap Fo.nums
  ok : ∀ f ∈ fs, f.wf ∧ f ≠ .nil ∧ f.dep ≤ 4
  lv : (fs.map Fo.leaves).sum ≤ i
  ne : i ≠ 0 → fs ≠ []
theorem RowS.nil : RowS [] [] [] [] [] [] 0 := ⟨rfl, .nil, (fun _ h => nomatch h), rfl, rfl, (fun _ h => nomatch h), Nat.le_refl _, fun h => absurd rfl h⟩
theorem datMonoAll {nw nw' : List (Addr × Obj)} {vs : List Value} {ds : List Dat} (h : DatAll nw vs ds) (hs : ∀ p ∈ nw, p ∈ nw') : DatAll nw' vs ds := h.mono hs
theorem dat_flat : ∀ {fs : List Fo}, (∀ f ∈ fs, f.dat = [D1 f]) → fs.flatMap Fo.dat = fs.map D1
  | [], _ => rfl
  | f :: r, h => by rw [List.flatMap_cons, h f (.head _), List.map_cons, dat_flat fun g hg => h g (.tail _ hg)]; rfl
theorem datDrop {nw : List (Addr × Obj)} : ∀ (n : Nat) {vs : List Value} {ds : List Dat}, DatAll nw vs ds → DatAll nw (vs.drop n) (ds.drop n)
  | 0, _, _, h => h
  | _ + 1, _, _, .nil => .nil
  | n + 1, _, _, .cons _ r => datDrop n r
theorem datTake {nw : List (Addr × Obj)} : ∀ (n : Nat) {vs : List Value} {ds : List Dat}, DatAll nw vs ds → DatAll nw (vs.take n) (ds.take n)
  | 0, _, _, _ => .nil
  | _ + 1, _, _, .nil => .nil
  | n + 1, _, _, .cons a r => .cons a (datTake n r)
theorem sum_ge : ∀ {fs : List Fo}, (∀ f ∈ fs, 1 ≤ f.leaves) → fs.length ≤ (fs.map Fo.leaves).sum
  | [], _ => Nat.le_refl _
  | f :: r, h => by have h1 := h f (.head _); have h2 := sum_ge (fs := r) fun g hg => h g (.tail _ hg); simp only [List.length_cons, List.map_cons, List.sum_cons]; omega
section
variable {nw : List (Addr × Obj)} {fs : List Fo} {tx : List (PySem.Str × Nat)} {vt : List Value} {dp ns : List (Nat × Nat)} {i : Nat}
theorem RowS.len (R : RowS nw fs tx vt dp ns i) : fs.length ≤ i := Nat.le_trans (sum_ge fun f hf => Fo.leaves_pos f (R.ok f hf).1 (R.ok f hf).2.1) R.lv
theorem RowS.lens (R : RowS nw fs tx vt dp ns i) : tx.length = fs.length ∧ vt.length = fs.length ∧ dp.length = fs.length := by
  refine ⟨?_, ?_, ?_⟩
  · have := congrArg List.length R.tx; simpa using this
  · have := datLen R.vt; simpa using this
  · have := congrArg List.length R.dp; simpa using this
theorem nums_leaves : ∀ f : Fo, f.nums.length = f.leaves
  | .nil => rfl
  | .leaf n r => by simp only [Fo.nums, Fo.leaves, List.length_cons, nums_leaves r]
  | .box k i r => by simp only [Fo.nums, Fo.leaves, List.length_append, nums_leaves i, nums_leaves r]
theorem RowS.nsl (R : RowS nw fs tx vt dp ns i) : ns.length ≤ i := by
  have h1 := congrArg List.length R.ns
  rw [List.length_map, ← cat_nums, nums_leaves, cat_leaves] at h1
  rw [h1]; exact R.lv
theorem RowS.leaf (R : RowS nw fs tx vt dp ns i) {n t1 t2 t3 t4 : Nat} (hn : n < 262144) : RowS nw (fs ++ [.leaf n .nil]) (tx ++ [(S (34 :: escA (signs n) ++ [34]), t1)]) (vt ++ [.int 0 t2]) (dp ++ [(0, t3)]) (ns ++ [(n, t4)]) (i + 1) where
  tx := by rw [List.map_append, R.tx]; simp [Fo.enc]
  vt := by rw [List.map_append]; exact datApp R.vt (.cons (.int _ _) .nil)
  one := by
    intro f hf
    rcases List.mem_append.mp hf with h | h
    · exact R.one f h
    · rw [List.mem_singleton.mp h]; rfl
  dp := by rw [List.map_append, R.dp]; simp [Fo.dep]
  ns := by rw [List.map_append, R.ns]; simp [Fo.nums]
  ok := by
    intro f hf
    rcases List.mem_append.mp hf with h | h
    · exact R.ok f h
    · rw [List.mem_singleton.mp h]; exact ⟨⟨hn, trivial⟩, (by intro q; cases q), by simp [Fo.dep]⟩
  lv := by have := R.lv; simp [Fo.leaves]; omega
  ne := fun _ => by simp
theorem RowS.box (R : RowS nw fs tx vt dp ns i) {nw' : List (Addr × Obj)} (hs : ∀ p ∈ nw, p ∈ nw') {k a t1 t3 : Nat} {v : Value} (hk : k = 1 ∨ k = 2 ∨ k = 3) (ha : a < fs.length) (hdep : (cat (fs.drop a)).dep ≤ 3)
    (hv : DatIn nw' v (.list [.int (k : Int), .list ((fs.drop a).map D1)])) :
    RowS nw' (fs.take a ++ [.box k (cat (fs.drop a)) .nil]) (tx.take a ++ [(S (boxT k (cat (fs.drop a)).enc), t1)]) (vt.take a ++ [v]) (dp.take a ++ [((cat (fs.drop a)).dep + 1, t3)]) ns (i + 1) where
  tx := by rw [List.map_append, List.map_take, R.tx]; simp [Fo.enc, List.map_take]
  vt := by
    rw [List.map_append, List.map_take]
    refine datApp (datTake a (R.vt.mono hs)) (.cons ?_ .nil)
    have e : D1 (.box k (cat (fs.drop a)) .nil) = .list [.int (k : Int), .list ((fs.drop a).map D1)] := by
      show Dat.list [.int (k : Int), .list (cat (fs.drop a)).dat] = _
      rw [cat_dat, dat_flat fun f hf => R.one f (List.mem_of_mem_drop hf)]
    rw [e]; exact hv
  one := by
    intro f hf
    rcases List.mem_append.mp hf with h | h
    · exact R.one f (List.mem_of_mem_take h)
    · rw [List.mem_singleton.mp h]; rfl
  dp := by rw [List.map_append, List.map_take, R.dp]; simp [Fo.dep, List.map_take]
  ns := by
    rw [R.ns, List.flatMap_append]
    have e : [Fo.box k (cat (fs.drop a)) .nil].flatMap Fo.nums = (fs.drop a).flatMap Fo.nums := by simp [Fo.nums, cat_nums]
    rw [e, ← List.flatMap_append, List.take_append_drop]
  ok := by
    intro f hf
    rcases List.mem_append.mp hf with h | h
    · exact R.ok f (List.mem_of_mem_take h)
    · rw [List.mem_singleton.mp h]
      have hne : fs.drop a ≠ [] := by
        intro q
        have := congrArg List.length q
        rw [List.length_drop, List.length_nil] at this; omega
      refine ⟨⟨hk, cat_ne hne fun f hf => (R.ok f (List.mem_of_mem_drop hf)).2.1, cat_wf fun f hf => (R.ok f (List.mem_of_mem_drop hf)).1, trivial⟩, (by intro q; cases q), ?_⟩
      simp only [Fo.dep]; omega
  lv := by
    have h1 := R.lv
    have h2 : (fs.map Fo.leaves).sum = ((fs.take a).map Fo.leaves).sum + ((fs.drop a).map Fo.leaves).sum := by
      rw [← List.sum_append, ← List.map_append, List.take_append_drop]
    rw [List.map_append, List.sum_append]
    simp only [List.map_cons, List.map_nil, List.sum_cons, List.sum_nil, Fo.leaves, cat_leaves]
    omega
  ne := fun _ => by simp
theorem RowS.inner (R : RowS nw fs tx vt dp ns i) (hi : i ≤ 12) {a : Nat} (hdep : (cat (fs.drop a)).dep ≤ 3) : (cat (fs.drop a)).enc.length ≤ 33000 := by
  have h1 := Fo.len (cat (fs.drop a)) (cat_wf fun f hf => (R.ok f (List.mem_of_mem_drop hf)).1)
  have h2 : (cat (fs.drop a)).leaves ≤ 12 := by
    rw [cat_leaves]
    have h3 : (fs.map Fo.leaves).sum = ((fs.take a).map Fo.leaves).sum + ((fs.drop a).map Fo.leaves).sum := by
      rw [← List.sum_append, ← List.map_append, List.take_append_drop]
    have := R.lv; omega
  have h4 : 5 ^ (cat (fs.drop a)).dep ≤ 5 ^ 3 := Nat.pow_le_pow_right (by decide) hdep
  have h5 : 22 * (cat (fs.drop a)).leaves * 5 ^ (cat (fs.drop a)).dep ≤ 22 * 12 * 5 ^ 3 := Nat.mul_le_mul (Nat.mul_le_mul_left _ h2) h4
  have h6 : 22 * 12 * 5 ^ 3 = 33000 := by decide
  omega
theorem RowS.whole (R : RowS nw fs tx vt dp ns i) (hi : i ≤ 12) : (cat fs).enc.length ≤ 165000 ∧ (cat fs).dep ≤ 4 ∧ (cat fs).wf ∧ (cat fs).leaves ≤ 12 := by
  have h0 := cat_wf fun f hf => (R.ok f hf).1
  have h1 := Fo.len (cat fs) h0
  have h2 : (cat fs).leaves ≤ 12 := by rw [cat_leaves]; have := R.lv; omega
  have h3 : (cat fs).dep ≤ 4 := cat_dep_le fun f hf => (R.ok f hf).2.2
  have h4 : 5 ^ (cat fs).dep ≤ 5 ^ 4 := Nat.pow_le_pow_right (by decide) h3
  have h5 : 22 * (cat fs).leaves * 5 ^ (cat fs).dep ≤ 22 * 12 * 5 ^ 4 := Nat.mul_le_mul (Nat.mul_le_mul_left _ h2) h4
  have h6 : 22 * 12 * 5 ^ 4 = 165000 := by decide
  exact ⟨by omega, h3, h0, h2⟩
end
theorem octs_le : ∀ f : Fo, f.octs.length ≤ 3 * f.leaves
  | .nil => Nat.le_refl _
  | .leaf n r => by have := octs_le r; have := signs_len n; simp only [Fo.octs, Fo.leaves, List.length_append]; omega
  | .box k i r => by have := octs_le r; have := octs_le i; simp only [Fo.octs, Fo.leaves, List.length_append]; omega
theorem pick_lo (vs : List Value) (c : Nat) (hc : 1 ≤ c) : kms_pick vs (some (-(c : Int))) none = vs.drop (vs.length - c) := by
  unfold kms_pick kms_lo kms_hi
  have h1 : (-(c : Int)) < 0 := by omega
  have h2 : (-(-(c : Int))).toNat = c := by omega
  simp only [h1, if_true, h2]
  rw [List.take_of_length_le (by simp)]
theorem pick_hi (vs : List Value) (c : Nat) (hc : 1 ≤ c) : kms_pick vs none (some (-(c : Int))) = vs.take (vs.length - c) := by
  unfold kms_pick kms_lo kms_hi
  have h1 : (-(c : Int)) < 0 := by omega
  have h2 : (-(-(c : Int))).toNat = c := by omega
  simp only [h1, if_true, h2]
  simp
theorem pick_len (vs : List Value) (lo hi : Option Int) : (kms_pick vs lo hi).length ≤ vs.length := by
  unfold kms_pick
  rw [List.length_take, List.length_drop]
  omega
end

/-! part LawR -/
section
section
variable {prog : Program} {w : World} {A : Around} {E : Value → Shared → Prop} {s : Shared} {h₀ : Heap} {L l : Addr} {m : PySem.Str → Option Value} {news : List (Addr × Obj)} {Q : Value → Shared → Prop}
theorem maxN {vs : List Value} {qs : List (Nat × Nat)} {M : Nat} (F : Fr h₀ L s.heap m) (N : News h₀ L s.heap news) (hl : s.heap.IsList l vs.toArray) (hv : vs = iv qs) (hm : M ∈ qs.map (·.1)) (hle : ∀ a ∈ qs.map (·.1), a ≤ M) (hh : A.handled = none)
    (h : ∀ h' (t tk : Nat), Fr h₀ L h' m → News h₀ L h' news → Q (.int (M : Int) t) { s with heap := h', toks := tk }) : wpAny (model prog w) A (call (.builtin "max") [.ref l]) Q E s := by
  subst hv
  have e : (qs.map fun p => (p.1 : Int)) = (qs.map (·.1)).map (fun (n : Nat) => (n : Int)) := by rw [List.map_map]; rfl
  have hpos : 0 < (qs.map fun p => (p.1 : Int)).length := by
    cases qs with
    | nil => cases hm
    | cons a r => simp
  refine kso_max F N hl (ints_iv qs) hpos hh fun h' M' t tk F' N' hm' hle' => ?_
  rw [e] at hm' hle'
  obtain ⟨n, hn, rfl⟩ := List.mem_map.mp hm'
  have h1 := hle n hn
  have h2 := hle' (M : Int) (List.mem_map_of_mem hm)
  have : n = M := by omega
  rw [this]
  exact h h' t tk F' N'
theorem joinV {vs : List Value} {ps : List (PySem.Str × Nat)} {ls : List (List Nat)} {sep : PySem.Str} {y : List Nat} {t : Nat} (hl : s.heap.IsList l vs.toArray) (hv : vs = strValues ps) (hp : ps.map (·.1) = ls.map S) (hs : sep = S []) (hy : ls.flatten = y) (hz : y.length ≤ 1000000)
    (hq : ∀ t' k : Nat, s.toks ≤ k → Q (.str (S y) t') { s with toks := k }) : wpAny (model prog w) A (call (.builtin "str.join") [.str sep t, .ref l]) Q E s := by
  subst hv
  have e : (ls.map List.length).sum = y.length := by rw [← hy, List.length_flatten]
  refine joinS hl hp hs (by simp only [List.length_nil, Nat.mul_zero]; omega) fun t' k hk => ?_
  rw [jn_nil, hy]
  exact hq t' k hk
theorem ends3 {value slice : PySem.Expr} {k : Int} {u ta tb tc lo : Nat} (hl : s.heap.IsList l [.str (PySem.Str.ofString "\r\n") ta, .str (PySem.Str.ofString "\n") tb, .str (PySem.Str.ofString "\r") tc].toArray) (h0 : 0 ≤ k) (h3 : k < 3)
    (ha : lo < ta ∧ ta < s.toks) (hb : lo < tb ∧ tb < s.toks) (hc : lo < tc ∧ tc < s.toks)
    (h : ∀ (e : List Nat) (te : Nat), (e = [13, 10] ∨ e = [10] ∨ e = [13]) → lo < te → te < s.toks → Q (.str (S e) te) s)
    (hs : subscripted slice false (.ref l) (.int k u) = operate [.ref l, .int k u] (getItem (.ref l) (.int k u))) :
    wpAny (model prog w) A (subscriptTail value slice (.ref l) (.int k u)) Q E s := by
  have e1 : PySem.Str.ofString "\r\n" = S [13, 10] := by decide
  have e2 : PySem.Str.ofString "\n" = S [10] := by decide
  have e3 : PySem.Str.ofString "\r" = S [13] := by decide
  rw [e1, e2, e3] at hl
  obtain ⟨v, hv, hqv⟩ : ∃ v, [Value.str (S [13, 10]) ta, .str (S [10]) tb, .str (S [13]) tc][k.toNat]? = some v ∧ Q v s := by
    have h4 : k.toNat = 0 ∨ k.toNat = 1 ∨ k.toNat = 2 := by omega
    rcases h4 with q | q | q <;> rw [q]
    · exact ⟨_, rfl, h _ _ (.inl rfl) ha.1 ha.2⟩
    · exact ⟨_, rfl, h _ _ (.inr (.inl rfl)) hb.1 hb.2⟩
    · exact ⟨_, rfl, h _ _ (.inr (.inr rfl)) hc.1 hc.2⟩
  exact litem hl h0 (by omega) hv hqv hs
theorem gtI_t {a b : Int} {t u : Nat} (h : a > b) (hq : Q (.bool true) s) : wpAny (model prog w) A (compareOp .Gt (.int a t) (.int b u)) Q E s := P.gt_int (by rw [decide_eq_true h]; exact hq)
theorem gtI_f {a b : Int} {t u : Nat} (h : ¬ a > b) (hq : Q (.bool false) s) : wpAny (model prog w) A (compareOp .Gt (.int a t) (.int b u)) Q E s := P.gt_int (by rw [decide_eq_false h]; exact hq)
theorem eqI_t {a b : Int} {t u : Nat} (h : a = b) (hq : Q (.bool true) s) : wpAny (model prog w) A (compareOp .Eq (.int a t) (.int b u)) Q E s := P.eq_int (by rw [h, beq_self_eq_true]; exact hq)
theorem eqI_f {a b : Int} {t u : Nat} (h : a ≠ b) (hq : Q (.bool false) s) : wpAny (model prog w) A (compareOp .Eq (.int a t) (.int b u)) Q E s := P.eq_int (by rw [beq_eq_false_iff_ne.mpr h]; exact hq)
end
theorem c_signsX (w : World) {v : Int} {n tn : Nat} (hv : v = (n : Int)) (hn : n < 262144) : TCtr w 96 [.int v tn] 1 (fun _ => True) (signs n) := by subst hv; exact c_signs w n tn hn
theorem c_box1X (w : World) {x e : List Nat} {ye : PySem.Str} {t1 tx te : Nat} (hy : ye = S e) (hx : x.length ≤ 60000) : TCtr w 103 [.int 1 t1, .str (S x) tx, .str ye te] 2 (fun _ => True) (boxT 1 x) := by subst hy; exact c_box1 w x e t1 tx te hx
theorem c_box2X (w : World) {x e : List Nat} {ye : PySem.Str} {t1 tx te : Nat} (hy : ye = S e) (hx0 : 0 < x.length) (hx : x.length ≤ 60000) : TCtr w 103 [.int 2 t1, .str (S x) tx, .str ye te] 2 (fun _ => True) (boxT 2 x) := by subst hy; exact c_box2 w x e t1 tx te hx0 hx
theorem c_box3X (w : World) {x e : List Nat} {ye : PySem.Str} {t1 tx te : Nat} (hy : ye = S e) (hx : x.length ≤ 60000) (hte : te ≠ 0) (hc : Clean x) (he : e = [13, 10] ∨ e = [10] ∨ e = [13]) : TCtr w 103 [.int 3 t1, .str (S x) tx, .str ye te] 2 (fun s => te < s.toks) (boxT 3 x) := by subst hy; exact c_box3 w x e t1 tx te hx hte hc he
theorem c_boxKX (w : World) {v : Int} {k : Nat} {x e : List Nat} {ye : PySem.Str} {t1 tx te : Nat} (hv : v = (k : Int)) (hk : k = 1 ∨ k = 2 ∨ k = 3) (hy : ye = S e) (hx0 : 0 < x.length) (hx : x.length ≤ 60000) (hte : te ≠ 0) (hc : Clean x) (he : e = [13, 10] ∨ e = [10] ∨ e = [13]) : TCtr w 103 [.int v t1, .str (S x) tx, .str ye te] 2 (fun s => te < s.toks) (boxT k x) := by
  subst hv
  rcases hk with rfl | rfl | rfl
  · intro p loose mean mg mb dp un gd cn cs a ccd cl outer A₀ base h₀ L m news s Q E B F X N T hk hd hu hpre hret
    exact TCtr.use (c_box1X w hy hx) B F X N T hk hd hu trivial hret
  · intro p loose mean mg mb dp un gd cn cs a ccd cl outer A₀ base h₀ L m news s Q E B F X N T hk hd hu hpre hret
    exact TCtr.use (c_box2X w hy hx0 hx) B F X N T hk hd hu trivial hret
  · exact c_box3X w hy hx hte hc he
section
variable {prog : Program} {w : World} {A : Around} {E : Value → Shared → Prop}
theorem for_listQ {nm : PySem.Str} {sc : Scope} {L a : Addr} {cd : Value} {h₀ hp : Heap} {g : Array GenState} {d : Drawn} {tk : Nat} {os : OsState} {x : PySem.Str} {px : Pos} {ax : Addr} {items : List Value} {body : List Stmt} {Q : Flow → Shared → Prop}
    {m : PySem.Str → Option Value} {news : List (Addr × Obj)}
    (J : Nat → (PySem.Str → Option Value) → List (Addr × Obj) → Nat → Prop)
    (hh : A.handled = none) (hk : sc.kind = .function) (hx : (envOf nm sc L a cd).kindOf x = some .local)
    (F : Fr h₀ L hp m) (N : News h₀ L hp news) (hl : hp.IsList ax items.toArray)
    (hst : ∀ i m₁ nw tk₁ h₁, J i m₁ nw tk₁ → Fr h₀ L h₁ m₁ → News h₀ L h₁ nw → h₁.IsList ax items.toArray)
    (h0 : J 0 m news tk)
    (turn : ∀ (PP QQ : Flow → Shared → Prop) i v m₁ nw tk₁ h₁ it o, (∀ f s', FEnd h₀ L it o g d os (J (i + 1)) QQ f s' → PP f s') → items[i]? = some v → J i m₁ nw tk₁ → IterO ax (i + 1) o → (∀ p ∈ nw, p.1 ≠ it) → Fr h₀ L h₁ (fun y => if y = x then some v else m₁ y) → News h₀ L h₁ ((it, o) :: nw) →
      wpAny (model prog w) A (execs body (envOf nm sc L a cd)) PP (fun _ _ => False) ⟨h₁, g, d, tk₁ + 1, os⟩)
    (done : ∀ m₁ nw tk₁ h₁, J items.length m₁ nw tk₁ → Fr h₀ L h₁ m₁ → News h₀ L h₁ nw → Q .next ⟨h₁, g, d, tk₁, os⟩) :
    wpAny (model prog w) A (pyIter (.ref ax)) (fun itv s₂ => codeAny (model prog w) A (.forLoop (.Name x px) itv body [] (envOf nm sc L a cd)) (fun r s' => match r with | .ok f => Q f s' | .error e => cameBackBy (model prog w) A (envOf nm sc L a cd) E e s') s₂) E ⟨hp, g, d, tk, os⟩ :=
  for_list J hh hk hx F N hl hst h0 (fun i v m₁ nw tk₁ h₁ it o => turn (FEnd h₀ L it o g d os (J (i + 1)) Q) Q i v m₁ nw tk₁ h₁ it o fun _ _ q => q) done
end

/-- two addresses that differ, out of omega's sight -/
structure NN (a b : Nat) : Prop where
  out : a ≠ b
theorem NN.symm {a b : Nat} (h : NN a b) : NN b a := ⟨Ne.symm h.out⟩
theorem pz1 {vs : List Value} {lo hi : Option Int} {v : Value} (h : vs.length ≤ 16000000) : (kms_pick vs lo hi).length + [v].length ≤ 16777216 := by
  have := pick_len vs lo hi
  simp only [List.length_cons, List.length_nil]; omega
theorem ne_five {it a b c d e : Nat} {x1 x2 x3 x4 x5 : Obj} {nw : List (Addr × Obj)} (h1 : NN a it) (h2 : NN b it) (h3 : NN c it) (h4 : NN d it) (h5 : NN e it) (h : ∀ p ∈ nw, p.1 ≠ it) :
    ∀ p ∈ (a, x1) :: (b, x2) :: (c, x3) :: (d, x4) :: (e, x5) :: nw, p.1 ≠ it := by
  intro p hp
  rcases List.mem_cons.mp hp with rfl | hp
  · exact h1.out
  rcases List.mem_cons.mp hp with rfl | hp
  · exact h2.out
  rcases List.mem_cons.mp hp with rfl | hp
  · exact h3.out
  rcases List.mem_cons.mp hp with rfl | hp
  · exact h4.out
  rcases List.mem_cons.mp hp with rfl | hp
  · exact h5.out
  exact h p hp
theorem iv_zero (qs : List (Nat × Nat)) (t : Nat) : iv qs ++ [.int 0 t] = iv (qs ++ [(0, t)]) := iv_snoc qs 0 t
theorem iv_one (qs : List (Nat × Nat)) (a t : Nat) : iv qs ++ [.int ((a : Int) + 1) t] = iv (qs ++ [(a + 1, t)]) := iv_snoc qs (a + 1) t
theorem dropOne {h₀ h : Heap} {L : Addr} {d q : Addr × Obj} {r : List (Addr × Obj)} (N : News h₀ L h (d :: q :: r)) : News h₀ L h (q :: r) := fun p hp => N p (.tail _ hp)
theorem memC {l t : List (Addr × Obj)} {x : Addr × Obj} (h : x ∈ l) (ht : ∀ p ∈ t, p ∈ l) : ∀ p ∈ x :: t, p ∈ l := by
  intro p hp
  rcases List.mem_cons.mp hp with rfl | hp
  · exact h
  · exact ht p hp
end

/-! part Law -/
theorem flush_Law {M : Model} {A : Around} {env : Env} {Q : Flow → Shared → Prop} {E : Value → Shared → Prop} {s : Shared} (h : wpAny M A (execs [] env) Q E s) : wpAny M A (execs [] env) Q E s := by w_top off; k_with_none; first | (walk1; done) | exact h
section
theorem lines_Law_1 : True := by
  k_with "my steps" => repeat' (first | (k_unfold; (try dsimp only)) | ((fail_if_success (with_reducible show wpAny _ _ (exec (Stmt.While _ _ _ _) _) _ _ _)); (fail_if_success (with_reducible show wpAny _ _ (exec (Stmt.For _ _ _ _ _) _) _ _ _)); (fail_if_success (with_reducible show wpAny _ _ (pyIter _) _ _ _)); first | walk1 | (dsimp only; walk1) | (leave1; try dsimp only)))
  k_with "my enter" => k_dflt (refine' code_def (by k_asm) (by k_asm) (by k_asm) (by k_asm) (by k_asm) (by exact rfl) (by exact rfl) (by assumption) (by k_is) (by k_is) (by ktr_room) (by first | exact BindsTo.of_eq rfl | exact binds_K (by k_in) rfl (by k_is) rfl rfl rfl) (by exact locs rfl) ?_ (by exact rfl) (by exact rfl) (by exact rfl) (by decide); k_whole; intro _ _ _ _ _ _; walk_at "in enter")
  k_with "execs cons" => (k_here; (fail_if_success (fail_if_success k_gentoks)); refine gen_toks ?_; intro _; walk_at "in d")
  k_with "execs nil" => (k_here; (fail_if_success (fail_if_success k_gentoks)); refine gen_toks ?_; intro _; walk_at "in d")
  k_with "my tok" => ((try dsimp only); first | assumption | omega | (simp only [List.length_cons, List.length_nil]; omega))
  k_with "call builtin:str.replace" => (k_here; (with_reducible show wpAny _ _ (call _ [Value.str (S _) _, Value.str _ _, Value.str _ _]) _ _ _); refine' replS (by walk_at "my tok") (by walk_at "my tok") (by walk_at "my tok") (by assumption) (by assumption) (by first | decide | assumption) (by first | decide | assumption) (by walk_at "my tok") (by (simp only [List.length_cons, List.length_nil]; omega)) ?_; k_whole; intro _ _; walk_at "in d")
  trivial
theorem lines_Law_2 : True := by
  k_with "my S" => first | with_reducible assumption | with_reducible rfl | assumption
  k_with "binaryOp Add str str" => (k_here; (with_reducible show wpAny _ _ (binaryOp Operator.Add (Value.str _ _) (Value.str _ _)) _ _ _); refine' addS (by walk_at "my S") (by walk_at "my S") (by walk_at "my tok") (by ((simp only [List.length_cons, List.length_nil, List.length_append]); omega)) ?_; k_whole; intro _ _; walk_at "in d")
  k_with "call builtin:len" => (k_here; (with_reducible show wpAny _ _ (call (Value.builtin "len") [Value.str (S _) _]) _ _ _); refine lenS (by first | omega | (simp only [List.length_cons, List.length_nil, List.length_append]; omega)) ?_; (try dsimp only))
  trivial
theorem lines_Law_3 : True := by
  k_with "call builtin:str.split" => (k_here; (with_reducible show wpAny _ _ (call _ [Value.str (S _) _, Value.str _ _]) _ _ _); refine' splitS (by k_asm) (by k_asm) (by walk_at "my S") (by decide) (by decide) (by omega) ?_; k_whole; intro _ _ _ _ _ _ _; walk_at "in l")
  k_with "my lst" => first | exact News.isList (by k_asm) (by k_mem) | exact Fr.lst (by k_asm) (by k_asm) | k_asm
  k_with "my pure" => first | (intro _; with_unfolding_all rfl) | (intro _; rfl)
  k_with "subscriptTail Name Slice str ref" => (k_here; k_dflt (first
    | (refine' tsl_ns (by k_asm) (by k_asm) (by omega) (by omega) ?_ (by with_unfolding_all rfl) (by walk_at "my pure"); intro _ _ _ _ _)
    | (refine' tsl_sn (by k_asm) (by k_asm) (by omega) (by omega) ?_ (by with_unfolding_all rfl) (by walk_at "my pure"); intro _ _ _ _ _)
    | (refine' tsl_ss (by k_asm) (by k_asm) (by omega) (by omega) (by omega) ?_ (by with_unfolding_all rfl) (by walk_at "my pure"); intro _ _ _ _ _)))
  k_with "subscriptTail Name Slice ref ref" => (k_here; (with_reducible show wpAny _ _ (subscriptTail _ (PySem.Expr.Slice _ _ none _) (Value.ref _) (Value.ref _)) _ _ _); k_dflt (refine' lsl (by k_asm) (by k_asm) (by walk_at "my lst") (by kmk_part) (by kmk_part) (by first | assumption | (simp only [List.length_append, List.length_cons, List.length_nil]; omega)) ?_ (by with_unfolding_all rfl) (by walk_at "my pure")); intro _ _ _ _; walk_at "in l")
  k_with "my item0" => (k_here; k_dflt (refine' item0 (by walk_at "my lst") (by assumption) (by first | assumption | exact spl59 _ _ (by assumption)) ?_ (by with_unfolding_all rfl)); k_whole; intro _)
  k_with "subscriptTail Name Constant ref int" => walk_at "my item0"
  k_with "subscriptTail Call Attribute cons nil Constant ref int" => walk_at "my item0"
  k_with "compareOp NotIn str str" => (k_here; refine' notin_mem (by walk_at "my S") (by first | assumption | (simp only [List.mem_append, List.mem_cons, true_or, or_true]; done) | (simp; done)) ?_; k_whole)
  k_with "my add len" => first | omega | ((simp only [List.length_cons, List.length_nil, List.length_append, List.length_drop, List.length_take]); omega)
  k_with "binaryOp Add str str" => (k_here; (with_reducible show wpAny _ _ (binaryOp Operator.Add (Value.str _ _) (Value.str _ _)) _ _ _); first
    | (refine' addS (by walk_at "my S") (by walk_at "my S") (by walk_at "my tok") (by walk_at "my add len") ?_; k_whole; intro _ _; walk_at "in d")
    | (refine' addN (by walk_at "my S") (by walk_at "my S") (by walk_at "my add len") ?_; k_whole; intro _ _))
  k_with "compareOp Eq str str" => (k_here; first
    | (refine' eqS_t (by walk_at "my S") (by walk_at "my S") (by first | assumption | decide) ?_; k_whole)
    | (refine' eqS_f (by walk_at "my S") (by walk_at "my S") (by first | assumption | decide) ?_; k_whole))
  k_with "compareOp NotEq str str" => (k_here; first
    | (refine' neS_f (by walk_at "my S") (by walk_at "my S") (by first | assumption | decide) ?_; k_whole)
    | (refine' neS_t (by walk_at "my S") (by walk_at "my S") (by first | assumption | decide) ?_; k_whole))
  k_with "compareOp In str str" => (k_here; refine' in_not (by walk_at "my S") (by assumption) ?_; k_whole)
  k_with "call builtin:list.append" => (k_here; (with_reducible show wpAny _ _ (call (Value.builtin _) [Value.ref _, _]) _ _ _); refine' lappend (by k_asm) (by k_asm) (by k_upd) (by first | omega | (simp only [strValues, List.length_map]; omega) | (simp only [List.length_append, List.length_cons, List.length_nil]; omega)) ?_; k_whole; intro _ _ _)
  trivial
local macro_rules | `(tactic| walk_at "in fz") => `(tactic| ((with_reducible rename Fr _ _ _ _ => kFz); dsimp only at kFz))
theorem lines_Law_4 : True := by
  k_with "binaryOp Add ref ref" => (k_here; k_dflt (refine' ladd (by k_asm) (by k_asm) (by walk_at "my lst") (by walk_at "my lst") (by first | exact pz1 (by with_reducible assumption) | (simp only [List.length_append, List.length_cons, List.length_nil]; omega) | (simp only [List.length_append, List.length_cons, List.length_nil]; refine Nat.le_trans (Nat.add_le_add_right (pick_len _ _ _) _) ?_; omega) | (simp only [List.length_append, List.length_cons, List.length_nil]; refine Nat.le_trans (Nat.add_le_add_left (pick_len _ _ _) _) ?_; omega) | (simp only [List.length_append, List.length_cons, List.length_nil]; refine Nat.le_trans (Nat.add_le_add_right (Nat.add_le_add_left (pick_len _ _ _) _) _) ?_; omega)) ?_); intro _ _ _ _; walk_at "in l")
  k_with "call builtin:max" => (k_here; k_dflt (refine' maxN (by k_asm) (by k_asm) (by walk_at "my lst") (by assumption) (by assumption) (by assumption) (by exact rfl) ?_); k_whole; intro _ _ _ _ _; (try dsimp only))
  k_with "call builtin:str.join" => (k_here; k_dflt (refine' joinV (by walk_at "my lst") (by assumption) (by assumption) (by walk_at "my S") (by assumption) (by omega) ?_); k_whole; intro _ _; walk_at "in d")
  k_with "compareOp Eq int int" => (k_here; first | (refine' eqI_t (by assumption) ?_; k_whole) | (refine' eqI_f (by assumption) ?_; k_whole))
  k_with "compareOp Gt int int" => (k_here; first | (refine' gtI_t (by assumption) ?_; k_whole) | (refine' gtI_f (by assumption) ?_; k_whole))
  k_with "my stepsI" => repeat' (first | (k_unfold; (try dsimp only)) | ((fail_if_success (with_reducible show wpAny _ _ (exec (Stmt.While _ _ _ _) _) _ _ _)); (fail_if_success (with_reducible show wpAny _ _ (exec (Stmt.If _ _ _ _) _) _ _ _)); (fail_if_success (with_reducible show wpAny _ _ (exec (Stmt.For _ _ _ _ _) _) _ _ _)); (fail_if_success (with_reducible show wpAny _ _ (pyIter _) _ _ _)); first | walk1 | (dsimp only; walk1) | (leave1; try dsimp only)))
  k_with "call ref" => (k_here; k_dflt (refine' TCtr.use (c_signsX _ (by assumption) (by assumption)) (by k_asm) (by k_asm) (by k_asm) (by k_asm) (by k_asm) (by first | exact rfl | assumption) (by ktr_room) (by ktr_units) trivial ?_); k_whole; intro _ _ _ _ _; walk_at "in d"; (try dsimp only); (try k_fold))
  k_with "call ref" => (k_here; k_dflt (refine' TCtr.use (c_attr _ _ _ (by omega)) (by k_asm) (by k_asm) (by k_asm) (by k_asm) (by k_asm) (by first | exact rfl | assumption) (by ktr_room) (by ktr_units) trivial ?_); k_whole; intro _ _ _ _ _; walk_at "in d"; (try dsimp only); (try k_fold))
  k_with "execs cons" => (k_here; (fail_if_success (fail_if_success k_gentoks)); refine gen_toks ?_; intro _; walk_at "in d"; (try walk_at "in fz"); (try k_sweep))
  trivial
local macro_rules | `(tactic| k_ne) => `(tactic| (refine neN ?_; (try dsimp only); first | exact NN.out (by with_reducible assumption) | exact Ne.symm (NN.out (by with_reducible assumption)) | omega))
theorem lines_Law_5 : True := by
  k_with "call ref" => (k_here; k_dflt (refine' TCtr.use (c_boxKX _ (by exact rfl) (by assumption) (by exact rfl) (by assumption) (by omega) (by exact Nat.ne_of_gt (by assumption)) (by assumption) (by assumption)) (by k_asm) (by k_asm) (by k_asm) (by k_asm) (by k_asm) (by first | exact rfl | assumption) (by ktr_room) (by ktr_units) (by (dsimp only; omega)) ?_); k_whole; intro _ _ _ _ _; walk_at "in d"; (try dsimp only); (try k_fold))
  k_with "subscriptTail List cons BinOp ref int" => (k_here; k_dflt (refine' ends3 (lo := 0) (by walk_at "my lst") (by assumption) (by assumption) (by (constructor <;> ((try dsimp only); omega))) (by (constructor <;> ((try dsimp only); omega))) (by (constructor <;> ((try dsimp only); omega))) ?_ (by with_unfolding_all rfl)); k_whole; intro _ _ _ _; walk_at "in d")
  k_with "call ref" => (k_here; k_dflt (refine' c_reads _ _ (by assumption) (by assumption) (by assumption) (by assumption) (by k_asm) (by k_asm) (by k_asm) (by k_asm) (by k_asm) (by first | exact rfl | assumption) (by ktr_room) (by ktr_units) (by k_mem) (by assumption) (by assumption) (by k_mem) (by assumption) ?_); k_whole; intro _ _ _; (try dsimp only))
  trivial
theorem ints_mem : ∀ {vs : List Value} {ns : List Int}, IntsAre vs ns → ∀ v ∈ vs, ∃ (x : Int) (t : Nat), v = .int x t
  | _, _, .nil, v, h => nomatch h
  | _, _, .cons n t r, v, h => by
    rcases List.mem_cons.mp h with rfl | h
    · exact ⟨n, t, rfl⟩
    · exact ints_mem r v h
theorem pick6_len (vs : List Value) : (kms_pick vs none (some 6)).length ≤ 6 := by
  unfold kms_pick kms_lo kms_hi
  rw [List.length_take]
  have : ¬ ((6 : Int) < 0) := by decide
  simp only [this, if_false]
  have h : min (6 : Int).toNat vs.length ≤ 6 := Nat.min_le_left _ _
  omega
theorem pick_mem {vs : List Value} {lo hi : Option Int} {v : Value} (h : v ∈ kms_pick vs lo hi) : v ∈ vs := by
  unfold kms_pick at h
  exact List.mem_of_mem_drop (List.mem_of_mem_take h)
theorem mod_nat (x : Int) {k : Int} (hk : 0 < k) : ∃ n : Nat, x.fmod k = (n : Int) ∧ (n : Int) < k := by
  have h1 := Int.fmod_nonneg_of_pos x hk
  have h2 := Int.fmod_lt_of_pos x hk
  exact ⟨(x.fmod k).toNat, by omega, by omega⟩
local macro_rules | `(tactic| k_qdec) => `(tactic| decide +kernel)
theorem law_holds : PySem.Challenge.rw_ta0008_01.Holds := by
  refine hd ?_
  k_fill
  intro w s₀ s₁ mg mb G Y fa o pm cd doc dV kV ho hd hcd hD hmg hg args vals as hpre hlay hrd hwl hlo
  have KX := kIn_of Y
  k_behind G ho hd hcd hD hmg hpre hlay hrd hwl hlo cd
  all_goals try k_fold
  rename_i XM VL GL TT BT TE TW c9 c8 MB c7 c6 script hsI hly0 hly1 hra hwl2 as4 as3 lS vS as0 hLS hrd hwell hread hI hrw hc63 hctr KB hG F1 N1
  have KB2 : Below callerA s₁.heap [] s₁.heap := KB
  clear KB
  have hvl := IntsAre.length hI
  have hvS : vS.length ≤ 63 := by omega
  have hvS2 : vS.length ≤ 16777216 := by omega
  walk_at "my steps"
  refine wpAny_For ?_
  walk_at "my steps"
  rename_i lTx0 a1 a2 a3 tk1 b1 lTr0 a4 la4 a5 tk2 b2 lDp0 a6 la6 a7 tk3 b3 lNu0 a8 la8 a9 tk4 b4 lA a10 la10 lB a11 la11 lC a12 la12 lE a13 F13 N13 la13 lI hI9 F9 N9 la9
  clear F13 N13
  generalize hits : [Value.int 152 tk4, Value.int 7304 (tk4 + 1), Value.int 7 (tk4 + 1 + 1), Value.int 15 (tk4 + 1 + 1 + 1), Value.int 1 (tk4 + 1 + 1 + 1 + 1)] ++ kms_pick vS none (some 6) ++ [Value.int 6 (tk4 + 1 + 1 + 1 + 1 + 1 + 1)] = items at N9
  have hitl : items.length ≤ 12 := by
    have := pick6_len vS
    rw [← hits]; simp only [List.length_append, List.length_cons, List.length_nil]; omega
  have hitem : ∀ (i : Nat) (v : Value), items[i]? = some v → ∃ (x : Int) (t : Nat), v = .int x t ∧ (i = 0 → x = 152) := by
    intro i v hv
    by_cases q : i = 0
    · subst q
      rw [← hits] at hv
      simp only [List.cons_append, List.getElem?_cons_zero, Option.some.injEq] at hv
      exact ⟨_, _, hv.symm, fun _ => rfl⟩
    · have hm := List.mem_of_getElem? hv
      rw [← hits] at hm
      simp only [List.mem_append, List.mem_cons, List.not_mem_nil, or_false] at hm
      rcases hm with ((h | h | h | h | h) | h) | h
      iterate 5 exact ⟨_, _, h, fun z => absurd z q⟩
      · obtain ⟨x, t, e⟩ := ints_mem hI v (pick_mem h)
        exact ⟨x, t, e, fun z => absurd z q⟩
      · exact ⟨_, _, h, fun z => absurd z q⟩
  clear hits
  refine for_listQ (items := items) (fun i m₁ nwA _ => ∃ (fs : List Fo) (lTx lTr lDp lNu : Nat) (tx : List (PySem.Str × Nat)) (vt : List Value) (dp ns : List (Nat × Nat)) (k1 k2 k3 k4 : Nat) (nw : List (Addr × Obj)),
    Bnd m₁ [(PySem.Str.ofString "texts", .ref lTx), (PySem.Str.ofString "trees", .ref lTr), (PySem.Str.ofString "depths", .ref lDp), (PySem.Str.ofString "numbers", .ref lNu)] ∧
    nwA = (lTx, W.listOf (strValues tx).toArray k1) :: (lTr, W.listOf vt.toArray k2) :: (lDp, W.listOf (iv dp).toArray k3) :: (lNu, W.listOf (iv ns).toArray k4) :: (lI, W.listOf items.toArray 0) :: nw ∧
    (NN lTx lTr ∧ NN lTx lDp ∧ NN lTx lNu ∧ NN lTr lDp ∧ NN lTr lNu ∧ NN lDp lNu ∧ NN lI lTx ∧ NN lI lTr ∧ NN lI lDp ∧ NN lI lNu) ∧
    (∀ p ∈ nw, p.1 ≠ lTx) ∧ (∀ p ∈ nw, p.1 ≠ lTr) ∧ (∀ p ∈ nw, p.1 ≠ lDp) ∧ (∀ p ∈ nw, p.1 ≠ lNu) ∧ RowS nw fs tx vt dp ns i) (by exact rfl) (by exact rfl) (by exact rfl) F9 (News.sub N9 (b := (lTx0, W.listOf #[] 0) :: (lTr0, W.listOf #[] 0) :: (lDp0, W.listOf #[] 0) :: (lNu0, W.listOf #[] 0) :: (lI, W.listOf items.toArray 0) :: []) ?hsub) (News.isList N9 (.head _)) ?hst ?h0 ?turn ?done
  case hsub =>
    iterate 5 refine memC (by repeat (first | exact List.Mem.head _ | refine List.Mem.tail _ ?_)) ?_
    exact fun p hp => nomatch hp
  case hst => rintro i m₁ nwA tk₁ h₁ ⟨fs, lTx, lTr, lDp, lNu, tx, vt, dp, ns, k1, k2, k3, k4, nw, hb, rfl, hrest⟩ F5 N5; exact News.isList N5 (.tail _ (.tail _ (.tail _ (.tail _ (.head _)))))
  case h0 =>
    refine ⟨[], lTx0, lTr0, lDp0, lNu0, [], [], [], [], 0, 0, 0, 0, [], ⟨rfl, rfl, rfl, rfl, trivial⟩, rfl, ?_, fun p hp => (nomatch hp), fun p hp => (nomatch hp), fun p hp => (nomatch hp), fun p hp => (nomatch hp), RowS.nil⟩
    refine ⟨?_, ?_, ?_, ?_, ?_, ?_, ?_, ?_, ?_, ?_⟩ <;> (refine ⟨?_⟩; omega)
  case turn =>
    rintro PP QQ i v m₁ nwA tk₁ h₁ it o hPP hv ⟨fs, lTx, lTr, lDp, lNu, tx, vt, dp, ns, k1, k2, k3, k4, nw, hb, rfl, ⟨d1, d2, d3, d4, d5, d6, d7, d8, d9, d10⟩, n1, n2, n3, n4, R⟩ hO hne F5 N5
    obtain ⟨x, tv, rfl, hx0⟩ := hitem i v hv
    have hi12 : i + 1 ≤ 12 := by have := (List.getElem?_eq_some_iff.mp hv).1; omega
    obtain ⟨k, hkx, hk4⟩ := mod_nat x (show (0 : Int) < 4 by decide)
    obtain ⟨c, hcx, hc1, hc3⟩ : ∃ c : Nat, (x.fdiv 4).fmod 3 + 1 = (c : Int) ∧ 1 ≤ c ∧ c ≤ 3 := by
      obtain ⟨c, h1, h2⟩ := mod_nat (x.fdiv 4) (show (0 : Int) < 3 by decide)
      exact ⟨c + 1, by omega, by omega, by omega⟩
    obtain ⟨n, hnx, hn⟩ := mod_nat (x.fdiv 4) (show (0 : Int) < 262144 by decide)
    have hn' : n < 262144 := by omega
    obtain ⟨j, hjx, hj3⟩ := mod_nat (x.fdiv 12) (show (0 : Int) < 3 by decide)
    obtain ⟨ht1, ht2, ht3⟩ := R.lens
    have hfl := R.len
    have hz1 : (strValues tx).length ≤ 16000000 := by simp only [strValues, List.length_map]; omega
    have hz2 : vt.length ≤ 16000000 := by omega
    have hz3 : (iv dp).length ≤ 16000000 := by rw [iv_len]; omega
    have hz4 : (iv ns).length ≤ 16000000 := by have := R.nsl; rw [iv_len]; omega
    have hy1 : (strValues tx).length ≤ 16777216 := Nat.le_trans hz1 (by decide)
    have hy2 : vt.length ≤ 16777216 := Nat.le_trans hz2 (by decide)
    have hy3 : (iv dp).length ≤ 16777216 := Nat.le_trans hz3 (by decide)
    have i1 : NN lTx it := ⟨hne (lTx, _) (.head _)⟩
    have i2 : NN lTr it := ⟨hne (lTr, _) (.tail _ (.head _))⟩
    have i3 : NN lDp it := ⟨hne (lDp, _) (.tail _ (.tail _ (.head _)))⟩
    have i4 : NN lNu it := ⟨hne (lNu, _) (.tail _ (.tail _ (.tail _ (.head _))))⟩
    have i5 : NN lI it := ⟨hne (lI, _) (.tail _ (.tail _ (.tail _ (.tail _ (.head _)))))⟩
    have hnwi : ∀ p ∈ nw, p.1 ≠ it := fun p hp => hne p (.tail _ (.tail _ (.tail _ (.tail _ (.tail _ hp)))))
    have e34 : PySem.Str.ofString "\"" = S [34] := by decide
    have hsl3 := signs_len n
    have hal := escA_len (signs n)
    have F6 := Fr.turn F5 hb rfl
    clear F5
    walk_at "my stepsI"
    rename_i F7 N7
    dsimp only at F7
    rw [hcx, hkx] at F7
    by_cases hk0 : (k : Int) = 0
    · walk_at "my steps"
      rename_i hZ FZ NZ tkZ htkZ
      rw [strV_snoc, hnx, iv_snoc, iv_zero] at NZ
      refine hPP _ _ ?_; exact ⟨_, _, _, _, rfl, FZ, NZ, ne_five i1 i2 i3 i4 i5 hnwi, fs ++ [.leaf n .nil], lTx, lTr, lDp, lNu, _, _, _, _, _, _, _, _, nw, ⟨rfl, rfl, rfl, rfl, trivial⟩, rfl, ⟨d1, d2, d3, d4, d5, d6, d7, d8, d9, d10⟩, n1, n2, n3, n4, R.leaf hn'⟩
    · have hfs : fs ≠ [] := R.ne (fun q => by have := hx0 q; subst this; exact hk0 (by rw [← hkx]; decide))
      have hfp : 0 < fs.length := by cases fs with
        | nil => exact absurd rfl hfs
        | cons a r => simp
      obtain ⟨a, ha⟩ : ∃ a, a = fs.length - c := ⟨_, rfl⟩
      have hal2 : a < fs.length := by omega
      have hne0 : fs.drop a ≠ [] := by
        intro q
        have := congrArg List.length q
        rw [List.length_drop, List.length_nil] at this; omega
      have hp1 : kms_pick (strValues tx) (some (-(c : Int))) none = strValues (tx.drop a) := by
        rw [pick_lo _ _ hc1]; simp only [strValues, List.length_map, ht1, ← ha, List.map_drop]
      have hp2 : kms_pick (strValues tx) none (some (-(c : Int))) = strValues (tx.take a) := by
        rw [pick_hi _ _ hc1]; simp only [strValues, List.length_map, ht1, ← ha, List.map_take]
      have hp3 : kms_pick vt (some (-(c : Int))) none = vt.drop a := by rw [pick_lo _ _ hc1, ht2, ← ha]
      have hp4 : kms_pick vt none (some (-(c : Int))) = vt.take a := by rw [pick_hi _ _ hc1, ht2, ← ha]
      have hp5 : kms_pick (iv dp) (some (-(c : Int))) none = iv (dp.drop a) := by
        rw [pick_lo _ _ hc1]; simp only [iv, List.length_map, ht3, ← ha, List.map_drop]
      have hp6 : kms_pick (iv dp) none (some (-(c : Int))) = iv (dp.take a) := by
        rw [pick_hi _ _ hc1]; simp only [iv, List.length_map, ht3, ← ha, List.map_take]
      have hdd : (dp.drop a).map (·.1) = (fs.drop a).map Fo.dep := by rw [List.map_drop, R.dp, List.map_drop]
      have hmm : (cat (fs.drop a)).dep ∈ (dp.drop a).map (·.1) := by rw [hdd]; exact cat_dep_mem hne0
      have hle : ∀ z ∈ (dp.drop a).map (·.1), z ≤ (cat (fs.drop a)).dep := by
        rw [hdd]; intro z hz
        obtain ⟨g, hg, rfl⟩ := List.mem_map.mp hz
        exact cat_dep_ge hg
      by_cases hM : ((cat (fs.drop a)).dep : Int) > 3
      · walk_at "my steps"
        rename_i hZ FZ NZ tkZ htkZ
        rw [strV_snoc, hnx, iv_snoc, iv_zero] at NZ
        refine hPP _ _ ?_; exact ⟨_, _, _, _, rfl, FZ, dropOne NZ, ne_five i1 i2 i3 i4 i5 hnwi, fs ++ [.leaf n .nil], lTx, lTr, lDp, lNu, _, _, _, _, _, _, _, _, nw, ⟨rfl, rfl, rfl, rfl, trivial⟩, rfl, ⟨d1, d2, d3, d4, d5, d6, d7, d8, d9, d10⟩, n1, n2, n3, n4, R.leaf hn'⟩
      · have hdep : (cat (fs.drop a)).dep ≤ 3 := by omega
        have hin := R.inner (by omega) hdep
        have hyj : ((fs.drop a).map Fo.enc).flatten = (cat (fs.drop a)).enc := (cat_enc _).symm
        have htxd : (tx.drop a).map (·.1) = ((fs.drop a).map Fo.enc).map S := by rw [List.map_drop, R.tx, List.map_drop, List.map_drop]
        have e00 : PySem.Str.ofString "" = S [] := by decide
        have hk123 : k = 1 ∨ k = 2 ∨ k = 3 := by omega
        have hy0 : 0 < (cat (fs.drop a)).enc.length := Fo.enc_pos (cat_ne hne0 fun f hf => (R.ok f (List.mem_of_mem_drop hf)).2.1)
        have hcl := Fo.clean (cat (fs.drop a))
        have hj0 : (0 : Int) ≤ (x.fdiv 12).fmod 3 := by rw [hjx]; exact Int.natCast_nonneg j
        have hj1 : (x.fdiv 12).fmod 3 < 3 := by rw [hjx]; exact hj3
        walk_at "my steps"
        rename_i tRq hRq kRq hkRq l3q h3q p3q DX g6 p6 g7 tka hka DA5 gA5 pA5 DS gS pS DI gI pI DO gO pO DT gT pT gU tkb hkb Db2 gb pb Db1 gc pc hMm tMm kMm l0 gd pd DD ge pD gf FZ NZ tkz hkz
        rw [hp2, hp4, hp6, hp3, strV_snoc, iv_one] at NZ
        have a6 : AllLt DX nw := p6.2.2.2.2.2.2.2.2.2.2.2
        have a6' := AllLt.to nw a6
        have NZ2 : News s₁.heap s₁.heap.objs.size gf ((it, o) :: (DX, W.listOf (strValues (tx.take a ++ [(S (boxT k (cat (fs.drop a)).enc), tRq)])).toArray 0) :: (DT, W.listOf (vt.take a ++ [Value.ref DI]).toArray 0) :: (DD, W.listOf (iv (dp.take a ++ [((cat (fs.drop a)).dep + 1, kMm + 1)])).toArray 0) :: (lNu, W.listOf (iv ns).toArray k4) :: (lI, W.listOf items.toArray 0) ::
            (DI, W.listOf #[Value.int (k : Int) (tk₁ + 1 + 1), Value.ref DS] 0) :: (DS, W.listOf (vt.drop a).toArray 0) :: nw) := by
          refine News.sub NZ ?_
          iterate 8 refine memC (by repeat (first | exact List.Mem.head _ | refine List.Mem.tail _ ?_)) ?_
          exact fun p hp => by repeat (first | exact hp | refine List.Mem.tail _ ?_)
        clear NZ
        have q1 : @LT.lt Nat _ DX DS := by omega
        have q2 : @LT.lt Nat _ DX DI := by omega
        have q3 : @LT.lt Nat _ DX DT := by omega
        have q4 : @LT.lt Nat _ DX DD := by omega
        have q5 : @LT.lt Nat _ DS DT := by omega
        have q6 : @LT.lt Nat _ DI DT := by omega
        have q7 : @LT.lt Nat _ DS DD := by omega
        have q8 : @LT.lt Nat _ DI DD := by omega
        have q9 : @LT.lt Nat _ DT DD := by omega
        have r1 : @LT.lt Nat _ it DX := by omega
        have r2 : @LT.lt Nat _ lNu DX := by omega
        have r3 : @LT.lt Nat _ lI DX := by omega
        have r4 : @LT.lt Nat _ it DT := by omega
        have r5 : @LT.lt Nat _ it DD := by omega
        clear p3q p6 pA5 pS pI pO pT pb pc pd pD
        refine hPP _ _ ?_; refine ⟨_, _, _, _, rfl, FZ, NZ2, ne_five ⟨by omega⟩ ⟨by omega⟩ ⟨by omega⟩ i4 i5 ?_, fs.take a ++ [.box k (cat (fs.drop a)) .nil], DX, DT, DD, lNu, _, _, _, _, 0, 0, 0, k4, _, ⟨rfl, rfl, rfl, rfl, trivial⟩, rfl, ⟨⟨by omega⟩, ⟨by omega⟩, ⟨by omega⟩, ⟨by omega⟩, ⟨by omega⟩, ⟨by omega⟩, ⟨by omega⟩, ⟨by omega⟩, ⟨by omega⟩, d10⟩, ?_, ?_, ?_, ?_, ?_⟩
        · intro p hp
          rcases List.mem_cons.mp hp with rfl | hp
          · exact Nat.ne_of_gt (Nat.lt_trans r1 q2)
          rcases List.mem_cons.mp hp with rfl | hp
          · exact Nat.ne_of_gt (Nat.lt_trans r1 q1)
          exact hnwi p hp
        · intro p hp
          rcases List.mem_cons.mp hp with rfl | hp
          · exact Nat.ne_of_gt q2
          rcases List.mem_cons.mp hp with rfl | hp
          · exact Nat.ne_of_gt q1
          exact Nat.ne_of_lt (a6' p hp)
        · intro p hp
          rcases List.mem_cons.mp hp with rfl | hp
          · exact Nat.ne_of_lt q6
          rcases List.mem_cons.mp hp with rfl | hp
          · exact Nat.ne_of_lt q5
          exact Nat.ne_of_lt (Nat.lt_trans (a6' p hp) q3)
        · intro p hp
          rcases List.mem_cons.mp hp with rfl | hp
          · exact Nat.ne_of_lt q8
          rcases List.mem_cons.mp hp with rfl | hp
          · exact Nat.ne_of_lt q7
          exact Nat.ne_of_lt (Nat.lt_trans (a6' p hp) q4)
        · intro p hp
          rcases List.mem_cons.mp hp with rfl | hp
          · exact Nat.ne_of_gt (Nat.lt_trans r2 q2)
          rcases List.mem_cons.mp hp with rfl | hp
          · exact Nat.ne_of_gt (Nat.lt_trans r2 q1)
          exact n4 p hp
        · refine R.box (fun p hp => .tail _ (.tail _ hp)) hk123 hal2 hdep (.list (vs := [Value.int (k : Int) (tk₁ + 1 + 1), Value.ref DS]) (.head _) (.cons (.int _ _) (.cons (.list (.tail _ (.head _)) ?_) .nil)))
          rw [List.map_drop]
          exact datMonoAll (datDrop a R.vt) fun p hp => .tail _ (.tail _ hp)
  case done =>
    rintro m₁ nwA tk₁ h₁ ⟨fs, lTx, lTr, lDp, lNu, tx, vt, dp, ns, k1, k2, k3, k4, nw, hb, rfl, hdd, n1, n2, n3, n4, R⟩ F5 N5
    have F6 := Fr.nf F5 hb
    clear F5
    obtain ⟨w1, w2, w3, w4⟩ := R.whole hitl
    have hlen : (cat fs).enc.length ≤ 1000000 := by omega
    have hoc : (cat fs).octs.length ≤ 1000000 := by have := octs_le (cat fs); omega
    have hv0 : strValues tx = strValues tx := rfl
    have htx := R.tx
    have hyj : (fs.map Fo.enc).flatten = (cat fs).enc := (cat_enc _).symm
    have e00 : PySem.Str.ofString "" = S [] := by decide
    have hDT : DatAll nw vt (cat fs).dat := by rw [cat_dat, dat_flat R.one]; exact R.vt
    have hns : ns.map (·.1) = (cat fs).nums := by rw [cat_nums]; exact R.ns
    have hsT : ∀ p ∈ nw, p ∈ (lTx, W.listOf (strValues tx).toArray k1) :: (lTr, W.listOf vt.toArray k2) :: (lDp, W.listOf (iv dp).toArray k3) :: (lNu, W.listOf (iv ns).toArray k4) :: (lI, W.listOf items.toArray 0) :: nw := fun p hp => .tail _ (.tail _ (.tail _ (.tail _ (.tail _ hp))))
    dsimp only
    walk_at "my steps"
    kc_close
end
end Mine

set_option maxRecDepth 100000 in
set_option maxHeartbeats 8000000 in
theorem PySem.Challenge.cw_ta0008_01_holds : PySem.Challenge.rw_ta0008_01.Holds := by
  exact Mine.law_holds
