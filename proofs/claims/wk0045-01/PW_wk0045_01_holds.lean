import PyProof.Rows.All
import Wide.All
import OpenK.AllK
import Wide.FinOn
import Lean
import PySem.Challenge.RW_wk0045_01
set_option Elab.async false
set_option compiler.extract_closed false
set_option linter.all false
section
namespace Mine
noncomputable def posOf (c : Nat) : Nat := if c < 79 then c - 75 else c - 107
noncomputable def IsLet (c : Nat) : Prop := (75 ≤ c ∧ c ≤ 78) ∨ (107 ≤ c ∧ c ≤ 110)
noncomputable def upC (c : Nat) : Nat := if c < 79 then c else c - 32
noncomputable def mvStep (many : Nat) (st : List Nat × Nat) (c : Nat) : List Nat × Nat :=
  if c < 79 then (st.1 ++ st.1.map (· + 2 ^ posOf c), st.2) else (st.1 ++ st.1.map (fun r => (r + 2 ^ posOf c + many) % (2 * many)), st.2 + 2 ^ posOf c)
noncomputable def movedN (cs : List Nat) : List Nat :=
  let many := 2 ^ cs.length
  let st := cs.foldl (mvStep many) ([0], 0)
  let sets := st.1.map (· % many)
  sets.map (· ^^^ st.2) ++ sets.map (many + ·) ++ st.1.map (2 * many + ·) ++ st.1.map (fun r => 2 * many + (r + many) % (2 * many))
theorem filt_true {α : Type} (l : List α) : (l.filter fun _ => true) = l := by induction l <;> simp
theorem mv_len (many : Nat) : ∀ (cs : List Nat) (s : List Nat × Nat), (cs.foldl (mvStep many) s).1.length = s.1.length * 2 ^ cs.length
  | [], s => by simp
  | c :: cs, s => by
    rw [List.foldl_cons, mv_len many cs]
    have : (mvStep many s c).1.length = s.1.length * 2 := by unfold mvStep; split <;> simp <;> (first | lia | omega)
    rw [this, List.length_cons, Nat.pow_succ, Nat.mul_assoc, Nat.mul_comm 2]
theorem mv_flip (many : Nat) : ∀ (cs : List Nat) (s : List Nat × Nat), (∀ c ∈ cs, IsLet c) → (cs.foldl (mvStep many) s).2 ≤ s.2 + 8 * cs.length
  | [], s, _ => by simp
  | c :: cs, s, h => by
    rw [List.foldl_cons]
    refine Nat.le_trans (mv_flip many cs _ fun d hd => h d (by simp [hd])) ?_
    have h1 : (mvStep many s c).2 ≤ s.2 + 8 := by
      have hc := h c (by simp)
      have : 2 ^ posOf c ≤ 2 ^ 3 := Nat.pow_le_pow_right (by decide) (by unfold posOf; unfold IsLet at hc; split <;> (first | lia | omega))
      unfold mvStep; split <;> simp <;> (first | lia | omega)
    simp only [List.length_cons]; (first | lia | omega)
noncomputable def touch (k : Nat) (st : List Int × List Nat) (to : Nat) : List Int × List Nat :=
  if st.1.getD to 0 < 0 then (st.1.set to (k : Int), st.2 ++ [to]) else st
noncomputable def visit (moves : List (List Nat)) (k x : Nat) (st : List Int × List Nat) : List Int × List Nat := moves.foldl (fun st m => touch k st (m.getD x 0)) st
inductive Grow (moves : List (List Nat)) (k : Nat) : Nat → List Int → List Nat → List Int → List Nat → Prop
  | done {at' label row} : row.length ≤ at' → Grow moves k at' label row label row
  | step {at' x label row l' r'} : row[at']? = some x → Grow moves k (at' + 1) (visit moves k x (label, row)).1 (visit moves k x (label, row)).2 l' r' → Grow moves k at' label row l' r'
inductive Kinds (moves : List (List Nat)) (n : Nat) : Nat → List Int → List (List Nat) → Prop
  | zero : Kinds moves n 0 (List.replicate n (-1)) []
  | skip {i label rows} : Kinds moves n i label rows → ¬ label.getD i 0 < 0 → Kinds moves n (i + 1) label rows
  | take {i label rows l' r'} : Kinds moves n i label rows → label.getD i 0 < 0 → Grow moves rows.length 0 (label.set i (rows.length : Int)) [i] l' r' → Kinds moves n (i + 1) l' (rows ++ [r'])
noncomputable def cneg (l : List Int) : Nat := l.countP (· < 0)
structure Good (n N : Nat) (st : List Int × List Nat) : Prop where
  len : st.1.length = n
  lt : ∀ x ∈ st.2, x < n
  sum : cneg st.1 + st.2.length = N
theorem cneg_set {l : List Int} {i : Nat} {k : Nat} (h : i < l.length) (hn : l.getD i 0 < 0) : cneg (l.set i (k : Int)) + 1 = cneg l := by
  unfold cneg
  rw [List.countP_set h]
  have hv : l[i] < 0 := by rw [List.getD_eq_getElem?_getD, List.getElem?_eq_getElem h] at hn; simpa using hn
  have h1 : 0 < l.countP (· < 0) := List.countP_pos_iff.mpr ⟨l[i], List.getElem_mem h, by simpa using hv⟩
  simp only [hv, decide_true, if_true, show ¬ ((k : Int) < 0) by (first | lia | omega), decide_false, Bool.false_eq_true, if_false]
  (first | lia | omega)
theorem Good.touch {n N k to : Nat} {st : List Int × List Nat} (g : Good n N st) (ht : to < n) : Good n N (touch k st to) := by
  unfold Mine.touch
  split
  · rename_i h
    refine ⟨by simp [g.len], fun x hx => ?_, ?_⟩
    · rcases List.mem_append.mp hx with q | q
      · exact g.lt x q
      · rw [List.mem_singleton.mp q]; exact ht
    · have := cneg_set (k := k) (by rw [g.len]; exact ht) h
      have h2 := g.sum
      simp only [List.length_append, List.length_cons, List.length_nil]; (first | lia | omega)
  · exact g
theorem touch_at {k to i x : Nat} {st : List Int × List Nat} (h : st.2[i]? = some x) : (touch k st to).2[i]? = some x := by
  unfold touch
  split
  · show (st.2 ++ [to])[i]? = _
    rw [List.getElem?_append_left (List.getElem?_eq_some_iff.mp h).1]; exact h
  · exact h
noncomputable def MovesOK (n : Nat) (moves : List (List Nat)) : Prop := ∀ m ∈ moves, m.length = n ∧ ∀ x ∈ m, x < n
theorem MovesOK.lt {n x : Nat} {moves : List (List Nat)} {m : List Nat} (h : MovesOK n moves) (hm : m ∈ moves) (hx : x < n) : ∃ y, m[x]? = some y ∧ y < n ∧ m.getD x 0 = y := by
  have hl : x < m.length := by rw [(h m hm).1]; exact hx
  exact ⟨m[x], List.getElem?_eq_getElem hl, (h m hm).2 _ (List.getElem_mem hl), by rw [List.getD_eq_getElem?_getD, List.getElem?_eq_getElem hl]; rfl⟩
theorem Good.visits {n N k x : Nat} {moves : List (List Nat)} (h : MovesOK n moves) (hx : x < n) : ∀ {st : List Int × List Nat}, Good n N st → Good n N (visit moves k x st) := by
  unfold visit
  induction moves with
  | nil => exact fun g => g
  | cons m ms ih =>
    intro st g
    rw [List.foldl_cons]
    obtain ⟨y, hy, hlt, e⟩ := h.lt (m := m) (by simp) hx
    exact ih (fun m' hm' => h m' (by simp [hm'])) (g.touch (by rw [e]; exact hlt))
theorem visit_at {k x i z : Nat} {moves : List (List Nat)} : ∀ {st : List Int × List Nat}, st.2[i]? = some z → (visit moves k x st).2[i]? = some z := by
  unfold visit
  induction moves with
  | nil => exact fun g => g
  | cons m ms ih =>
    intro st g
    rw [List.foldl_cons]
    exact ih (touch_at g)
noncomputable def wsStep (st : List Nat × Nat) (c : Nat) : List Nat × Nat :=
  if c = 32 then (st.1, st.2 + 1)
  else
    let ct := if st.2 < st.1.length then st.1 else st.1 ++ List.replicate (st.2 - st.1.length + 1) 0
    (ct.set st.2 (ct.getD st.2 0 + 1), 0)
noncomputable def wsOf (cs : List Nat) : List Nat × Nat := cs.foldl wsStep ([], 0)
noncomputable def leadL (rows : List (List Nat)) : List Nat := rows.flatMap fun row => List.replicate (row.length - 1) 32 ++ [9]
theorem leadL_ws (rows : List (List Nat)) : ∀ c ∈ leadL rows, c = 32 ∨ c = 9 := by
  intro c hc
  unfold leadL at hc
  obtain ⟨row, _, h⟩ := List.mem_flatMap.mp hc
  rcases List.mem_append.mp h with q | q
  · exact .inl (List.eq_of_mem_replicate q)
  · exact .inr (List.mem_singleton.mp q)
noncomputable def lowC (c : Nat) : Nat := if 65 ≤ c ∧ c ≤ 90 then c + 32 else c
noncomputable abbrev Txs := List Nat
noncomputable def lowL (l : Txs) : Txs := l.map lowC
noncomputable def OkT (l : Txs) : Prop := (∀ c ∈ l, 65 ≤ c ∧ c ≤ 122) ∧ l.length ≤ 100
theorem OkT.low {l : Txs} (h : OkT l) : OkT (lowL l) := by
  refine ⟨fun c hc => ?_, by simp [lowL]; exact h.2⟩
  obtain ⟨d, hd, rfl⟩ := List.mem_map.mp hc
  have := h.1 d hd
  unfold lowC; split <;> (first | lia | omega)
end Mine
end
section
namespace Mine
noncomputable def wordK (lab : Nat → Nat) (many : Nat) (far : List (List Nat)) (k : Nat) : Nat := lab (many + (far.getD k []).headD 0 % many)
noncomputable def toldT (lab : Nat → Nat) (many : Nat) (far : List (List Nat)) (a : Nat) : List Nat := (List.range far.length).filter fun k => wordK lab many far k == a
noncomputable def srtN (p q : Nat) : List Nat := if p = q then [p] else if p < q then [p, q] else [q, p]
structure TwiceOK (lab : Nat → Nat) (many : Nat) (near far : List (List Nat)) : Prop where
  hm : 1 ≤ many ∧ many ≤ 16
  hfar : ∀ row ∈ far, ∃ d rest, row = d :: rest ∧ d < 4 * many
  hlt : ∀ i, i < 2 * many → lab i < 32
  hnear : ∀ row ∈ near, ∃ x rest, row = x :: rest ∧ x < 2 * many
  h32 : far.length ≤ 32
  n32 : near.length ≤ 32
  hup : ∀ i, 2 * many ≤ i → i < 4 * many → near.length ≤ lab i ∧ lab i < near.length + 32
  told : ∀ row ∈ near, ∀ x rest, row = x :: rest → many ≤ x → toldT lab many far (lab x) = srtN (lab (many + x) - near.length) (lab (2 * many + x) - near.length)
noncomputable def twS (lab : Nat → Nat) (many : Nat) (far : List (List Nat)) (rows : List (List Nat)) : Nat := (rows.map fun row => if many ≤ row.headD 0 then (toldT lab many far (lab (row.headD 0))).length - 1 else 0).sum
noncomputable def nearR (N : Nat) (rows : List (List Nat)) : List (List Nat) := rows.filter fun r => decide (r.headD 0 < 2 * N)
noncomputable def farR (N : Nat) (rows : List (List Nat)) : List (List Nat) := rows.filter fun r => decide (2 * N ≤ r.headD 0)
structure KF (single : Bool) (N : Nat) (label : List Int) (rows : List (List Nat)) : Prop where
  ne : ∀ row ∈ rows, row ≠ []
  rl : rows.length ≤ 64
  nl : (nearR N rows).length ≤ 32
  fl : (farR N rows).length ≤ 32
  ll : (leadL (nearR N rows)).length ≤ 900
  lf : (leadL (farR N rows)).length ≤ 900
  rz : ∀ row ∈ rows, row.length ≤ 900
  alike : (wsOf (leadL (nearR N rows)) = wsOf (leadL (farR N rows))) ↔ (single = true ∨ ((nearR N rows).map List.length).Perm ((farR N rows).map List.length))
  lab : ∃ lab : Nat → Nat, (∀ i, i < 4 * N → label[i]? = some ((lab i : Nat) : Int)) ∧ TwiceOK lab N (nearR N rows) (farR N rows) ∧ twS lab N (farR N rows) (nearR N rows) = ((nearR N rows).filter fun r => decide (r.headD 0 < N)).length
end Mine
end
section
namespace Mine
theorem nodup_len {α : Type} [DecidableEq α] : ∀ {l₁ l₂ : List α}, l₁.Nodup → (∀ x ∈ l₁, x ∈ l₂) → l₁.length ≤ l₂.length
  | [], _, _, _ => Nat.zero_le _
  | x :: l₁, l₂, hn, hs => by
    rw [List.nodup_cons] at hn
    have hx : x ∈ l₂ := hs x (by simp)
    have ih := nodup_len (l₂ := l₂.erase x) hn.2 fun y hy => (List.mem_erase_of_ne (fun e : y = x => hn.1 (e ▸ hy))).mpr (hs y (by simp [hy]))
    rw [List.length_erase_of_mem hx] at ih
    have := List.length_pos_of_mem hx
    simp only [List.length_cons]; (first | lia | omega)
theorem nodup_onto {α : Type} [DecidableEq α] {l₁ l₂ : List α} (hn : l₁.Nodup) (hs : ∀ x ∈ l₁, x ∈ l₂) (hl : l₂.length ≤ l₁.length) : ∀ z ∈ l₂, z ∈ l₁ := by
  intro z hz
  refine Classical.byContradiction fun h => ?_
  have := nodup_len (l₁ := z :: l₁) (l₂ := l₂) (List.nodup_cons.mpr ⟨h, hn⟩) fun y hy => by
    rcases List.mem_cons.mp hy with rfl | hy
    · exact hz
    · exact hs y hy
  simp only [List.length_cons] at this; (first | lia | omega)
theorem nodup_map {α β : Type} {f : α → β} : ∀ {l : List α}, l.Nodup → (∀ x ∈ l, ∀ y ∈ l, f x = f y → x = y) → (l.map f).Nodup
  | [], _, _ => List.nodup_nil
  | x :: l, hn, hi => by
    rw [List.nodup_cons] at hn
    rw [List.map_cons, List.nodup_cons]
    refine ⟨fun hm => ?_, nodup_map hn.2 fun a ha b hb => hi a (by simp [ha]) b (by simp [hb])⟩
    obtain ⟨y, hy, e⟩ := List.mem_map.mp hm
    have := hi y (by simp [hy]) x (by simp) e
    exact hn.1 (this ▸ hy)
structure Inj (n : Nat) (ms : List (List Nat)) : Prop where
  ok : MovesOK n ms
  inj : ∀ m ∈ ms, ∀ x, x < n → ∀ y, y < n → m.getD x 0 = m.getD y 0 → x = y
theorem Inj.lt {n : Nat} {ms : List (List Nat)} (h : Inj n ms) {m : List Nat} (hm : m ∈ ms) {x : Nat} (hx : x < n) : m.getD x 0 < n := by
  obtain ⟨y, _, h1, h2⟩ := h.ok.lt hm hx
  rw [h2]; exact h1
theorem Inj.onto {n : Nat} {ms : List (List Nat)} (h : Inj n ms) {m : List Nat} (hm : m ∈ ms) {R : List Nat} (hn : R.Nodup) (hlt : ∀ x ∈ R, x < n) (hc : ∀ x ∈ R, m.getD x 0 ∈ R) : ∀ z ∈ R, ∃ y ∈ R, m.getD y 0 = z := by
  intro z hz
  have := nodup_onto (l₁ := R.map fun x => m.getD x 0) (l₂ := R) (nodup_map hn fun x hx y hy => h.inj m hm x (hlt x hx) y (hlt y hy)) (fun y hy => by
    obtain ⟨x, hx, rfl⟩ := List.mem_map.mp hy; exact hc x hx) (by simp) z hz
  exact List.mem_map.mp this
noncomputable def Fixed (n : Nat) (ms : List (List Nat)) (f : Nat → Int) : Prop := ∀ m ∈ ms, ∀ x, x < n → f (m.getD x 0) = f x
structure GInv (n k i : Nat) (ms : List (List Nat)) (L0 label : List Int) (row : List Nat) : Prop where
  len : label.length = n
  lab : ∀ x, x < n → label.getD x 0 = if x ∈ row then (k : Int) else L0.getD x 0
  new : ∀ x ∈ row, x < n ∧ L0.getD x 0 < 0
  nd : row.Nodup
  hd : ∃ t, row = i :: t
  reach : ∀ f, Fixed n ms f → ∀ x ∈ row, f x = f i
theorem getD_set {l : List Int} {i x : Nat} {v : Int} (hi : i < l.length) : (l.set i v).getD x 0 = if x = i then v else l.getD x 0 := by
  rw [List.getD_eq_getElem?_getD, List.getD_eq_getElem?_getD, List.getElem?_set]
  by_cases h : i = x
  · subst h; simp [hi]
  · rw [if_neg h, if_neg (fun e => h e.symm)]
theorem GInv.touch {n k i to : Nat} {ms : List (List Nat)} {L0 : List Int} {st : List Int × List Nat} (g : GInv n k i ms L0 st.1 st.2) (ht : to < n) (hr : ∀ f, Fixed n ms f → f to = f i) :
    GInv n k i ms L0 (touch k st to).1 (touch k st to).2 ∧ 0 ≤ (touch k st to).1.getD to 0 ∧ (∀ x ∈ st.2, x ∈ (touch k st to).2) ∧ (∀ x, x < n → 0 ≤ st.1.getD x 0 → 0 ≤ (touch k st to).1.getD x 0) := by
  unfold Mine.touch
  split
  · rename_i h
    have hlt : to < st.1.length := by rw [g.len]; exact ht
    have hnr : to ∉ st.2 := fun hm => by
      have := g.lab to ht; rw [if_pos hm] at this; rw [this] at h; (first | lia | omega)
    refine ⟨⟨by simp [g.len], fun x hx => ?_, fun x hx => ?_, ?_, ?_, fun f hf x hx => ?_⟩, ?_, fun x hx => by simp [hx], fun x hx h0 => ?_⟩
    · rw [getD_set hlt]
      by_cases e : x = to
      · subst e; simp
      · rw [if_neg e, g.lab x hx]
        by_cases q : x ∈ st.2
        · rw [if_pos q, if_pos (by simp [q])]
        · rw [if_neg q, if_neg (by simp [q, e])]
    · rcases List.mem_append.mp hx with q | q
      · exact g.new x q
      · rw [List.mem_singleton.mp q]
        refine ⟨ht, ?_⟩
        have := g.lab to ht; rw [if_neg hnr] at this; rw [← this]; exact h
    · rw [List.nodup_append]
      exact ⟨g.nd, by simp, fun a ha b hb e => hnr (by rw [← List.mem_singleton.mp hb, ← e]; exact ha)⟩
    · obtain ⟨t, ht'⟩ := g.hd
      exact ⟨t ++ [to], by rw [ht']; rfl⟩
    · rcases List.mem_append.mp hx with q | q
      · exact g.reach f hf x q
      · rw [List.mem_singleton.mp q]; exact hr f hf
    · rw [getD_set hlt, if_pos rfl]; (first | lia | omega)
    · rw [getD_set hlt]; split
      · (first | lia | omega)
      · exact h0
  · rename_i h
    exact ⟨g, by (first | lia | omega), fun x hx => hx, fun x _ h0 => h0⟩
theorem GInv.visit {n k i x : Nat} {ms₀ : List (List Nat)} (hI : Inj n ms₀) {L0 : List Int} (hx : x < n) : ∀ (ms : List (List Nat)), (∀ m ∈ ms, m ∈ ms₀) → ∀ {st : List Int × List Nat}, GInv n k i ms₀ L0 st.1 st.2 → x ∈ st.2 →
    GInv n k i ms₀ L0 (visit ms k x st).1 (visit ms k x st).2 ∧ (∀ m ∈ ms, 0 ≤ (visit ms k x st).1.getD (m.getD x 0) 0) ∧ (∀ y ∈ st.2, y ∈ (visit ms k x st).2) ∧ (∀ y, y < n → 0 ≤ st.1.getD y 0 → 0 ≤ (visit ms k x st).1.getD y 0)
  | [], _, st, g, _ => ⟨g, fun _ h => (nomatch h), fun _ h => h, fun _ _ h => h⟩
  | m :: ms, hs, st, g, hxr => by
    have hm := hs m (by simp)
    have ht := hI.lt hm hx
    obtain ⟨g1, h1, s1, n1⟩ := g.touch (to := m.getD x 0) ht fun f hf => (hf m hm x hx).trans (g.reach f hf x hxr)
    obtain ⟨g2, h2, s2, n2⟩ := GInv.visit hI hx ms (fun m' hm' => hs m' (by simp [hm'])) g1 (s1 x hxr)
    have e : Mine.visit (m :: ms) k x st = Mine.visit ms k x (Mine.touch k st (m.getD x 0)) := rfl
    rw [e]
    refine ⟨g2, fun m' hm' => ?_, fun y hy => s2 y (s1 y hy), fun y hy h0 => n2 y hy (n1 y hy h0)⟩
    rcases List.mem_cons.mp hm' with rfl | hm'
    · exact n2 _ ht h1
    · exact h2 m' hm'
theorem Grow.inv {n k i : Nat} {ms : List (List Nat)} (hI : Inj n ms) {L0 : List Int} : ∀ {at' : Nat} {label : List Int} {row : List Nat} {l' : List Int} {r' : List Nat}, Grow ms k at' label row l' r' → GInv n k i ms L0 label row →
    (∀ j x, j < at' → row[j]? = some x → ∀ m ∈ ms, 0 ≤ label.getD (m.getD x 0) 0) → GInv n k i ms L0 l' r' ∧ ∀ x ∈ r', ∀ m ∈ ms, 0 ≤ l'.getD (m.getD x 0) 0 := by
  intro at' label row l' r' hg
  induction hg with
  | done h =>
    intro g hv
    refine ⟨g, fun x hx m hm => ?_⟩
    obtain ⟨j, hj, e⟩ := List.getElem_of_mem hx
    exact hv j x (by (first | lia | omega)) (by rw [List.getElem?_eq_getElem hj, e]) m hm
  | @step at' x label row l' r' hx _ ih =>
    intro g hv
    have hxr := List.mem_of_getElem? hx
    have hxn := (g.new x hxr).1
    obtain ⟨g2, h2, s2, n2⟩ := g.visit hI hxn ms (fun _ h => h) (st := (label, row)) hxr
    refine ih g2 fun j y hj hy m hm => ?_
    have hj' : j < row.length ∨ ¬ j < row.length := by (first | lia | omega)
    have hat : at' < row.length := (List.getElem?_eq_some_iff.mp hx).1
    have hjl : j < row.length := by (first | lia | omega)
    have hy' : row[j]? = some y := by
      have := visit_at (k := k) (x := x) (moves := ms) (st := (label, row)) (i := j) (z := row[j]) (by simp [hjl])
      rw [this] at hy
      rw [List.getElem?_eq_getElem hjl]; exact hy
    rcases Nat.lt_or_ge j at' with q | q
    · exact n2 _ (hI.lt hm (g.new y (List.mem_of_getElem? hy')).1) (hv j y q hy' m hm)
    · have : j = at' := by (first | lia | omega)
      subst this
      rw [hx] at hy'; cases hy'
      exact h2 m hm
structure KInv (n i : Nat) (ms : List (List Nat)) (label : List Int) (rows : List (List Nat)) : Prop where
  len : label.length = n
  row : ∀ (k : Nat) row, rows[k]? = some row → ∀ x ∈ row, x < n ∧ label.getD x 0 = (k : Int)
  lab : ∀ x, x < n → 0 ≤ label.getD x 0 → ∃ (k : Nat), ∃ row, rows[k]? = some row ∧ x ∈ row
  nd : ∀ row ∈ rows, row.Nodup
  closed : ∀ row ∈ rows, ∀ x ∈ row, ∀ m ∈ ms, m.getD x 0 ∈ row
  reach : ∀ row ∈ rows, ∀ f, Fixed n ms f → ∀ x ∈ row, f x = f (row.headD 0)
  all : ∀ x, x < i → x < n → 0 ≤ label.getD x 0
  hd : ∀ row ∈ rows, (∃ h t, row = h :: t ∧ h < i) ∧ ∀ x ∈ row, row.headD 0 ≤ x
  up : rows.Pairwise fun a b => a.headD 0 < b.headD 0
theorem Kinds.inv {n : Nat} {ms : List (List Nat)} (hI : Inj n ms) : ∀ {i : Nat} {label : List Int} {rows : List (List Nat)}, Kinds ms n i label rows → KInv n i ms label rows := by
  intro i label rows h
  induction h with
  | zero =>
    refine ⟨by simp, by simp, fun x hx h0 => ?_, by simp, by simp, by simp, fun x h => by (first | lia | omega), by simp, List.Pairwise.nil⟩
    rw [List.getD_eq_getElem?_getD, List.getElem?_replicate, if_pos hx] at h0
    exact absurd h0 (by decide)
  | @skip i label rows _ hn ih =>
    refine ⟨ih.len, ih.row, ih.lab, ih.nd, ih.closed, ih.reach, fun x hx hxn => ?_, fun row hr => ?_, ih.up⟩
    · rcases Nat.lt_or_ge x i with q | q
      · exact ih.all x q hxn
      · have : x = i := by (first | lia | omega)
        subst this; (first | lia | omega)
    · obtain ⟨⟨h, t, e, hi⟩, r⟩ := ih.hd row hr
      exact ⟨⟨h, t, e, by (first | lia | omega)⟩, r⟩
  | @take i label rows l' r' _ hlt hg ih =>
    have hin : i < n := by
      refine Classical.byContradiction fun q => ?_
      rw [List.getD_eq_getElem?_getD, List.getElem?_eq_none (by rw [ih.len]; (first | lia | omega))] at hlt
      exact absurd hlt (by decide)
    have hil : i < label.length := by rw [ih.len]; exact hin
    have g0 : GInv n rows.length i ms label (label.set i (rows.length : Int)) [i] := by
      refine ⟨by simp [ih.len], fun x hx => ?_, fun x hx => ?_, by simp, ⟨[], rfl⟩, fun f hf x hx => by rw [List.mem_singleton.mp hx]⟩
      · rw [getD_set hil]
        by_cases e : x = i <;> simp [e]
      · rw [List.mem_singleton.mp hx]; exact ⟨hin, hlt⟩
    obtain ⟨g, hv⟩ := hg.inv hI g0 fun j x hj => by (first | lia | omega)
    have hcl : ∀ x ∈ r', ∀ m ∈ ms, m.getD x 0 ∈ r' := by
      intro x hx m hm
      have hxn := (g.new x hx).1
      have hmx := hI.lt hm hxn
      refine Classical.byContradiction fun hno => ?_
      have h0 := hv x hx m hm
      rw [g.lab _ hmx, if_neg hno] at h0
      obtain ⟨k, R, hk, hR⟩ := ih.lab _ hmx h0
      have hRm := List.mem_of_getElem? hk
      obtain ⟨y, hy, e⟩ := hI.onto hm (ih.nd R hRm) (fun z hz => (ih.row k R hk z hz).1) (fun z hz => ih.closed R hRm z hz m hm) _ hR
      have hyx := hI.inj m hm y (ih.row k R hk y hy).1 x hxn e
      subst hyx
      have h1 := (ih.row k R hk y hy).2
      have h2 := (g.new y hx).2
      (first | lia | omega)
    have old : ∀ (k : Nat) row, rows[k]? = some row → ∀ x ∈ row, x ∉ r' := fun k row hk x hx hr => by
      have h1 := (ih.row k row hk x hx).2
      have h2 := (g.new x hr).2
      (first | lia | omega)
    obtain ⟨t, ht⟩ := g.hd
    have hmin : ∀ x ∈ r', i ≤ x := fun x hx => by
      refine Classical.byContradiction fun q => ?_
      have h1 := ih.all x (by (first | lia | omega)) (g.new x hx).1
      have h2 := (g.new x hx).2
      (first | lia | omega)
    refine ⟨g.len, fun k row hk x hx => ?_, fun x hx h0 => ?_, fun row hr => ?_, fun row hr => ?_, fun row hr => ?_, fun x hx hxn => ?_, fun row hr => ?_, ?_⟩
    · rcases Nat.lt_or_ge k rows.length with q | q
      · rw [List.getElem?_append_left q] at hk
        have h1 := ih.row k row hk x hx
        refine ⟨h1.1, ?_⟩
        rw [g.lab x h1.1, if_neg (old k row hk x hx)]; exact h1.2
      · rw [List.getElem?_append_right q] at hk
        have hk0 : k - rows.length = 0 := by
          have := (List.getElem?_eq_some_iff.mp hk).1; simp at this; (first | lia | omega)
        rw [hk0] at hk; simp at hk; subst hk
        have h1 := (g.new x hx).1
        refine ⟨h1, ?_⟩
        rw [g.lab x h1, if_pos hx]; congr 1; (first | lia | omega)
    · rw [g.lab x hx] at h0
      by_cases q : x ∈ r'
      · exact ⟨rows.length, r', by simp, q⟩
      · rw [if_neg q] at h0
        obtain ⟨k, row, hk, hr⟩ := ih.lab x hx h0
        exact ⟨k, row, by rw [List.getElem?_append_left (List.getElem?_eq_some_iff.mp hk).1]; exact hk, hr⟩
    · rcases List.mem_append.mp hr with q | q
      · exact ih.nd row q
      · rw [List.mem_singleton.mp q]; exact g.nd
    · rcases List.mem_append.mp hr with q | q
      · exact ih.closed row q
      · rw [List.mem_singleton.mp q]; exact hcl
    · rcases List.mem_append.mp hr with q | q
      · exact ih.reach row q
      · rw [List.mem_singleton.mp q]
        intro f hf x hx
        rw [g.reach f hf x hx, ht]; rfl
    · rw [g.lab x hxn]
      by_cases q : x ∈ r'
      · rw [if_pos q]; (first | lia | omega)
      · rw [if_neg q]
        rcases Nat.lt_or_ge x i with p | p
        · exact ih.all x p hxn
        · have : x = i := by (first | lia | omega)
          subst this
          exact absurd (by rw [ht]; simp) q
    · rcases List.mem_append.mp hr with q | q
      · obtain ⟨⟨h, t, e, hi⟩, r⟩ := ih.hd row q
        exact ⟨⟨h, t, e, by (first | lia | omega)⟩, r⟩
      · rw [List.mem_singleton.mp q]
        refine ⟨⟨i, t, ht, by (first | lia | omega)⟩, fun x hx => ?_⟩
        rw [ht]; exact hmin x hx
    · rw [List.pairwise_append]
      refine ⟨ih.up, by simp, fun a ha b hb => ?_⟩
      rw [List.mem_singleton.mp hb, ht]
      obtain ⟨⟨h, t, e, hi⟩, _⟩ := ih.hd a ha
      rw [e]; exact hi
end Mine
end
section
namespace Mine
noncomputable def Sm {α : Type} (l : List α) (f : α → Int) : Int := (l.map f).sum
section
variable {α β : Type} {l : List α} {f g : α → Int}
theorem Sm.nil : Sm ([] : List α) f = 0 := rfl
theorem Sm.cons {a : α} : Sm (a :: l) f = f a + Sm l f := by simp [Sm]
theorem Sm.append {l' : List α} : Sm (l ++ l') f = Sm l f + Sm l' f := by simp [Sm, List.sum_append]
theorem Sm.congr (h : ∀ a ∈ l, f a = g a) : Sm l f = Sm l g := by unfold Sm; rw [List.map_congr_left h]
theorem Sm.perm {l' : List α} (h : l.Perm l') : Sm l f = Sm l' f := by
  induction h with
  | nil => rfl
  | cons a _ ih => rw [Sm.cons, Sm.cons, ih]
  | swap a b l => simp only [Sm.cons]; (first | lia | omega)
  | trans _ _ i1 i2 => exact i1.trans i2
theorem Sm.add : Sm l (fun a => f a + g a) = Sm l f + Sm l g := by
  induction l with
  | nil => rfl
  | cons a l ih => simp only [Sm.cons, ih]; (first | lia | omega)
theorem Sm.sub : Sm l (fun a => f a - g a) = Sm l f - Sm l g := by
  induction l with
  | nil => rfl
  | cons a l ih => simp only [Sm.cons, ih]; (first | lia | omega)
theorem Sm.mulL {c : Int} : Sm l (fun a => c * f a) = c * Sm l f := by
  induction l with
  | nil => simp [Sm]
  | cons a l ih => simp only [Sm.cons, ih, Int.mul_add]
theorem Sm.mulR {c : Int} : Sm l (fun a => f a * c) = Sm l f * c := by
  induction l with
  | nil => simp [Sm]
  | cons a l ih => simp only [Sm.cons, ih, Int.add_mul]
theorem Sm.zero : Sm l (fun _ => (0 : Int)) = 0 := by
  induction l with
  | nil => rfl
  | cons a l ih => rw [Sm.cons, ih]; rfl
theorem Sm.const {c : Int} : Sm l (fun _ => c) = c * l.length := by
  induction l with
  | nil => simp [Sm]
  | cons a l ih => rw [Sm.cons, ih, List.length_cons]; push_cast; rw [Int.mul_add, Int.mul_one]; (first | lia | omega)
theorem Sm.comm {l' : List β} {h : α → β → Int} : Sm l (fun a => Sm l' fun b => h a b) = Sm l' fun b => Sm l fun a => h a b := by
  induction l with
  | nil => simp only [Sm.nil]; exact Sm.zero.symm
  | cons a l ih => simp only [Sm.cons, ih, Sm.add]
theorem Sm.flatten {ls : List (List α)} : Sm ls.flatten f = Sm ls fun r => Sm r f := by
  induction ls with
  | nil => rfl
  | cons r ls ih => rw [List.flatten_cons, Sm.append, Sm.cons, ih]
theorem Sm.map {h : β → α} {l' : List β} : Sm (l'.map h) f = Sm l' fun b => f (h b) := by simp [Sm, List.map_map, Function.comp_def]
theorem Sm.one {a : Nat} {c : Int} : ∀ {l : List Nat}, l.Nodup → Sm l (fun y => if a = y then c else 0) = if a ∈ l then c else 0
  | [], _ => by simp [Sm]
  | x :: l, hn => by
    rw [List.nodup_cons] at hn
    rw [Sm.cons, Sm.one hn.2]
    by_cases e : a = x
    · subst e; simp [hn.1]
    · simp [e]
theorem Sm.one' {a : Nat} {c : Int} {l : List Nat} (hn : l.Nodup) : Sm l (fun y => if y = a then c else 0) = if a ∈ l then c else 0 := by
  rw [← Sm.one hn]
  refine Sm.congr fun y _ => ?_
  by_cases e : y = a
  · subst e; simp
  · rw [if_neg e, if_neg (fun q => e q.symm)]
theorem Sm.filter {p : α → Bool} : Sm (l.filter p) f = Sm l fun a => if p a = true then f a else 0 := by
  induction l with
  | nil => rfl
  | cons a l ih =>
    rw [List.filter_cons, Sm.cons]
    split
    · rw [Sm.cons, ih]
    · rw [ih]; (first | lia | omega)
end
section
variable {n : Nat} {ms : List (List Nat)} {label : List Int} {rows : List (List Nat)}
theorem flat_nodup {α : Type} : ∀ {ls : List (List α)}, (∀ r ∈ ls, r.Nodup) → ls.Pairwise (fun a b => ∀ x ∈ a, x ∉ b) → ls.flatten.Nodup
  | [], _, _ => List.nodup_nil
  | r :: ls, h, hp => by
    rw [List.pairwise_cons] at hp
    rw [List.flatten_cons, List.nodup_append]
    refine ⟨h r (by simp), flat_nodup (fun s hs => h s (by simp [hs])) hp.2, fun a ha b hb e => ?_⟩
    obtain ⟨s, hs, hbs⟩ := List.mem_flatten.mp hb
    exact hp.1 s hs a ha (e ▸ hbs)
theorem KInv.disj {i : Nat} (K : KInv n i ms label rows) : rows.Pairwise fun a b => ∀ x ∈ a, x ∉ b := by
  rw [List.pairwise_iff_getElem]
  intro i j hi hj hij x hx hx'
  have h1 := (K.row i rows[i] (by rw [List.getElem?_eq_getElem hi]) x hx).2
  have h2 := (K.row j rows[j] (by rw [List.getElem?_eq_getElem hj]) x hx').2
  (first | lia | omega)
theorem KInv.mem_lt {i : Nat} (K : KInv n i ms label rows) {row : List Nat} (hr : row ∈ rows) {x : Nat} (hx : x ∈ row) : x < n := by
  obtain ⟨k, hk, e⟩ := List.getElem_of_mem hr
  exact (K.row k row (by rw [List.getElem?_eq_getElem hk, e]) x hx).1
theorem KInv.head_mem {i : Nat} (K : KInv n i ms label rows) {row : List Nat} (hr : row ∈ rows) : row.headD 0 ∈ row := by
  obtain ⟨⟨h, t, e, _⟩, _⟩ := K.hd row hr
  rw [e]; simp
theorem KInv.perm (K : KInv n n ms label rows) (f : Nat → Int) (hf : Fixed n ms f) (v : Int → Bool) : ((rows.filter fun r => v (f (r.headD 0))).flatten).Perm ((List.range n).filter fun x => v (f x)) := by
  refine (List.perm_ext_iff_of_nodup ?_ ?_).mpr fun x => ?_
  · exact flat_nodup (fun r hr => K.nd r (List.mem_filter.mp hr).1) (K.disj.filter _)
  · exact List.nodup_range.filter _
  · constructor
    · intro h
      obtain ⟨r, hr, hx⟩ := List.mem_flatten.mp h
      obtain ⟨hr1, hr2⟩ := List.mem_filter.mp hr
      refine List.mem_filter.mpr ⟨List.mem_range.mpr (K.mem_lt hr1 hx), ?_⟩
      rw [K.reach r hr1 f hf x hx]; exact hr2
    · intro h
      obtain ⟨hx, hv⟩ := List.mem_filter.mp h
      have hxn := List.mem_range.mp hx
      obtain ⟨k, row, hk, hr⟩ := K.lab x hxn (K.all x hxn hxn)
      have hrm := List.mem_of_getElem? hk
      refine List.mem_flatten.mpr ⟨row, List.mem_filter.mpr ⟨hrm, ?_⟩, hr⟩
      rw [← K.reach row hrm f hf x hr]; exact hv
theorem row_perm (hI : Inj n ms) {R : List Nat} (hn : R.Nodup) (hlt : ∀ x ∈ R, x < n) {m : List Nat} (hm : m ∈ ms) (hc : ∀ x ∈ R, m.getD x 0 ∈ R) : (R.map fun x => m.getD x 0).Perm R := by
  refine (List.perm_ext_iff_of_nodup (nodup_map hn fun x hx y hy => hI.inj m hm x (hlt x hx) y (hlt y hy)) hn).mpr fun z => ⟨fun h => ?_, fun h => ?_⟩
  · obtain ⟨x, hx, rfl⟩ := List.mem_map.mp h; exact hc x hx
  · obtain ⟨y, hy, e⟩ := hI.onto hm hn hlt hc z h
    exact List.mem_map.mpr ⟨y, hy, e⟩
end
structure Ker (N : Nat) (ms : List (List Nat)) (H : Nat → Nat → Int) (neg : Nat → Nat) : Prop where
  I : Inj (4 * N) ms
  st : ∀ m ∈ ms, ∀ x, x < N → m.getD x 0 < N
  se : ∀ m ∈ ms, ∀ x, N ≤ x → x < 2 * N → N ≤ m.getD x 0 ∧ m.getD x 0 < 2 * N
  si : ∀ m ∈ ms, ∀ x, 2 * N ≤ x → x < 4 * N → 2 * N ≤ m.getD x 0
  inv : ∀ m ∈ ms, ∀ x, x < N → ∀ y, 2 * N ≤ y → y < 4 * N → H (m.getD x 0) (m.getD y 0) = H x y
  ng : ∀ y, 2 * N ≤ y → y < 4 * N → 2 * N ≤ neg y ∧ neg y < 4 * N ∧ neg (neg y) = y
  ngm : ∀ m ∈ ms, ∀ y, 2 * N ≤ y → y < 4 * N → m.getD (neg y) 0 = neg (m.getD y 0)
  o1 : ∀ x, x < N → ∀ z, z < N → Sm ((List.range (4 * N)).filter fun y => decide (2 * N ≤ y)) (fun y => H x y * H z y) = if x = z then 2 * (N : Int) else 0
  o2 : ∀ y, 2 * N ≤ y → y < 4 * N → ∀ z, 2 * N ≤ z → z < 4 * N → Sm ((List.range (4 * N)).filter fun x => decide (x < N)) (fun x => H x y * H x z) = (if y = z then (N : Int) else 0) - if neg y = z then (N : Int) else 0
section
variable {N : Nat} {ms : List (List Nat)} {H : Nat → Nat → Int} {neg : Nat → Nat} {label : List Int} {rows : List (List Nat)}
noncomputable def blk (N : Nat) (x : Nat) : Int := if x < N then 0 else if x < 2 * N then 1 else 2
theorem Ker.blk (k : Ker N ms H neg) : Fixed (4 * N) ms (blk N) := by
  intro m hm x hx
  unfold Mine.blk
  by_cases h1 : x < N
  · rw [if_pos h1, if_pos (k.st m hm x h1)]
  · by_cases h2 : x < 2 * N
    · have := k.se m hm x (by (first | lia | omega)) h2
      rw [if_neg h1, if_pos h2, if_neg (by (first | lia | omega)), if_pos this.2]
    · have := k.si m hm x (by (first | lia | omega)) hx
      rw [if_neg h1, if_neg h2, if_neg (by (first | lia | omega)), if_neg (by (first | lia | omega))]
theorem KInv.inSt (k : Ker N ms H neg) (K : KInv (4 * N) (4 * N) ms label rows) {row : List Nat} (hr : row ∈ rows) (hh : row.headD 0 < N) : ∀ x ∈ row, x < N := by
  intro x hx
  have := K.reach row hr _ k.blk x hx
  unfold blk at this
  rw [if_pos hh] at this
  refine Classical.byContradiction fun q => ?_
  rw [if_neg q] at this
  split at this <;> (first | lia | omega)
theorem KInv.inSi (k : Ker N ms H neg) (K : KInv (4 * N) (4 * N) ms label rows) {row : List Nat} (hr : row ∈ rows) (hh : 2 * N ≤ row.headD 0) : ∀ x ∈ row, 2 * N ≤ x := by
  intro x hx
  have := K.reach row hr _ k.blk x hx
  unfold blk at this
  rw [if_neg (show ¬ row.headD 0 < N by (first | lia | omega)), if_neg (show ¬ row.headD 0 < 2 * N by (first | lia | omega))] at this
  refine Classical.byContradiction fun q => ?_
  split at this
  · (first | lia | omega)
  · rw [if_pos (by (first | lia | omega))] at this; (first | lia | omega)
theorem KInv.inSe (k : Ker N ms H neg) (K : KInv (4 * N) (4 * N) ms label rows) {row : List Nat} (hr : row ∈ rows) (hh : N ≤ row.headD 0) (hh2 : row.headD 0 < 2 * N) : ∀ x ∈ row, N ≤ x ∧ x < 2 * N := by
  intro x hx
  have := K.reach row hr _ k.blk x hx
  unfold blk at this
  rw [if_neg (show ¬ row.headD 0 < N by (first | lia | omega)), if_pos hh2] at this
  refine Classical.byContradiction fun q => ?_
  split at this
  · (first | lia | omega)
  · split at this <;> (first | lia | omega)
theorem constB (k : Ker N ms H neg) (K : KInv (4 * N) (4 * N) ms label rows) {O T : List Nat} (hO : O ∈ rows) (h1 : O.headD 0 < N) (hT : T ∈ rows) (h2 : 2 * N ≤ T.headD 0) : ∀ y ∈ T, Sm O (fun x => H x y) = Sm O (fun x => H x (T.headD 0)) := by
  intro y hy
  have hf : Fixed (4 * N) ms (fun y => if 2 * N ≤ y then Sm O (fun x => H x y) else 0) := by
    intro m hm y hy
    dsimp only
    by_cases q : 2 * N ≤ y
    · have q' := k.si m hm y q hy
      rw [if_pos q, if_pos q']
      have hp := row_perm k.I (K.nd O hO) (fun x hx => K.mem_lt hO hx) hm (fun x hx => K.closed O hO x hx m hm)
      rw [← Sm.perm hp, Sm.map]
      exact Sm.congr fun x hx => k.inv m hm x (K.inSt k hO h1 x hx) y q hy
    · have q' : ¬ 2 * N ≤ m.getD y 0 := by
        have e := k.blk m hm y hy
        unfold blk at e
        intro p
        rw [if_neg (show ¬ m.getD y 0 < N by (first | lia | omega)), if_neg (show ¬ m.getD y 0 < 2 * N by (first | lia | omega))] at e
        split at e
        · (first | lia | omega)
        · rw [if_pos (by (first | lia | omega))] at e; (first | lia | omega)
      rw [if_neg q, if_neg q']
  have := K.reach T hT _ hf y hy
  rw [if_pos (K.inSi k hT h2 y hy), if_pos h2] at this
  exact this
theorem constA (k : Ker N ms H neg) (K : KInv (4 * N) (4 * N) ms label rows) {O T : List Nat} (hO : O ∈ rows) (h1 : O.headD 0 < N) (hT : T ∈ rows) (h2 : 2 * N ≤ T.headD 0) : ∀ x ∈ O, Sm T (fun y => H x y) = Sm T (fun y => H (O.headD 0) y) := by
  intro x hx
  have hf : Fixed (4 * N) ms (fun x => if x < N then Sm T (fun y => H x y) else 0) := by
    intro m hm x hx
    dsimp only
    by_cases q : x < N
    · have q' := k.st m hm x q
      rw [if_pos q, if_pos q']
      have hp := row_perm k.I (K.nd T hT) (fun x hx => K.mem_lt hT hx) hm (fun x hx => K.closed T hT x hx m hm)
      rw [← Sm.perm hp, Sm.map]
      exact Sm.congr fun y hy => k.inv m hm x q y (K.inSi k hT h2 y hy) (K.mem_lt hT hy)
    · have q' : ¬ m.getD x 0 < N := by
        have e := k.blk m hm x hx
        unfold blk at e
        intro p
        rw [if_pos p, if_neg q] at e
        split at e <;> (first | lia | omega)
      rw [if_neg q, if_neg q']
  have := K.reach O hO _ hf x hx
  rw [if_pos (K.inSt k hO h1 x hx), if_pos h1] at this
  exact this
theorem filt_st (k : Ker N ms H neg) (K : KInv (4 * N) (4 * N) ms label rows) : ((rows.filter fun r => decide (r.headD 0 < N)).flatten).Perm ((List.range (4 * N)).filter fun x => decide (x < N)) := by
  have h := K.perm _ k.blk fun b => decide (b = 0)
  have e : ∀ x, decide (blk N x = 0) = decide (x < N) := fun x => by
    unfold blk
    by_cases q : x < N
    · simp [q]
    · rw [if_neg q]; split <;> simp [q]
  simpa only [e] using h
theorem filt_si (k : Ker N ms H neg) (K : KInv (4 * N) (4 * N) ms label rows) : ((rows.filter fun r => decide (2 * N ≤ r.headD 0)).flatten).Perm ((List.range (4 * N)).filter fun x => decide (2 * N ≤ x)) := by
  have h := K.perm _ k.blk fun b => decide (b = 2)
  have e : ∀ x, decide (blk N x = 2) = decide (2 * N ≤ x) := fun x => by
    unfold blk
    by_cases q : x < N
    · rw [if_pos q]; simp; (first | lia | omega)
    · rw [if_neg q]
      by_cases p : x < 2 * N
      · rw [if_pos p]; simp; (first | lia | omega)
      · rw [if_neg p]; simp; (first | lia | omega)
  simpa only [e] using h
theorem double (k : Ker N ms H neg) (hN : 0 < N) (K : KInv (4 * N) (4 * N) ms label rows) :
    2 * ((rows.filter fun r => decide (r.headD 0 < N)).length : Int) = Sm (rows.filter fun r => decide (2 * N ≤ r.headD 0)) fun T => if neg (T.headD 0) ∈ T then 0 else 1 := by
  have hst : ∀ O, O ∈ (rows.filter fun r => decide (r.headD 0 < N)) → O ∈ rows ∧ O.headD 0 < N := fun O h => by
    have := List.mem_filter.mp h; exact ⟨this.1, by simpa using this.2⟩
  have hsi : ∀ T, T ∈ (rows.filter fun r => decide (2 * N ≤ r.headD 0)) → T ∈ rows ∧ 2 * N ≤ T.headD 0 := fun O h => by
    have := List.mem_filter.mp h; exact ⟨this.1, by simpa using this.2⟩
  have pst := filt_st k K
  have psi := filt_si k K
  generalize (rows.filter fun r => decide (r.headD 0 < N)) = st at hst pst ⊢
  generalize (rows.filter fun r => decide (2 * N ≤ r.headD 0)) = fa at hsi psi ⊢
  have z1 : Sm st (fun O => Sm fa fun T => Sm T (fun y => H (O.headD 0) y) * Sm O (fun x => H x (T.headD 0))) = 2 * (N : Int) * st.length := by
    rw [← Sm.const]
    refine Sm.congr fun O hO => ?_
    obtain ⟨hO1, hO2⟩ := hst O hO
    have e1 : Sm fa (fun T => Sm T (fun y => H (O.headD 0) y) * Sm O (fun x => H x (T.headD 0))) = Sm fa fun T => Sm T fun y => H (O.headD 0) y * Sm O (fun x => H x y) := by
      refine Sm.congr fun T hT => ?_
      obtain ⟨hT1, hT2⟩ := hsi T hT
      rw [← Sm.mulR]
      exact Sm.congr fun y hy => by rw [constB k K hO1 hO2 hT1 hT2 y hy]
    rw [e1, ← Sm.flatten, Sm.perm psi]
    have e2 : Sm ((List.range (4 * N)).filter fun x => decide (2 * N ≤ x)) (fun y => H (O.headD 0) y * Sm O (fun x => H x y)) = Sm ((List.range (4 * N)).filter fun x => decide (2 * N ≤ x)) (fun y => Sm O fun x => H (O.headD 0) y * H x y) := Sm.congr fun y _ => by rw [Sm.mulL]
    rw [e2, Sm.comm]
    have e3 : Sm O (fun x => Sm ((List.range (4 * N)).filter fun x => decide (2 * N ≤ x)) fun y => H (O.headD 0) y * H x y) = Sm O fun x => if O.headD 0 = x then 2 * (N : Int) else 0 :=
      Sm.congr fun x hx => k.o1 _ hO2 _ (K.inSt k hO1 hO2 x hx)
    rw [e3, Sm.one (K.nd O hO1), if_pos (K.head_mem hO1)]
  have z2 : Sm st (fun O => Sm fa fun T => Sm T (fun y => H (O.headD 0) y) * Sm O (fun x => H x (T.headD 0))) = (N : Int) * Sm fa fun T => if neg (T.headD 0) ∈ T then 0 else 1 := by
    rw [Sm.comm, ← Sm.mulL]
    refine Sm.congr fun T hT => ?_
    obtain ⟨hT1, hT2⟩ := hsi T hT
    have hT4 := K.mem_lt hT1 (K.head_mem hT1)
    have e1 : Sm st (fun O => Sm T (fun y => H (O.headD 0) y) * Sm O (fun x => H x (T.headD 0))) = Sm st fun O => Sm O fun x => Sm T (fun y => H x y) * H x (T.headD 0) := by
      refine Sm.congr fun O hO => ?_
      obtain ⟨hO1, hO2⟩ := hst O hO
      rw [← Sm.mulL]
      exact Sm.congr fun x hx => by rw [constA k K hO1 hO2 hT1 hT2 x hx]
    rw [e1, ← Sm.flatten, Sm.perm pst]
    have e2 : Sm ((List.range (4 * N)).filter fun x => decide (x < N)) (fun x => Sm T (fun y => H x y) * H x (T.headD 0)) = Sm ((List.range (4 * N)).filter fun x => decide (x < N)) (fun x => Sm T fun y => H x y * H x (T.headD 0)) := Sm.congr fun x _ => by rw [Sm.mulR]
    rw [e2, Sm.comm]
    have e3 : Sm T (fun y => Sm ((List.range (4 * N)).filter fun x => decide (x < N)) fun x => H x y * H x (T.headD 0)) = Sm T fun y => (if y = T.headD 0 then (N : Int) else 0) - if y = neg (T.headD 0) then (N : Int) else 0 := by
      refine Sm.congr fun y hy => ?_
      have hy2 := K.inSi k hT1 hT2 y hy
      have hy4 := K.mem_lt hT1 hy
      rw [k.o2 y hy2 hy4 _ hT2 hT4]
      have a1 := (k.ng y hy2 hy4).2.2
      have a2 := (k.ng _ hT2 hT4).2.2
      by_cases q : neg y = T.headD 0
      · rw [if_pos q, if_pos (show y = neg (T.headD 0) by rw [← q, a1])]
      · rw [if_neg q, if_neg (show ¬ y = neg (T.headD 0) by intro e; exact q (by rw [e, a2]))]
    rw [e3, Sm.sub, Sm.one' (K.nd T hT1), Sm.one' (K.nd T hT1), if_pos (K.head_mem hT1)]
    split <;> (first | lia | omega)
  rw [z1] at z2
  have hN' : (N : Int) ≠ 0 := by (first | lia | omega)
  have : (N : Int) * (2 * (st.length : Int)) = (N : Int) * Sm fa fun T => if neg (T.headD 0) ∈ T then 0 else 1 := by
    rw [← z2, ← Int.mul_assoc, Int.mul_comm (N : Int) 2]
  exact Int.eq_of_mul_eq_mul_left hN' this
end
end Mine
end
section
namespace Mine
noncomputable def negN (N y : Nat) : Nat := if y < 3 * N then y + N else y - N
noncomputable def Und (N : Nat) (ms : List (List Nat)) : Prop := ∀ m ∈ ms, ∀ y, 2 * N ≤ y → y < 4 * N → m.getD (N + y % N) 0 = N + (m.getD y 0) % N
theorem mod_up {N y : Nat} (hN : 0 < N) (h1 : 2 * N ≤ y) (h2 : y < 4 * N) : (y < 3 * N ∧ y % N = y - 2 * N) ∨ (3 * N ≤ y ∧ y % N = y - 3 * N) := by
  by_cases q : y < 3 * N
  · left; refine ⟨q, ?_⟩
    have e : y = (y - 2 * N) + N * 2 := by (first | lia | omega)
    conv => lhs; rw [e]
    rw [Nat.add_mul_mod_self_left, Nat.mod_eq_of_lt (by (first | lia | omega))]
  · right; refine ⟨by (first | lia | omega), ?_⟩
    have e : y = (y - 3 * N) + N * 3 := by (first | lia | omega)
    conv => lhs; rw [e]
    rw [Nat.add_mul_mod_self_left, Nat.mod_eq_of_lt (by (first | lia | omega))]
theorem split_rows {t : Nat} : ∀ {rows : List (List Nat)}, (rows.Pairwise fun a b => a.headD 0 < b.headD 0) → rows = (rows.filter fun r => decide (r.headD 0 < t)) ++ rows.filter fun r => decide (t ≤ r.headD 0)
  | [], _ => rfl
  | r :: rows, h => by
    rw [List.pairwise_cons] at h
    have ih := split_rows (t := t) h.2
    by_cases q : r.headD 0 < t
    · rw [List.filter_cons, if_pos (by simpa using q), List.filter_cons, if_neg (by rw [decide_eq_true_eq]; (first | lia | omega)), List.cons_append, ← ih]
    · have e1 : (rows.filter fun r => decide (r.headD 0 < t)) = [] := List.filter_eq_nil_iff.mpr fun a ha => by have := h.1 a ha; rw [decide_eq_true_eq]; (first | lia | omega)
      rw [e1, List.nil_append] at ih
      rw [List.filter_cons, if_neg (by simpa using q), List.filter_cons, if_pos (by rw [decide_eq_true_eq]; (first | lia | omega)), e1, List.nil_append, ← ih]
section
variable {N : Nat} {ms : List (List Nat)} {H : Nat → Nat → Int} {label : List Int} {rows : List (List Nat)}
noncomputable def labN (label : List Int) (x : Nat) : Nat := (label.getD x 0).toNat
theorem lab_at {n : Nat} (K : KInv n n ms label rows) {x : Nat} (hx : x < n) : label[x]? = some ((labN label x : Nat) : Int) ∧ ∃ row, rows[labN label x]? = some row ∧ x ∈ row := by
  have h0 := K.all x hx hx
  obtain ⟨k, row, hk, hr⟩ := K.lab x hx h0
  have h1 := (K.row k row hk x hr).2
  have h2 : labN label x = k := by unfold labN; rw [h1]; simp
  refine ⟨?_, row, by rw [h2]; exact hk, hr⟩
  rw [h2]
  rw [List.getD_eq_getElem?_getD] at h1
  have hl : x < label.length := by rw [K.len]; exact hx
  rw [List.getElem?_eq_getElem hl] at h1 ⊢
  simpa using h1
theorem lab_row {n : Nat} (K : KInv n n ms label rows) {k : Nat} {row : List Nat} (hk : rows[k]? = some row) {x : Nat} (hx : x ∈ row) : labN label x = k := by
  have := (K.row k row hk x hx).2
  unfold labN; rw [this]; simp
theorem lab_same {n : Nat} (K : KInv n n ms label rows) {row : List Nat} (hr : row ∈ rows) {x y : Nat} (hx : x ∈ row) (hy : y ∈ row) : labN label x = labN label y := by
  obtain ⟨k, hk, e⟩ := List.getElem_of_mem hr
  have hk' : rows[k]? = some row := by rw [List.getElem?_eq_getElem hk, e]
  rw [lab_row K hk' hx, lab_row K hk' hy]
theorem lab_fix {n : Nat} (hI : Inj n ms) (K : KInv n n ms label rows) {m : List Nat} (hm : m ∈ ms) {x : Nat} (hx : x < n) : labN label (m.getD x 0) = labN label x := by
  obtain ⟨_, row, hk, hr⟩ := lab_at K hx
  have hrm := List.mem_of_getElem? hk
  exact lab_same K hrm (K.closed row hrm x hr m hm) hr
theorem same_row {n : Nat} (K : KInv n n ms label rows) {x y : Nat} (hx : x < n) (hy : y < n) (h : labN label x = labN label y) : ∃ row ∈ rows, x ∈ row ∧ y ∈ row := by
  obtain ⟨_, r1, h1, m1⟩ := lab_at K hx
  obtain ⟨_, r2, h2, m2⟩ := lab_at K hy
  rw [h, h2] at h1
  have e : r2 = r1 := Option.some.inj h1
  subst e
  exact ⟨_, List.mem_of_getElem? h2, m1, m2⟩
theorem near_at (K : KInv (4 * N) (4 * N) ms label rows) : rows = nearR N rows ++ farR N rows := split_rows K.up
theorem lab_near (k : Ker N ms H (negN N)) (K : KInv (4 * N) (4 * N) ms label rows) {x : Nat} (hx : x < 2 * N) : labN label x < (nearR N rows).length := by
  obtain ⟨_, row, hk, hr⟩ := lab_at K (show x < 4 * N by (first | lia | omega))
  have hrm := List.mem_of_getElem? hk
  have hh : row.headD 0 < 2 * N := by
    refine Classical.byContradiction fun q => ?_
    have := K.inSi k hrm (by (first | lia | omega)) x hr
    (first | lia | omega)
  refine Classical.byContradiction fun q => ?_
  rw [near_at K, List.getElem?_append_right (by (first | lia | omega))] at hk
  have := List.mem_of_getElem? hk
  have := of_decide_eq_true (List.mem_filter.mp this).2
  (first | lia | omega)
theorem lab_far (k : Ker N ms H (negN N)) (K : KInv (4 * N) (4 * N) ms label rows) {x : Nat} (h2 : 2 * N ≤ x) (hx : x < 4 * N) : (nearR N rows).length ≤ labN label x ∧ labN label x < (nearR N rows).length + (farR N rows).length ∧ ∃ row, (farR N rows)[labN label x - (nearR N rows).length]? = some row ∧ x ∈ row := by
  obtain ⟨_, row, hk, hr⟩ := lab_at K hx
  have hrm := List.mem_of_getElem? hk
  have hh : ¬ row.headD 0 < 2 * N := by
    intro q
    have hb := K.reach row hrm _ k.blk x hr
    unfold blk at hb
    rw [if_neg (show ¬ x < N by (first | lia | omega)), if_neg (show ¬ x < 2 * N by (first | lia | omega))] at hb
    split at hb <;> (try split at hb) <;> (first | lia | omega)
  have hge : (nearR N rows).length ≤ labN label x := by
    refine Classical.byContradiction fun q => ?_
    rw [near_at K, List.getElem?_append_left (by (first | lia | omega))] at hk
    have := List.mem_of_getElem? hk
    have := of_decide_eq_true (List.mem_filter.mp this).2
    (first | lia | omega)
  have hlt := (List.getElem?_eq_some_iff.mp hk).1
  have e := congrArg List.length (near_at (N := N) K)
  rw [List.length_append] at e
  refine ⟨hge, by (first | lia | omega), row, ?_, hr⟩
  rw [near_at K, List.getElem?_append_right hge] at hk
  exact hk
theorem far_row (K : KInv (4 * N) (4 * N) ms label rows) {j : Nat} {row : List Nat} (hj : (farR N rows)[j]? = some row) : rows[(nearR N rows).length + j]? = some row ∧ row ∈ rows ∧ 2 * N ≤ row.headD 0 := by
  have hm := List.mem_filter.mp (List.mem_of_getElem? hj)
  refine ⟨?_, hm.1, by simpa using hm.2⟩
  have e : (nearR N rows ++ farR N rows)[(nearR N rows).length + j]? = some row := by
    rw [List.getElem?_append_right (by (first | lia | omega))]
    have : (nearR N rows).length + j - (nearR N rows).length = j := by (first | lia | omega)
    rw [this]; exact hj
  exact (congrArg (fun l => l[(nearR N rows).length + j]?) (near_at (N := N) K)).trans e
theorem len_le {l : List (List Nat)} (h : ∀ r ∈ l, r ≠ []) : l.length ≤ l.flatten.length := by
  induction l with
  | nil => simp
  | cons r l ih =>
    have h1 := ih fun r hr => h r (by simp [hr])
    have h2 : 1 ≤ r.length := Nat.pos_of_ne_zero fun e => h r (by simp) (List.length_eq_zero_iff.mp e)
    simp only [List.length_cons, List.flatten_cons, List.length_append]; (first | lia | omega)
theorem KInv.ne {n : Nat} (K : KInv n n ms label rows) : ∀ row ∈ rows, row ≠ [] := fun row hr e => by
  obtain ⟨⟨h, t, e', _⟩, _⟩ := K.hd row hr
  rw [e] at e'; cases e'
theorem cnt_lt (a n : Nat) : ((List.range n).filter fun x => decide (x < a)).length ≤ a := by
  have : ((List.range n).filter fun x => decide (x < a)).length ≤ (List.range a).length := nodup_len (List.nodup_range.filter _) fun x hx => List.mem_range.mpr (by simpa using (List.mem_filter.mp hx).2)
  simpa using this
theorem cnt_ge (a n : Nat) : ((List.range n).filter fun x => decide (a ≤ x)).length ≤ n - a := by
  have : ((List.range n).filter fun x => decide (a ≤ x)).length ≤ (List.range' a (n - a)).length := nodup_len (List.nodup_range.filter _) fun x hx => by
    have h := List.mem_filter.mp hx
    have h1 := List.mem_range.mp h.1
    have h2 : a ≤ x := by simpa using h.2
    exact List.mem_range'_1.mpr ⟨h2, by (first | lia | omega)⟩
  simpa using this
theorem near_flat (k : Ker N ms H (negN N)) (K : KInv (4 * N) (4 * N) ms label rows) : ((nearR N rows).flatten).Perm ((List.range (4 * N)).filter fun x => decide (x < 2 * N)) := by
  have h := K.perm _ k.blk fun b => decide (b < 2)
  have e : ∀ x, decide (blk N x < 2) = decide (x < 2 * N) := fun x => by
    unfold blk
    by_cases q : x < N
    · rw [if_pos q]; simp; (first | lia | omega)
    · rw [if_neg q]
      by_cases p : x < 2 * N
      · rw [if_pos p]; simp [p]
      · rw [if_neg p]; simp [p]
  simp only [e] at h
  exact h
theorem near_len (k : Ker N ms H (negN N)) (K : KInv (4 * N) (4 * N) ms label rows) : (nearR N rows).length ≤ 2 * N ∧ (nearR N rows).flatten.length ≤ 2 * N := by
  have h1 := (near_flat k K).length_eq
  have h2 := cnt_lt (2 * N) (4 * N)
  have h3 := len_le (l := nearR N rows) fun r hr => K.ne r (List.mem_filter.mp hr).1
  (first | lia | omega)
theorem far_len (k : Ker N ms H (negN N)) (K : KInv (4 * N) (4 * N) ms label rows) : (farR N rows).length ≤ 2 * N ∧ (farR N rows).flatten.length ≤ 2 * N := by
  have h1 := (filt_si k K).length_eq
  have h2 := cnt_ge (2 * N) (4 * N)
  have h3 := len_le (l := farR N rows) fun r hr => K.ne r (List.mem_filter.mp hr).1
  unfold farR at h3 ⊢
  (first | lia | omega)
theorem und_fix (k : Ker N ms H (negN N)) (hN : 0 < N) (hu : Und N ms) (K : KInv (4 * N) (4 * N) ms label rows) : Fixed (4 * N) ms fun y => if 2 * N ≤ y then (labN label (N + y % N) : Int) else -1 := by
  intro m hm y hy
  dsimp only
  by_cases q : 2 * N ≤ y
  · have q' := k.si m hm y q hy
    rw [if_pos q, if_pos q', ← hu m hm y q hy, lab_fix k.I K hm (by have := Nat.mod_lt y hN; (first | lia | omega))]
  · have q' : ¬ 2 * N ≤ m.getD y 0 := by
      have e := k.blk m hm y hy
      unfold blk at e
      intro p
      rw [if_neg (show ¬ m.getD y 0 < N by (first | lia | omega)), if_neg (show ¬ m.getD y 0 < 2 * N by (first | lia | omega))] at e
      split at e
      · (first | lia | omega)
      · rw [if_pos (by (first | lia | omega))] at e; (first | lia | omega)
    rw [if_neg q, if_neg q']
theorem neg_fix (k : Ker N ms H (negN N)) (K : KInv (4 * N) (4 * N) ms label rows) : Fixed (4 * N) ms fun y => if 2 * N ≤ y then (if labN label (negN N y) = labN label y then 1 else 0) else -1 := by
  intro m hm y hy
  dsimp only
  by_cases q : 2 * N ≤ y
  · have q' := k.si m hm y q hy
    have hg := k.ng y q hy
    rw [if_pos q, if_pos q', ← k.ngm m hm y q hy, lab_fix k.I K hm hg.2.1, lab_fix k.I K hm hy]
  · have q' : ¬ 2 * N ≤ m.getD y 0 := by
      have e := k.blk m hm y hy
      unfold blk at e
      intro p
      rw [if_neg (show ¬ m.getD y 0 < N by (first | lia | omega)), if_neg (show ¬ m.getD y 0 < 2 * N by (first | lia | omega))] at e
      split at e
      · (first | lia | omega)
      · rw [if_pos (by (first | lia | omega))] at e; (first | lia | omega)
    rw [if_neg q, if_neg q']
theorem over_fix (k : Ker N ms H (negN N)) (hN : 0 < N) (hu : Und N ms) (K : KInv (4 * N) (4 * N) ms label rows) (c : Nat) : Fixed (4 * N) ms fun z => if N ≤ z ∧ z < 2 * N then (if labN label (N + z) = c ∨ labN label (2 * N + z) = c then 1 else 0) else -1 := by
  intro m hm z hz
  dsimp only
  by_cases q : N ≤ z ∧ z < 2 * N
  · have q' := k.se m hm z q.1 q.2
    rw [if_pos q, if_pos q']
    have hy1 : 2 * N ≤ N + z := by (first | lia | omega)
    have hy2 : N + z < 4 * N := by (first | lia | omega)
    have e1 : N + (N + z) % N = z := by
      rcases mod_up hN hy1 hy2 with ⟨_, e⟩ | ⟨h, _⟩ <;> (first | lia | omega)
    have h1 := hu m hm (N + z) hy1 hy2
    rw [e1] at h1
    have hs := k.si m hm (N + z) hy1 hy2
    have hs2 := k.I.lt hm hy2
    have en : negN N (N + z) = 2 * N + z := by unfold negN; rw [if_pos (by (first | lia | omega))]; (first | lia | omega)
    have h2 := k.ngm m hm (N + z) hy1 hy2
    rw [en] at h2
    have l1 := lab_fix k.I K hm hy2
    have l2 := lab_fix k.I K hm (show 2 * N + z < 4 * N by (first | lia | omega))
    rw [h2] at l2
    have hw : (m.getD (N + z) 0 = N + m.getD z 0 ∧ negN N (m.getD (N + z) 0) = 2 * N + m.getD z 0) ∨ (m.getD (N + z) 0 = 2 * N + m.getD z 0 ∧ negN N (m.getD (N + z) 0) = N + m.getD z 0) := by
      unfold negN
      rcases mod_up hN hs hs2 with ⟨g, e⟩ | ⟨g, e⟩
      · left; rw [if_pos g]; (first | lia | omega)
      · right; rw [if_neg (by (first | lia | omega))]; (first | lia | omega)
    rcases hw with ⟨a, b⟩ | ⟨a, b⟩
    · rw [a] at l1; rw [b] at l2; rw [l1, l2]
    · rw [a] at l1; rw [b] at l2; rw [l1, l2]
      by_cases c1 : labN label (N + z) = c <;> by_cases c2 : labN label (2 * N + z) = c <;> simp [c1, c2]
  · have q' : ¬ (N ≤ m.getD z 0 ∧ m.getD z 0 < 2 * N) := by
      have e := k.blk m hm z hz
      unfold blk at e
      intro p
      rw [if_neg (show ¬ m.getD z 0 < N by (first | lia | omega)), if_pos p.2] at e
      split at e
      · (first | lia | omega)
      · split at e <;> (first | lia | omega)
    rw [if_neg q, if_neg q']
end
end Mine
end
section
namespace Mine
section
variable {N : Nat} {ms : List (List Nat)} {H : Nat → Nat → Int} {label : List Int} {rows : List (List Nat)}
theorem up_eq {a b : List Nat} (ha : a.Pairwise (· < ·)) (hb : b.Pairwise (· < ·)) (h : ∀ x, x ∈ a ↔ x ∈ b) : a = b := by
  have p : a.Perm b := (List.perm_ext_iff_of_nodup (ha.imp fun h => Nat.ne_of_lt h) (hb.imp fun h => Nat.ne_of_lt h)).mpr h
  exact p.eq_of_pairwise (fun _ _ _ _ p q => absurd q (Nat.not_lt.mpr (Nat.le_of_lt p))) ha hb
theorem word_val (k : Ker N ms H (negN N)) (hN : 0 < N) (hu : Und N ms) (K : KInv (4 * N) (4 * N) ms label rows) {j : Nat} {T : List Nat} (hj : (farR N rows)[j]? = some T) {y : Nat} (hy : y ∈ T) : wordK (labN label) N (farR N rows) j = labN label (N + y % N) := by
  obtain ⟨h1, h2, h3⟩ := far_row K hj
  have hr := K.reach T h2 _ (und_fix k hN hu K) y hy
  rw [if_pos (K.inSi k h2 h3 y hy), if_pos h3] at hr
  unfold wordK
  rw [List.getD_eq_getElem?_getD, hj]
  show labN label (N + T.headD 0 % N) = _
  (first | lia | omega)
theorem ar1 {A B n j p : Nat} (e : A = B) (hl : B = n + j) (hp : A - n = p) : j = p := by (first | lia | omega)
theorem ar2 {N t r z : Nat} (hz : N + r = z) (e : r = t - 2 * N) (h : 2 * N ≤ t) : N + z = t := by (first | lia | omega)
theorem ar3 {N t r z : Nat} (hz : N + r = z) (e : r = t - 3 * N) (h : 3 * N ≤ t) : 2 * N + z = t := by (first | lia | omega)
theorem ar4 {A B n p q : Nat} (a : n ≤ A) (b : n ≤ B) (hp : A - n = p) (hq : B - n = q) (e : p = q) : B = A := by (first | lia | omega)
theorem ar5 {A B n p q : Nat} (hp : A - n = p) (hq : B - n = q) (e : ¬ p = q) : ¬ B = A := fun h => e (by rw [← hp, ← hq, h])
theorem told_ok (k : Ker N ms H (negN N)) (hN : 0 < N) (hu : Und N ms) (K : KInv (4 * N) (4 * N) ms label rows) {x : Nat} (hx : N ≤ x) (hx2 : x < 2 * N) :
    toldT (labN label) N (farR N rows) (labN label x) = srtN (labN label (N + x) - (nearR N rows).length) (labN label (2 * N + x) - (nearR N rows).length) := by
  obtain ⟨a1, a2, Tp, hTp, mTp⟩ := lab_far k K (x := N + x) (by (first | lia | omega)) (by (first | lia | omega))
  obtain ⟨b1, b2, Tq, hTq, mTq⟩ := lab_far k K (x := 2 * N + x) (by (first | lia | omega)) (by (first | lia | omega))
  obtain ⟨p, hp⟩ : ∃ p, labN label (N + x) - (nearR N rows).length = p := ⟨_, rfl⟩
  obtain ⟨q, hq⟩ : ∃ q, labN label (2 * N + x) - (nearR N rows).length = q := ⟨_, rfl⟩
  rw [hp] at hTp ⊢
  rw [hq] at hTq ⊢
  have e1 : N + (N + x) % N = x := by rcases mod_up hN (show 2 * N ≤ N + x by (first | lia | omega)) (show N + x < 4 * N by (first | lia | omega)) with ⟨_, e⟩ | ⟨h, _⟩ <;> (first | lia | omega)
  have e2 : N + (2 * N + x) % N = x := by rcases mod_up hN (show 2 * N ≤ 2 * N + x by (first | lia | omega)) (show 2 * N + x < 4 * N by (first | lia | omega)) with ⟨h, _⟩ | ⟨_, e⟩ <;> (first | lia | omega)
  have wp := word_val k hN hu K hTp mTp
  have wq := word_val k hN hu K hTq mTq
  rw [e1] at wp
  rw [e2] at wq
  have lp : p < (farR N rows).length := (List.getElem?_eq_some_iff.mp hTp).1
  have lq : q < (farR N rows).length := (List.getElem?_eq_some_iff.mp hTq).1
  have mem : ∀ j, j ∈ toldT (labN label) N (farR N rows) (labN label x) ↔ (j = p ∨ j = q) := by
    intro j
    unfold toldT
    rw [List.mem_filter, List.mem_range, beq_iff_eq]
    constructor
    · rintro ⟨hj, hw⟩
      obtain ⟨T, hT⟩ : ∃ T, (farR N rows)[j]? = some T := ⟨_, List.getElem?_eq_getElem hj⟩
      obtain ⟨h1, h2, h3⟩ := far_row K hT
      have hh := K.head_mem h2
      have hh4 := K.mem_lt h2 hh
      rw [word_val k hN hu K hT hh] at hw
      obtain ⟨z, hz⟩ : ∃ z, N + T.headD 0 % N = z := ⟨_, rfl⟩
      have hml := Nat.mod_lt (T.headD 0) hN
      rw [hz] at hw
      obtain ⟨row, hr, mz, mx⟩ := same_row K (show z < 4 * N by (first | lia | omega)) (show x < 4 * N by (first | lia | omega)) hw
      have ov := over_fix k hN hu K (labN label (T.headD 0))
      have r1 := K.reach row hr _ ov z mz
      have r2 := K.reach row hr _ ov x mx
      rw [← r2] at r1
      rw [if_pos (show N ≤ z ∧ z < 2 * N by (first | lia | omega)), if_pos (show N ≤ x ∧ x < 2 * N from ⟨hx, hx2⟩)] at r1
      have hz1 : labN label (N + z) = labN label (T.headD 0) ∨ labN label (2 * N + z) = labN label (T.headD 0) := by
        rcases mod_up hN h3 hh4 with ⟨g, e⟩ | ⟨g, e⟩
        · left; rw [show N + z = T.headD 0 from ar2 hz e h3]
        · right; rw [show 2 * N + z = T.headD 0 from ar3 hz e g]
      rw [if_pos hz1] at r1
      have hl : labN label (T.headD 0) = (nearR N rows).length + j := lab_row K h1 hh
      have hor : labN label (N + x) = labN label (T.headD 0) ∨ labN label (2 * N + x) = labN label (T.headD 0) := by
        refine Classical.byContradiction fun no => ?_
        rw [if_neg no] at r1; exact absurd r1 (by decide)
      rcases hor with e | e
      · left; exact ar1 e hl hp
      · right; exact ar1 e hl hq
    · rintro (rfl | rfl)
      · exact ⟨lp, wp⟩
      · exact ⟨lq, wq⟩
  refine up_eq ?_ ?_ fun j => ?_
  · unfold toldT; exact List.pairwise_lt_range.filter _
  · unfold srtN
    by_cases e : p = q
    · rw [if_pos e]; simp
    · rw [if_neg e]; split <;> simp <;> (first | lia | omega)
  · rw [mem j]
    unfold srtN
    by_cases e : p = q
    · rw [if_pos e]; simp; (first | lia | omega)
    · rw [if_neg e]; split <;> simp <;> (first | lia | omega)
theorem u_val (k : Ker N ms H (negN N)) (K : KInv (4 * N) (4 * N) ms label rows) {T : List Nat} (hT : T ∈ rows) (h2 : 2 * N ≤ T.headD 0) {y : Nat} (hy : y ∈ T) : (if negN N (T.headD 0) ∈ T then (0 : Int) else 1) = if labN label (negN N y) = labN label y then 0 else 1 := by
  have hh := K.head_mem hT
  have hh4 := K.mem_lt hT hh
  have hg := k.ng _ h2 hh4
  have r := K.reach T hT _ (neg_fix k K) y hy
  rw [if_pos (K.inSi k hT h2 y hy), if_pos h2] at r
  have e : negN N (T.headD 0) ∈ T ↔ labN label (negN N (T.headD 0)) = labN label (T.headD 0) := by
    constructor
    · intro hm; exact lab_same K hT hm hh
    · intro he
      obtain ⟨row, hr, m1, m2⟩ := same_row K hg.2.1 hh4 he
      obtain ⟨i, hi, ei⟩ := List.getElem_of_mem hr
      obtain ⟨j, hj, ej⟩ := List.getElem_of_mem hT
      have li := lab_row K (show rows[i]? = some row by rw [List.getElem?_eq_getElem hi, ei]) m2
      have lj := lab_row K (show rows[j]? = some T by rw [List.getElem?_eq_getElem hj, ej]) hh
      have : i = j := by (first | lia | omega)
      subst this
      have eT : row = T := ei.symm.trans ej
      rw [eT] at m1; exact m1
  by_cases a : labN label (negN N (T.headD 0)) = labN label (T.headD 0)
  · rw [if_pos a] at r
    rw [if_pos (e.mpr a)]
    by_cases b : labN label (negN N y) = labN label y
    · rw [if_pos b]
    · rw [if_neg b] at r; (first | lia | omega)
  · rw [if_neg a] at r
    rw [if_neg (fun h => a (e.mp h))]
    by_cases b : labN label (negN N y) = labN label y
    · rw [if_pos b] at r; (first | lia | omega)
    · rw [if_neg b]
theorem Sm.index {α : Type} {d : α} {f : α → Int} (l : List α) : Sm l f = Sm (List.range l.length) fun i => f (l.getD i d) := by
  have : (List.range l.length).map (fun i => l.getD i d) = l := by
    apply List.ext_getElem?
    intro i
    rw [List.getElem?_map]
    by_cases h : i < l.length
    · rw [List.getElem?_range h, List.getElem?_eq_getElem h]
      simp [List.getD_eq_getElem?_getD, h]
    · rw [List.getElem?_eq_none (by simp; (first | lia | omega)), List.getElem?_eq_none (by (first | lia | omega))]; rfl
  rw [← Sm.map (f := f) (h := fun i => l.getD i d), this]
theorem sum_cast : ∀ l : List Nat, ((l.sum : Nat) : Int) = Sm l fun n => (n : Int)
  | [] => rfl
  | a :: l => by rw [List.sum_cons, Sm.cons, ← sum_cast l]; push_cast; rfl
theorem count_ok (k : Ker N ms H (negN N)) (hN : 0 < N) (hu : Und N ms) (K : KInv (4 * N) (4 * N) ms label rows) :
    twS (labN label) N (farR N rows) (nearR N rows) = ((nearR N rows).filter fun r => decide (r.headD 0 < N)).length := by
  have hd := double k hN K
  have e0 : ((nearR N rows).filter fun r => decide (r.headD 0 < N)) = rows.filter fun r => decide (r.headD 0 < N) := by
    unfold nearR
    rw [List.filter_filter]
    refine List.filter_congr fun r _ => ?_
    by_cases q : r.headD 0 < N
    · rw [decide_eq_true q, decide_eq_true (show r.headD 0 < 2 * N by (first | lia | omega))]; rfl
    · rw [decide_eq_false q]; rfl
  rw [e0]
  obtain ⟨st, hst⟩ : ∃ st, ((nearR N rows).filter fun r => decide (N ≤ r.headD 0)) = st := ⟨_, rfl⟩
  have hset : ∀ R ∈ st, R ∈ rows ∧ N ≤ R.headD 0 ∧ R.headD 0 < 2 * N := fun R hR => by
    rw [← hst] at hR
    have h1 := List.mem_filter.mp hR
    have h2 := List.mem_filter.mp h1.1
    exact ⟨h2.1, of_decide_eq_true h1.2, of_decide_eq_true h2.2⟩
  have hnd : (st.map fun R => labN label (R.headD 0)).Nodup := by
    have hr : rows.map (fun R => labN label (R.headD 0)) = List.range rows.length := by
      apply List.ext_getElem?
      intro i
      rw [List.getElem?_map]
      by_cases h : i < rows.length
      · rw [List.getElem?_range h, List.getElem?_eq_getElem h]
        have := lab_row K (show rows[i]? = some rows[i] from List.getElem?_eq_getElem h) (K.head_mem (List.getElem_mem h))
        rw [Option.map_some, this]
      · rw [List.getElem?_eq_none (by (first | lia | omega)), List.getElem?_eq_none (by simp; (first | lia | omega))]; rfl
    have hs : st.Sublist rows := by
      rw [← hst]
      exact (List.filter_sublist).trans List.filter_sublist
    have := hs.map fun R => labN label (R.headD 0)
    rw [hr] at this
    exact this.nodup List.nodup_range
  obtain ⟨u, hudef⟩ : ∃ u : List Nat → Int, u = fun T => if negN N (T.headD 0) ∈ T then 0 else 1 := ⟨_, rfl⟩
  have h1 : Sm (farR N rows) u = Sm st fun R => Sm (toldT (labN label) N (farR N rows) (labN label (R.headD 0))) fun j => u ((farR N rows).getD j []) := by
    rw [Sm.index (d := []) (farR N rows)]
    have a1 : Sm (List.range (farR N rows).length) (fun j => u ((farR N rows).getD j [])) = Sm (List.range (farR N rows).length) fun j => Sm st fun R => if wordK (labN label) N (farR N rows) j = labN label (R.headD 0) then u ((farR N rows).getD j []) else 0 := by
      refine Sm.congr fun j hj => ?_
      have hjl := List.mem_range.mp hj
      rw [← Sm.map (f := fun y => if wordK (labN label) N (farR N rows) j = y then u ((farR N rows).getD j []) else 0) (h := fun R : List Nat => labN label (R.headD 0)), Sm.one hnd, if_pos]
      obtain ⟨T, hT⟩ : ∃ T, (farR N rows)[j]? = some T := ⟨_, List.getElem?_eq_getElem hjl⟩
      obtain ⟨g1, g2, g3⟩ := far_row K hT
      have hml := Nat.mod_lt (T.headD 0) hN
      rw [word_val k hN hu K hT (K.head_mem g2)]
      obtain ⟨z, hz⟩ : ∃ z, N + T.headD 0 % N = z := ⟨_, rfl⟩
      rw [hz]
      obtain ⟨_, row, hk, mz⟩ := lab_at K (show z < 4 * N by (first | lia | omega))
      have hrm := List.mem_of_getElem? hk
      have hb := K.reach row hrm _ k.blk z mz
      unfold blk at hb
      rw [if_neg (show ¬ z < N by (first | lia | omega)), if_pos (show z < 2 * N by (first | lia | omega))] at hb
      have hb2 : N ≤ row.headD 0 ∧ row.headD 0 < 2 * N := by
        refine Classical.byContradiction fun q => ?_
        split at hb
        · (first | lia | omega)
        · split at hb <;> (first | lia | omega)
      refine List.mem_map.mpr ⟨row, ?_, lab_same K hrm (K.head_mem hrm) mz⟩
      rw [← hst]
      exact List.mem_filter.mpr ⟨List.mem_filter.mpr ⟨hrm, decide_eq_true hb2.2⟩, decide_eq_true hb2.1⟩
    rw [a1, Sm.comm]
    refine Sm.congr fun R hR => ?_
    unfold toldT
    rw [Sm.filter]
    refine Sm.congr fun j _ => ?_
    by_cases q : wordK (labN label) N (farR N rows) j = labN label (R.headD 0)
    · rw [if_pos q, if_pos (beq_iff_eq.mpr q)]
    · rw [if_neg q, if_neg (fun h => q (beq_iff_eq.mp h))]
  have h2 : Sm st (fun R => Sm (toldT (labN label) N (farR N rows) (labN label (R.headD 0))) fun j => u ((farR N rows).getD j [])) = Sm st fun R => 2 * (((toldT (labN label) N (farR N rows) (labN label (R.headD 0))).length - 1 : Nat) : Int) := by
    refine Sm.congr fun R hR => ?_
    obtain ⟨r1, r2, r3⟩ := hset R hR
    obtain ⟨x, hx⟩ : ∃ x, R.headD 0 = x := ⟨_, rfl⟩
    rw [hx] at r2 r3 ⊢
    rw [told_ok k hN hu K r2 r3]
    obtain ⟨a1, a2, Tp, hTp, mTp⟩ := lab_far k K (x := N + x) (by (first | lia | omega)) (by (first | lia | omega))
    obtain ⟨b1, b2, Tq, hTq, mTq⟩ := lab_far k K (x := 2 * N + x) (by (first | lia | omega)) (by (first | lia | omega))
    obtain ⟨p, hp⟩ : ∃ p, labN label (N + x) - (nearR N rows).length = p := ⟨_, rfl⟩
    obtain ⟨q, hq⟩ : ∃ q, labN label (2 * N + x) - (nearR N rows).length = q := ⟨_, rfl⟩
    rw [hp] at hTp ⊢
    rw [hq] at hTq ⊢
    obtain ⟨_, fp2, fp3⟩ := far_row K hTp
    obtain ⟨_, fq2, fq3⟩ := far_row K hTq
    have up : u ((farR N rows).getD p []) = if labN label (2 * N + x) = labN label (N + x) then 0 else 1 := by
      rw [List.getD_eq_getElem?_getD, hTp, hudef]
      have := u_val k K fp2 fp3 mTp
      rw [show negN N (N + x) = 2 * N + x by unfold negN; rw [if_pos (by (first | lia | omega))]; (first | lia | omega)] at this
      exact this
    have uq : u ((farR N rows).getD q []) = if labN label (N + x) = labN label (2 * N + x) then 0 else 1 := by
      rw [List.getD_eq_getElem?_getD, hTq, hudef]
      have := u_val k K fq2 fq3 mTq
      rw [show negN N (2 * N + x) = N + x by unfold negN; rw [if_neg (by (first | lia | omega))]; (first | lia | omega)] at this
      exact this
    unfold srtN
    by_cases e : p = q
    · have : labN label (2 * N + x) = labN label (N + x) := ar4 a1 b1 hp hq e
      rw [if_pos this] at up
      rw [if_pos e, Sm.cons, Sm.nil, up]; rfl
    · have h1 : ¬ labN label (2 * N + x) = labN label (N + x) := ar5 hp hq e
      rw [if_neg h1] at up
      rw [if_neg (fun e' => h1 e'.symm)] at uq
      rw [if_neg e]
      split
      · rw [Sm.cons, Sm.cons, Sm.nil, up, uq]; rfl
      · rw [Sm.cons, Sm.cons, Sm.nil, up, uq]; rfl
  have h3 : ((twS (labN label) N (farR N rows) (nearR N rows) : Nat) : Int) = Sm st fun R => (((toldT (labN label) N (farR N rows) (labN label (R.headD 0))).length - 1 : Nat) : Int) := by
    unfold twS
    rw [sum_cast, Sm.map, ← hst, Sm.filter]
    refine Sm.congr fun R _ => ?_
    by_cases q : N ≤ R.headD 0
    · rw [if_pos q, if_pos (decide_eq_true q)]
    · rw [if_neg q, if_neg (by rw [decide_eq_true_eq]; exact q)]; rfl
  have h4 : Sm (farR N rows) u = 2 * ((twS (labN label) N (farR N rows) (nearR N rows) : Nat) : Int) := by
    rw [h1, h2, Sm.mulL, h3]
  have h5 : 2 * (((rows.filter fun r => decide (r.headD 0 < N)).length : Nat) : Int) = Sm (farR N rows) u := by rw [hudef]; exact hd
  (first | lia | omega)
end
end Mine
end
section
namespace Mine
noncomputable def bump (ct : List Nat) (b : Nat) : List Nat :=
  let c := if b < ct.length then ct else ct ++ List.replicate (b - ct.length + 1) 0
  c.set b (c.getD b 0 + 1)
theorem ws_blanks (ct : List Nat) : ∀ (k b : Nat), (List.replicate k 32).foldl wsStep (ct, b) = (ct, b + k)
  | 0, b => rfl
  | k + 1, b => by
    rw [List.replicate_succ, List.foldl_cons]
    have : wsStep (ct, b) 32 = (ct, b + 1) := rfl
    rw [this, ws_blanks ct k (b + 1)]; congr 1; (first | lia | omega)
theorem ws_lead : ∀ (rows : List (List Nat)) (ct : List Nat), (leadL rows).foldl wsStep (ct, 0) = ((rows.map List.length).foldl (fun c s => bump c (s - 1)) ct, 0)
  | [], ct => rfl
  | r :: rows, ct => by
    have e : leadL (r :: rows) = List.replicate (r.length - 1) 32 ++ ([9] ++ leadL rows) := by unfold leadL; simp
    rw [e, List.foldl_append, ws_blanks, List.foldl_append, Nat.zero_add]
    have : [9].foldl wsStep (ct, r.length - 1) = (bump ct (r.length - 1), 0) := rfl
    rw [this, ws_lead rows, List.map_cons, List.foldl_cons]
structure Cnt (c : List Nat) (l : List Nat) : Prop where
  at' : ∀ b, c.getD b 0 = l.count (b + 1)
  len : ∀ b, b < c.length ↔ ∃ s ∈ l, b < s
theorem getD_rep (c : List Nat) (n b : Nat) : (c ++ List.replicate n 0).getD b 0 = c.getD b 0 := by
  rw [List.getD_eq_getElem?_getD, List.getD_eq_getElem?_getD]
  by_cases h : b < c.length
  · rw [List.getElem?_append_left h]
  · rw [List.getElem?_append_right (by (first | lia | omega)), List.getElem?_eq_none (show c.length ≤ b by (first | lia | omega)), List.getElem?_replicate]
    split <;> rfl
theorem bump_cnt {c l : List Nat} {s : Nat} (hs : 1 ≤ s) (h : Cnt c l) : Cnt (bump c (s - 1)) (s :: l) := by
  obtain ⟨d, hd⟩ : ∃ d, (if s - 1 < c.length then c else c ++ List.replicate (s - 1 - c.length + 1) 0) = d := ⟨_, rfl⟩
  have hdl : s - 1 < d.length ∧ ∀ b, b < d.length ↔ (b < c.length ∨ b < s) := by
    rw [← hd]
    split
    · rename_i q
      exact ⟨q, fun b => ⟨.inl, fun r => r.elim id fun r => Nat.lt_of_le_of_lt (Nat.le_pred_of_lt r) q⟩⟩
    · rename_i q
      rw [List.length_append, List.length_replicate]
      have q := Nat.le_of_not_lt q
      have e : c.length + (s - 1 - c.length + 1) = s := by rw [← Nat.add_assoc, Nat.add_sub_cancel' q, Nat.sub_add_cancel hs]
      rw [e]
      exact ⟨Nat.sub_lt hs (by decide), fun b => ⟨.inr, fun r => r.elim (fun r => Nat.lt_of_lt_of_le r (Nat.le_trans q (Nat.sub_le _ _))) id⟩⟩
  have hda : ∀ b, d.getD b 0 = c.getD b 0 := fun b => by
    rw [← hd]; split
    · rfl
    · exact getD_rep _ _ _
  have e : bump c (s - 1) = d.set (s - 1) (d.getD (s - 1) 0 + 1) := by unfold bump; dsimp only; rw [hd]
  rw [e]
  have hb : ∀ b, s - 1 = b ↔ s = b + 1 := fun b => ⟨fun q => by rw [← q, Nat.sub_add_cancel hs], fun q => by rw [q]; rfl⟩
  refine ⟨fun b => ?_, fun b => ?_⟩
  · rw [List.getD_eq_getElem?_getD, List.getElem?_set, List.count_cons]
    by_cases q : s - 1 = b
    · rw [if_pos q, if_pos hdl.1, Option.getD_some, hda, h.at', q, if_pos (by rw [(hb b).mp q]; exact beq_self_eq_true _)]
    · rw [if_neg q, ← List.getD_eq_getElem?_getD, hda, h.at', if_neg (fun r => q ((hb b).mpr (eq_of_beq r)))]; rfl
  · rw [List.length_set, hdl.2]
    constructor
    · intro q
      rcases q with q | q
      · obtain ⟨t, ht, hbt⟩ := (h.len b).mp q
        exact ⟨t, .tail _ ht, hbt⟩
      · exact ⟨s, .head _, q⟩
    · rintro ⟨t, ht, hbt⟩
      rcases List.mem_cons.mp ht with rfl | ht
      · exact .inr hbt
      · exact .inl ((h.len b).mpr ⟨t, ht, hbt⟩)
theorem fold_cnt : ∀ (l : List Nat) {c l0 : List Nat}, (∀ s ∈ l, 1 ≤ s) → Cnt c l0 → ∃ l', Cnt (l.foldl (fun c s => bump c (s - 1)) c) l' ∧ l'.Perm (l ++ l0)
  | [], c, l0, _, h => ⟨l0, h, .refl _⟩
  | s :: l, c, l0, hl, h => by
    obtain ⟨l', h1, h2⟩ := fold_cnt l (fun t ht => hl t (by simp [ht])) (bump_cnt (hl s (by simp)) h)
    exact ⟨l', h1, h2.trans List.perm_middle⟩
theorem lead_iff {a b : List (List Nat)} (ha : ∀ r ∈ a, r ≠ []) (hb : ∀ r ∈ b, r ≠ []) : wsOf (leadL a) = wsOf (leadL b) ↔ (a.map List.length).Perm (b.map List.length) := by
  have pos : ∀ {l : List (List Nat)}, (∀ r ∈ l, r ≠ []) → ∀ s ∈ l.map List.length, 1 ≤ s := fun h s hs => by
    obtain ⟨r, hr, rfl⟩ := List.mem_map.mp hs
    exact Nat.pos_of_ne_zero fun e => h r hr (List.length_eq_zero_iff.mp e)
  have c0 : Cnt [] [] := ⟨fun b => by simp, fun b => by simp⟩
  obtain ⟨la, ca, pa⟩ := fold_cnt (a.map List.length) (pos ha) c0
  obtain ⟨lb, cb, pb⟩ := fold_cnt (b.map List.length) (pos hb) c0
  rw [List.append_nil] at pa pb
  unfold wsOf
  rw [ws_lead, ws_lead]
  constructor
  · intro h
    have h' := congrArg Prod.fst h
    dsimp only at h'
    rw [h'] at ca
    refine pa.symm.trans (List.Perm.trans ?_ pb)
    rw [List.perm_iff_count]
    intro s
    cases s with
    | zero =>
      have z : ∀ {l l' : List Nat}, l.Perm l' → (∀ s ∈ l', 1 ≤ s) → l.count 0 = 0 := fun p h => List.count_eq_zero.mpr fun hm => by have := h 0 (p.mem_iff.mp hm); (first | lia | omega)
      rw [z pa (pos ha), z pb (pos hb)]
    | succ s => rw [← ca.at', ← cb.at']
  · intro h
    congr 1
    have p : la.Perm lb := pa.trans (h.trans pb.symm)
    have hl : ∀ i, i < ((a.map List.length).foldl (fun c s => bump c (s - 1)) []).length ↔ i < ((b.map List.length).foldl (fun c s => bump c (s - 1)) []).length := fun i => by
      rw [ca.len, cb.len]
      exact ⟨fun ⟨s, h1, h2⟩ => ⟨s, p.mem_iff.mp h1, h2⟩, fun ⟨s, h1, h2⟩ => ⟨s, p.mem_iff.mpr h1, h2⟩⟩
    generalize (a.map List.length).foldl (fun c s => bump c (s - 1)) [] = x at ca hl
    generalize (b.map List.length).foldl (fun c s => bump c (s - 1)) [] = y at cb hl
    apply List.ext_getElem?
    intro i
    have e : x.getD i 0 = y.getD i 0 := by rw [ca.at', cb.at', p.count_eq]
    rw [List.getD_eq_getElem?_getD, List.getD_eq_getElem?_getD] at e
    by_cases q : i < x.length
    · have q' := (hl i).mp q
      rw [List.getElem?_eq_getElem q, List.getElem?_eq_getElem q'] at e ⊢
      simpa using e
    · have q' : ¬ i < y.length := fun h => q ((hl i).mpr h)
      rw [List.getElem?_eq_none (by (first | lia | omega)), List.getElem?_eq_none (by (first | lia | omega))]
theorem lead_len {l : List (List Nat)} (h : ∀ r ∈ l, r ≠ []) : (leadL l).length = l.flatten.length := by
  induction l with
  | nil => rfl
  | cons r l ih =>
    have h1 := ih fun r hr => h r (by simp [hr])
    have h2 : 1 ≤ r.length := Nat.pos_of_ne_zero fun e => h r (by simp) (List.length_eq_zero_iff.mp e)
    have e : leadL (r :: l) = List.replicate (r.length - 1) 32 ++ ([9] ++ leadL l) := by unfold leadL; simp
    rw [e, List.length_append, List.length_append, List.length_replicate, h1, List.flatten_cons, List.length_append]
    simp only [List.length_cons, List.length_nil]; (first | lia | omega)
theorem div_sum {d : Nat} (hd : 1 ≤ d) : ∀ l : List Nat, Sm l (fun s => if s ∣ d then (s : Int) else 0) = Sm (List.range (d + 1)) fun e => if e ∣ d then (e : Int) * (l.count e : Int) else 0
  | [] => by
    rw [Sm.nil]
    have : Sm (List.range (d + 1)) (fun e => if e ∣ d then (e : Int) * (([] : List Nat).count e : Int) else 0) = Sm (List.range (d + 1)) fun _ => 0 := Sm.congr fun e _ => by simp
    rw [this, Sm.zero]
  | s :: l => by
    rw [Sm.cons, div_sum hd l]
    have e1 : Sm (List.range (d + 1)) (fun e => if e ∣ d then (e : Int) * ((s :: l).count e : Int) else 0) = Sm (List.range (d + 1)) (fun e => (if s = e then (if s ∣ d then (s : Int) else 0) else 0) + if e ∣ d then (e : Int) * (l.count e : Int) else 0) := by
      refine Sm.congr fun e _ => ?_
      by_cases q : s = e
      · subst q
        have c1 : (s :: l).count s = l.count s + 1 := List.count_cons_self
        rw [c1, if_pos rfl]
        by_cases p : s ∣ d
        · simp only [if_pos p]; push_cast; rw [Int.mul_add, Int.mul_one]; (first | lia | omega)
        · simp only [if_neg p]; rfl
      · have c1 : (s :: l).count e = l.count e := List.count_cons_of_ne q
        rw [c1, if_neg q, Int.zero_add]
    rw [e1, Sm.add, Sm.one List.nodup_range]
    by_cases p : s ∣ d
    · rw [if_pos p, if_pos (List.mem_range.mpr (by have := Nat.le_of_dvd hd p; (first | lia | omega)))]
    · rw [if_neg p]; simp
theorem sizes_eq {a b : List Nat} (ha : ∀ s ∈ a, 1 ≤ s) (hb : ∀ s ∈ b, 1 ≤ s) (h : ∀ d, 1 ≤ d → Sm a (fun s => if s ∣ d then (s : Int) else 0) = Sm b fun s => if s ∣ d then (s : Int) else 0) : a.Perm b := by
  rw [List.perm_iff_count]
  intro d
  induction d using Nat.strongRecOn with
  | ind d ih =>
    by_cases hd : d = 0
    · subst hd
      rw [List.count_eq_zero.mpr fun hm => by have := ha 0 hm; (first | lia | omega), List.count_eq_zero.mpr fun hm => by have := hb 0 hm; (first | lia | omega)]
    · have hd1 : 1 ≤ d := by (first | lia | omega)
      have := h d hd1
      rw [div_sum hd1, div_sum hd1, List.range_succ, Sm.append, Sm.append] at this
      simp only [Sm.cons, Sm.nil, if_pos (Nat.dvd_refl d)] at this
      have e : Sm (List.range d) (fun e => if e ∣ d then (e : Int) * (a.count e : Int) else 0) = Sm (List.range d) (fun e => if e ∣ d then (e : Int) * (b.count e : Int) else 0) := Sm.congr fun e he => by rw [ih e (List.mem_range.mp he)]
      rw [e] at this
      have h2 : (d : Int) * (a.count d : Int) = (d : Int) * (b.count d : Int) := by (first | lia | omega)
      have h3 := Int.eq_of_mul_eq_mul_left (show (d : Int) ≠ 0 by (first | lia | omega)) h2
      (first | lia | omega)
end Mine
end
section
namespace Mine
noncomputable def itr (m : List Nat) : Nat → Nat → Nat
  | 0, x => x
  | k + 1, x => m.getD (itr m k x) 0
theorem itr_add (m : List Nat) (a : Nat) : ∀ (b x : Nat), itr m (a + b) x = itr m b (itr m a x)
  | 0, x => rfl
  | b + 1, x => by
    show m.getD (itr m (a + b) x) 0 = m.getD (itr m b (itr m a x)) 0
    rw [itr_add m a b x]
theorem Grow.chain {m : List Nat} {k : Nat} : ∀ {at' : Nat} {label : List Int} {row : List Nat} {l' : List Int} {r' : List Nat}, Grow [m] k at' label row l' r' → (∀ j, j + 1 < row.length → row.getD (j + 1) 0 = m.getD (row.getD j 0) 0) → row.length ≤ at' + 1 →
    ∀ j, j + 1 < r'.length → r'.getD (j + 1) 0 = m.getD (r'.getD j 0) 0 := by
  intro at' label row l' r' hg
  induction hg with
  | done h => exact fun hc _ => hc
  | @step at' x label row l' r' hx _ ih =>
    intro hc hl
    have hat : at' < row.length := (List.getElem?_eq_some_iff.mp hx).1
    have hxe : row.getD at' 0 = x := by rw [List.getD_eq_getElem?_getD, hx]; rfl
    have e : visit [m] k x (label, row) = touch k (label, row) (m.getD x 0) := rfl
    rw [e] at ih
    unfold touch at ih
    split at ih
    · refine ih (fun j hj => ?_) (by simp; (first | lia | omega))
      simp only [List.length_append, List.length_singleton] at hj
      have ga : ∀ i, i < row.length → (row ++ [m.getD x 0]).getD i 0 = row.getD i 0 := fun i hi => by
        rw [List.getD_eq_getElem?_getD, List.getElem?_append_left hi, ← List.getD_eq_getElem?_getD]
      rcases Nat.lt_or_ge (j + 1) row.length with q | q
      · rw [ga _ q, ga _ (by (first | lia | omega))]; exact hc j q
      · have hj2 : j = at' := by (first | lia | omega)
        subst hj2
        rw [ga j hat, hxe, List.getD_eq_getElem?_getD, List.getElem?_append_right (by (first | lia | omega)), show j + 1 - row.length = 0 by (first | lia | omega)]; rfl
    · exact ih hc (by dsimp only; (first | lia | omega))
theorem Kinds.chain {m : List Nat} {n : Nat} : ∀ {i : Nat} {label : List Int} {rows : List (List Nat)}, Kinds [m] n i label rows → ∀ row ∈ rows, ∀ j, j + 1 < row.length → row.getD (j + 1) 0 = m.getD (row.getD j 0) 0 := by
  intro i label rows h
  induction h with
  | zero => intro row hr; exact absurd hr (by simp)
  | skip _ _ ih => exact ih
  | take _ _ hg ih =>
    intro row hr
    rcases List.mem_append.mp hr with q | q
    · exact ih row q
    · rw [List.mem_singleton.mp q]
      exact hg.chain (fun j hj => by simp at hj) (by simp)
section
variable {n : Nat} {m : List Nat} {label : List Int} {rows : List (List Nat)}
theorem itr_lt (hI : Inj n [m]) : ∀ (k : Nat) {x : Nat}, x < n → itr m k x < n
  | 0, x, h => h
  | k + 1, x, h => hI.lt (by simp) (itr_lt hI k h)
theorem itr_inj (hI : Inj n [m]) : ∀ (k : Nat) {x y : Nat}, x < n → y < n → itr m k x = itr m k y → x = y
  | 0, x, y, _, _, h => h
  | k + 1, x, y, hx, hy, h => itr_inj hI k hx hy (hI.inj m (by simp) _ (itr_lt hI k hx) _ (itr_lt hI k hy) h)
theorem period (hI : Inj n [m]) (K : KInv n n [m] label rows) (hc : ∀ row ∈ rows, ∀ j, j + 1 < row.length → row.getD (j + 1) 0 = m.getD (row.getD j 0) 0) {R : List Nat} (hR : R ∈ rows) {x : Nat} (hx : x ∈ R) (k : Nat) : itr m k x = x ↔ R.length ∣ k := by
  obtain ⟨h, hh⟩ : ∃ h, R.getD 0 0 = h := ⟨_, rfl⟩
  have hpos : 0 < R.length := List.length_pos_of_mem hx
  have hat : ∀ j, j < R.length → itr m j h = R.getD j 0 := by
    intro j
    induction j with
    | zero => exact fun _ => hh.symm
    | succ j ih =>
      intro hj
      show m.getD (itr m j h) 0 = _
      rw [ih (by (first | lia | omega)), hc R hR j hj]
  have hmem : ∀ j, j < R.length → R.getD j 0 ∈ R := fun j hj => by
    rw [List.getD_eq_getElem?_getD, List.getElem?_eq_getElem hj]; exact List.getElem_mem hj
  have hinj : ∀ i j, i < R.length → j < R.length → R.getD i 0 = R.getD j 0 → i = j := fun i j hi hj e => by
    rw [List.getD_eq_getElem?_getD, List.getD_eq_getElem?_getD, List.getElem?_eq_getElem hi, List.getElem?_eq_getElem hj] at e
    exact (List.getElem_inj (K.nd R hR)).mp (by simpa using e)
  have hlt : h < n := by rw [← hh]; exact K.mem_lt hR (hmem 0 hpos)
  have hL : itr m R.length h = h := by
    have e1 : itr m R.length h = m.getD (R.getD (R.length - 1) 0) 0 := by
      have : R.length = (R.length - 1) + 1 := by (first | lia | omega)
      conv => lhs; rw [this]
      show m.getD (itr m (R.length - 1) h) 0 = _
      rw [hat _ (by (first | lia | omega))]
    have hm := K.closed R hR _ (hmem (R.length - 1) (by (first | lia | omega))) m (by simp)
    rw [← e1] at hm
    obtain ⟨j, hj, ej⟩ := List.getElem_of_mem hm
    have ej' : itr m R.length h = itr m j h := by
      rw [hat j hj, List.getD_eq_getElem?_getD, List.getElem?_eq_getElem hj, ← ej]; rfl
    by_cases q : j = 0
    · subst q; exact ej'
    · have e2 : R.length = (R.length - j) + j := by (first | lia | omega)
      rw [e2, itr_add] at ej'
      have := itr_inj hI j (itr_lt hI _ hlt) hlt ej'
      rw [hat _ (by (first | lia | omega)), ← hh] at this
      have := hinj _ _ (by (first | lia | omega)) hpos this
      (first | lia | omega)
  have hqL : ∀ q, itr m (q * R.length) h = h := by
    intro q
    induction q with
    | zero => rw [Nat.zero_mul]; rfl
    | succ q ih => rw [Nat.succ_mul, itr_add, ih, hL]
  have hk : itr m k h = h ↔ R.length ∣ k := by
    have e : k = (k / R.length) * R.length + k % R.length := by rw [Nat.mul_comm]; exact (Nat.div_add_mod k R.length).symm
    have hr := Nat.mod_lt k hpos
    have e2 : itr m k h = R.getD (k % R.length) 0 := by
      conv => lhs; rw [e]
      rw [itr_add, hqL, hat _ hr]
    rw [e2]
    constructor
    · intro h1
      rw [← hh] at h1
      exact Nat.dvd_of_mod_eq_zero (hinj _ _ hr hpos h1)
    · intro h1
      rw [Nat.mod_eq_zero_of_dvd h1, hh]
  obtain ⟨j, hj, ej⟩ := List.getElem_of_mem hx
  have hxj : itr m j h = x := by rw [hat j hj, List.getD_eq_getElem?_getD, List.getElem?_eq_getElem hj, ej]; rfl
  rw [← hk, ← hxj, ← itr_add, Nat.add_comm, itr_add]
  exact ⟨fun e => itr_inj hI j (itr_lt hI k hlt) hlt e, fun e => by rw [e]⟩
theorem fix_rows (hI : Inj n [m]) (K : KInv n n [m] label rows) (hc : ∀ row ∈ rows, ∀ j, j + 1 < row.length → row.getD (j + 1) 0 = m.getD (row.getD j 0) 0) {l : List (List Nat)} (hl : ∀ R ∈ l, R ∈ rows) {w : List Nat} (hp : l.flatten.Perm w) (k : Nat) :
    Sm w (fun x => if itr m k x = x then (1 : Int) else 0) = Sm (l.map List.length) fun s => if s ∣ k then (s : Int) else 0 := by
  rw [← Sm.perm hp, Sm.flatten, Sm.map]
  refine Sm.congr fun R hR => ?_
  have : Sm R (fun x => if itr m k x = x then (1 : Int) else 0) = Sm R fun _ => if R.length ∣ k then (1 : Int) else 0 := Sm.congr fun x hx => by
    have := period hI K hc (hl R hR) hx k
    by_cases q : R.length ∣ k
    · rw [if_pos q, if_pos (this.mpr q)]
    · rw [if_neg q, if_neg (fun h => q (this.mp h))]
  rw [this, Sm.const]
  split <;> (first | lia | omega)
end
theorem map_perm {l : List Nat} {f : Nat → Nat} (hn : l.Nodup) (hc : ∀ x ∈ l, f x ∈ l) (hi : ∀ x ∈ l, ∀ y ∈ l, f x = f y → x = y) : (l.map f).Perm l := by
  have hnm := nodup_map hn hi
  refine (List.perm_ext_iff_of_nodup hnm hn).mpr fun z => ⟨fun h => ?_, fun h => ?_⟩
  · obtain ⟨x, hx, rfl⟩ := List.mem_map.mp h; exact hc x hx
  · exact nodup_onto hnm (fun y hy => by obtain ⟨x, hx, rfl⟩ := List.mem_map.mp hy; exact hc x hx) (by simp) z h
section
variable {N : Nat} {m : List Nat} {H : Nat → Nat → Int} {label : List Int} {rows : List (List Nat)}
theorem itr_st (k : Ker N [m] H (negN N)) : ∀ (j : Nat) {x : Nat}, x < N → itr m j x < N
  | 0, x, h => h
  | j + 1, x, h => k.st m (by simp) _ (itr_st k j h)
theorem itr_si (k : Ker N [m] H (negN N)) : ∀ (j : Nat) {y : Nat}, 2 * N ≤ y → y < 4 * N → 2 * N ≤ itr m j y ∧ itr m j y < 4 * N
  | 0, y, h, h' => ⟨h, h'⟩
  | j + 1, y, h, h' => by
    have := itr_si k j h h'
    exact ⟨k.si m (by simp) _ this.1 this.2, k.I.lt (by simp) this.2⟩
theorem itr_H (k : Ker N [m] H (negN N)) : ∀ (j : Nat) {x y : Nat}, x < N → 2 * N ≤ y → y < 4 * N → H (itr m j x) (itr m j y) = H x y
  | 0, x, y, _, _, _ => rfl
  | j + 1, x, y, hx, h, h' => by
    have := itr_si k j h h'
    show H (m.getD (itr m j x) 0) (m.getD (itr m j y) 0) = _
    rw [k.inv m (by simp) _ (itr_st k j hx) _ this.1 this.2, itr_H k j hx h h']
theorem itr_und (k : Ker N [m] H (negN N)) (hN : 0 < N) (hu : Und N [m]) : ∀ (j : Nat) {y : Nat}, 2 * N ≤ y → y < 4 * N → itr m j (N + y % N) = N + itr m j y % N
  | 0, y, _, _ => rfl
  | j + 1, y, h, h' => by
    have := itr_si k j h h'
    show m.getD (itr m j (N + y % N)) 0 = _
    rw [itr_und k hN hu j h h', hu m (by simp) _ this.1 this.2]; rfl
theorem und_at (hN : 0 < N) {y : Nat} (h1 : 2 * N ≤ y) (h2 : y < 4 * N) : ∃ r, r < N ∧ y % N = r ∧ ((y = 2 * N + r ∧ negN N y = 3 * N + r) ∨ (y = 3 * N + r ∧ negN N y = 2 * N + r)) := by
  have hr := Nat.mod_lt y hN
  refine ⟨y % N, hr, rfl, ?_⟩
  unfold negN
  rcases mod_up hN h1 h2 with ⟨a, e⟩ | ⟨a, e⟩ <;> generalize y % N = r at e hr
  · left; rw [if_pos a]; clear a h2; subst e; lia
  · right; rw [if_neg (Nat.not_lt.mpr a)]; clear h1 h2; subst e; lia
theorem und_ne {r s : Nat} (hr : r < N) : ¬ 3 * N + s = 2 * N + r := by lia
theorem und_eq (hN : 0 < N) {y z : Nat} (h1 : 2 * N ≤ y) (h2 : y < 4 * N) (h3 : 2 * N ≤ z) (h4 : z < 4 * N) : (N + y % N = N + z % N) ↔ (y = z ∨ y = negN N z) := by
  obtain ⟨r, hr, er, ey⟩ := und_at hN h1 h2
  obtain ⟨s, hs, es, ez⟩ := und_at hN h3 h4
  rw [er, es, Nat.add_left_cancel_iff]
  rcases ey with ⟨ey, _⟩ | ⟨ey, _⟩ <;> rcases ez with ⟨ez, en⟩ | ⟨ez, en⟩ <;> rw [en, ey, ez]
  · exact ⟨fun q => .inl (by rw [q]), fun q => q.elim Nat.add_left_cancel fun q => absurd q.symm (und_ne hr)⟩
  · exact ⟨fun q => .inr (by rw [q]), fun q => q.elim (fun q => absurd q.symm (und_ne hr)) Nat.add_left_cancel⟩
  · exact ⟨fun q => .inr (by rw [q]), fun q => q.elim (fun q => absurd q (und_ne hs)) Nat.add_left_cancel⟩
  · exact ⟨fun q => .inl (by rw [q]), fun q => q.elim Nat.add_left_cancel fun q => absurd q (und_ne hs)⟩
theorem trace (k : Ker N [m] H (negN N)) (hN : 0 < N) (hu : Und N [m]) (j : Nat) :
    Sm ((List.range (4 * N)).filter fun x => decide (x < 2 * N)) (fun x => if itr m j x = x then (1 : Int) else 0) = Sm ((List.range (4 * N)).filter fun x => decide (2 * N ≤ x)) fun x => if itr m j x = x then (1 : Int) else 0 := by
  have hW : ∀ y ∈ (List.range (4 * N)).filter (fun x => decide (2 * N ≤ x)), 2 * N ≤ y ∧ y < 4 * N := fun y hy => by
    have := List.mem_filter.mp hy; exact ⟨of_decide_eq_true this.2, List.mem_range.mp this.1⟩
  have hWm : ∀ y, 2 * N ≤ y → y < 4 * N → y ∈ (List.range (4 * N)).filter (fun x => decide (2 * N ≤ x)) := fun y h1 h2 => List.mem_filter.mpr ⟨List.mem_range.mpr h2, decide_eq_true h1⟩
  have hWn : ((List.range (4 * N)).filter fun x => decide (2 * N ≤ x)).Nodup := List.nodup_range.filter _
  have hX : ∀ y ∈ (List.range (4 * N)).filter (fun x => decide (x < N)), y < N := fun y hy => of_decide_eq_true (List.mem_filter.mp hy).2
  have hZ : ∀ y ∈ (List.range (4 * N)).filter (fun x => decide (N ≤ x) && decide (x < 2 * N)), N ≤ y ∧ y < 2 * N := fun y hy => by
    have := (List.mem_filter.mp hy).2
    rw [Bool.and_eq_true, decide_eq_true_eq, decide_eq_true_eq] at this; exact this
  have hZm : ∀ y, N ≤ y → y < 2 * N → y ∈ (List.range (4 * N)).filter (fun x => decide (N ≤ x) && decide (x < 2 * N)) := fun y h1 h2 => List.mem_filter.mpr ⟨List.mem_range.mpr (by (first | lia | omega)), by rw [decide_eq_true h1, decide_eq_true h2]; rfl⟩
  have hZn : ((List.range (4 * N)).filter fun x => decide (N ≤ x) && decide (x < 2 * N)).Nodup := List.nodup_range.filter _
  have split : Sm ((List.range (4 * N)).filter fun x => decide (x < 2 * N)) (fun x => if itr m j x = x then (1 : Int) else 0) = Sm ((List.range (4 * N)).filter fun x => decide (x < N)) (fun x => if itr m j x = x then (1 : Int) else 0) + Sm ((List.range (4 * N)).filter fun x => decide (N ≤ x) && decide (x < 2 * N)) fun x => if itr m j x = x then (1 : Int) else 0 := by
    rw [Sm.filter, Sm.filter, Sm.filter, ← Sm.add]
    refine Sm.congr fun x _ => ?_
    by_cases a : x < N
    · have b : x < 2 * N := by (first | lia | omega)
      have c : ¬ N ≤ x := by (first | lia | omega)
      simp [a, b, c]
    · have c : N ≤ x := by (first | lia | omega)
      by_cases b : x < 2 * N
      · simp [a, b, c]
      · simp [a, b, c]
  generalize hWe : (List.range (4 * N)).filter (fun x => decide (2 * N ≤ x)) = W at hW hWm hWn ⊢
  generalize hXe : (List.range (4 * N)).filter (fun x => decide (x < N)) = X at hX split
  generalize hZe : (List.range (4 * N)).filter (fun x => decide (N ≤ x) && decide (x < 2 * N)) = Z at hZ hZm hZn split
  rw [split]
  have hp : (W.map (itr m j)).Perm W := map_perm hWn (fun y hy => by
    have h := hW y hy
    have := itr_si k j h.1 h.2
    exact hWm _ this.1 this.2) fun x hx y hy e => itr_inj k.I j (hW x hx).2 (hW y hy).2 e
  have t1 : 2 * (N : Int) * Sm X (fun x => if itr m j x = x then (1 : Int) else 0) = (N : Int) * (Sm W (fun y => if itr m j y = y then (1 : Int) else 0) - Sm W fun y => if itr m j y = negN N y then (1 : Int) else 0) := by
    rw [← Sm.mulL, ← Sm.sub, ← Sm.mulL]
    have a1 : Sm X (fun x => 2 * (N : Int) * if itr m j x = x then (1 : Int) else 0) = Sm X fun x => Sm W fun y => H x y * H x (itr m j y) := by
      refine Sm.congr fun x hx => ?_
      have hxN := hX x hx
      have h1 := k.o1 (itr m j x) (itr_st k j hxN) x hxN
      rw [hWe] at h1
      have h2 : Sm W (fun y => H (itr m j x) y * H x y) = Sm W fun y => H x y * H x (itr m j y) := by
        rw [← Sm.perm hp, Sm.map]
        refine Sm.congr fun y hy => ?_
        rw [itr_H k j hxN (hW y hy).1 (hW y hy).2]
      rw [← h2, h1]
      split <;> (first | lia | omega)
    rw [a1, Sm.comm]
    refine Sm.congr fun y hy => ?_
    obtain ⟨hy1, hy2⟩ := hW y hy
    have hs := itr_si k j hy1 hy2
    have h1 := k.o2 y hy1 hy2 _ hs.1 hs.2
    rw [hXe] at h1
    rw [h1]
    by_cases a : itr m j y = y
    · rw [if_pos a.symm, if_pos a]
      by_cases b : itr m j y = negN N y
      · rw [if_pos b.symm, if_pos b]; (first | lia | omega)
      · rw [if_neg (fun h => b h.symm), if_neg b]; (first | lia | omega)
    · rw [if_neg (fun h => a h.symm), if_neg a]
      by_cases b : itr m j y = negN N y
      · rw [if_pos b.symm, if_pos b]; (first | lia | omega)
      · rw [if_neg (fun h => b h.symm), if_neg b]; (first | lia | omega)
  have t2 : 2 * Sm Z (fun x => if itr m j x = x then (1 : Int) else 0) = Sm W (fun y => if itr m j y = y then (1 : Int) else 0) + Sm W fun y => if itr m j y = negN N y then (1 : Int) else 0 := by
    rw [← Sm.add]
    have b1 : Sm W (fun y => (if itr m j y = y then (1 : Int) else 0) + if itr m j y = negN N y then (1 : Int) else 0) = Sm W fun y => if itr m j (N + y % N) = N + y % N then (1 : Int) else 0 := by
      refine Sm.congr fun y hy => ?_
      obtain ⟨hy1, hy2⟩ := hW y hy
      have hs := itr_si k j hy1 hy2
      rw [itr_und k hN hu j hy1 hy2]
      have he := und_eq hN hs.1 hs.2 hy1 hy2
      have hne : negN N y ≠ y := by unfold negN; split <;> (first | lia | omega)
      by_cases a : itr m j y = y
      · rw [if_pos a, if_neg (by rw [a]; exact fun h => hne h.symm), if_pos (he.mpr (.inl a))]; rfl
      · by_cases b : itr m j y = negN N y
        · rw [if_neg a, if_pos b, if_pos (he.mpr (.inr b))]; rfl
        · rw [if_neg a, if_neg b, if_neg (fun h => (he.mp h).elim a b)]; rfl
    rw [b1]
    have pw : (Z.map (fun z => N + z) ++ Z.map fun z => 2 * N + z).Perm W := by
      refine (List.perm_ext_iff_of_nodup ?_ hWn).mpr fun y => ⟨fun h => ?_, fun h => ?_⟩
      · rw [List.nodup_append]
        refine ⟨nodup_map hZn fun a _ b _ e => by (first | lia | omega), nodup_map hZn fun a _ b _ e => by (first | lia | omega), fun a ha b hb e => ?_⟩
        obtain ⟨z, hz, rfl⟩ := List.mem_map.mp ha
        obtain ⟨z', hz', rfl⟩ := List.mem_map.mp hb
        have := hZ z hz; have := hZ z' hz'; (first | lia | omega)
      · rcases List.mem_append.mp h with h | h
        · obtain ⟨z, hz, rfl⟩ := List.mem_map.mp h
          have := hZ z hz; exact hWm _ (by (first | lia | omega)) (by (first | lia | omega))
        · obtain ⟨z, hz, rfl⟩ := List.mem_map.mp h
          have := hZ z hz; exact hWm _ (by (first | lia | omega)) (by (first | lia | omega))
      · obtain ⟨h1, h2⟩ := hW y h
        by_cases q : y < 3 * N
        · exact List.mem_append_left _ (List.mem_map.mpr ⟨y - N, hZm _ (by (first | lia | omega)) (by (first | lia | omega)), by (first | lia | omega)⟩)
        · exact List.mem_append_right _ (List.mem_map.mpr ⟨y - 2 * N, hZm _ (by (first | lia | omega)) (by (first | lia | omega)), by (first | lia | omega)⟩)
    rw [← Sm.perm pw, Sm.append, Sm.map, Sm.map]
    have c1 : Sm Z (fun z => if itr m j (N + (N + z) % N) = N + (N + z) % N then (1 : Int) else 0) = Sm Z fun z => if itr m j z = z then (1 : Int) else 0 := Sm.congr fun z hz => by
      obtain ⟨h1, h2⟩ := hZ z hz
      have : N + (N + z) % N = z := by rcases mod_up hN (show 2 * N ≤ N + z by (first | lia | omega)) (show N + z < 4 * N by (first | lia | omega)) with ⟨_, e⟩ | ⟨h, _⟩ <;> (first | lia | omega)
      rw [this]
    have c2 : Sm Z (fun z => if itr m j (N + (2 * N + z) % N) = N + (2 * N + z) % N then (1 : Int) else 0) = Sm Z fun z => if itr m j z = z then (1 : Int) else 0 := Sm.congr fun z hz => by
      obtain ⟨h1, h2⟩ := hZ z hz
      have : N + (2 * N + z) % N = z := by rcases mod_up hN (show 2 * N ≤ 2 * N + z by (first | lia | omega)) (show 2 * N + z < 4 * N by (first | lia | omega)) with ⟨h, _⟩ | ⟨_, e⟩ <;> (first | lia | omega)
      rw [this]
    rw [c1, c2]; (first | lia | omega)
  have t3 : 2 * Sm X (fun x => if itr m j x = x then (1 : Int) else 0) = Sm W (fun y => if itr m j y = y then (1 : Int) else 0) - Sm W fun y => if itr m j y = negN N y then (1 : Int) else 0 := by
    have hN' : (N : Int) ≠ 0 := by (first | lia | omega)
    refine Int.eq_of_mul_eq_mul_left hN' ?_
    rw [← t1, ← Int.mul_assoc, Int.mul_comm (N : Int) 2]
  (first | lia | omega)
theorem single_sizes (k : Ker N [m] H (negN N)) (hN : 0 < N) (hu : Und N [m]) (K : KInv (4 * N) (4 * N) [m] label rows) (hc : ∀ row ∈ rows, ∀ j, j + 1 < row.length → row.getD (j + 1) 0 = m.getD (row.getD j 0) 0) :
    ((nearR N rows).map List.length).Perm ((farR N rows).map List.length) := by
  have pos : ∀ l : List (List Nat), (∀ r ∈ l, r ∈ rows) → ∀ s ∈ l.map List.length, 1 ≤ s := fun l hl s hs => by
    obtain ⟨r, hr, rfl⟩ := List.mem_map.mp hs
    exact Nat.pos_of_ne_zero fun e => K.ne r (hl r hr) (List.length_eq_zero_iff.mp e)
  have hn : ∀ r ∈ nearR N rows, r ∈ rows := fun r hr => (List.mem_filter.mp hr).1
  have hf : ∀ r ∈ farR N rows, r ∈ rows := fun r hr => (List.mem_filter.mp hr).1
  refine sizes_eq (pos _ hn) (pos _ hf) fun d _ => ?_
  rw [← fix_rows k.I K hc hn (near_flat k K) d, ← fix_rows k.I K hc hf (filt_si k K) d]
  exact trace k hN hu d
end
end Mine
end
section
set_option maxRecDepth 100000
namespace Mine
noncomputable def par (x : Nat) : Nat := (27030 >>> x) % 2
noncomputable def hK (N x y : Nat) : Int := if (par (x &&& (y % N)) + (if y < 3 * N then 0 else 1)) % 2 = 0 then 1 else -1
theorem par_xor : ∀ (a b c : _root_.Fin 16), par (a.val &&& (b.val ^^^ c.val)) = (par (a.val &&& b.val) + par (a.val &&& c.val)) % 2 := by decide +kernel
theorem par_lt (x : Nat) : par x < 2 := Nat.mod_lt _ (by decide)
noncomputable def setStep (N : Nat) (l : List Nat) (p : Nat) : List Nat := l ++ l.map fun r => (r + 2 ^ p) % N
theorem sets_fold (N : Nat) : ∀ (cs : List Nat) (st : List Nat × Nat), (cs.foldl (mvStep N) st).1.map (· % N) = (cs.map posOf).foldl (setStep N) (st.1.map (· % N))
  | [], st => rfl
  | c :: cs, st => by
    rw [List.foldl_cons, sets_fold N cs, List.map_cons, List.foldl_cons]
    congr 1
    unfold mvStep setStep
    split
    · rw [List.map_append, List.map_map, List.map_map]
      congr 1
      refine List.map_congr_left fun r _ => ?_
      show (r + 2 ^ posOf c) % N = (r % N + 2 ^ posOf c) % N
      rw [Nat.mod_add_mod]
    · rw [List.map_append, List.map_map, List.map_map]
      congr 1
      refine List.map_congr_left fun r _ => ?_
      show (r + 2 ^ posOf c + N) % (2 * N) % N = (r % N + 2 ^ posOf c) % N
      rw [Nat.mod_mod_of_dvd _ (Nat.dvd_mul_left N 2), Nat.add_mod_right, Nat.mod_add_mod]
noncomputable def okPs (n : Nat) (ps : List Nat) : Bool :=
  let N := 2 ^ n
  let s := ps.foldl (setStep N) [0]
  decide s.Nodup && (s.zipIdx.all fun a => s.zipIdx.all fun b => par (a.1 &&& b.1) == par (a.2 &&& b.2))
noncomputable def okCs (cs : List Nat) : Bool :=
  let N := 2 ^ cs.length
  let st := cs.foldl (mvStep N) ([0], 0)
  decide (st.2 < N) && st.1.all fun r => decide (r < 2 * N) && par ((r % N) &&& st.2) == r / N
noncomputable def ltr (p : Nat) (b : Bool) : Nat := if b then 107 + p else 75 + p
theorem ok_3 : ∀ p0 p1 p2 : _root_.Fin 3, [p0, p1, p2].Nodup → okPs 3 [p0.val, p1.val, p2.val] = true ∧ ∀ b0 b1 b2 : Bool, okCs [ltr p0.val b0, ltr p1.val b1, ltr p2.val b2] = true := by decide +kernel
theorem ok_4 : ∀ p0 p1 p2 p3 : _root_.Fin 4, [p0, p1, p2, p3].Nodup → okPs 4 [p0.val, p1.val, p2.val, p3.val] = true ∧ ∀ b0 b1 b2 b3 : Bool, okCs [ltr p0.val b0, ltr p1.val b1, ltr p2.val b2, ltr p3.val b3] = true := by decide +kernel
end Mine
end
section
set_option maxRecDepth 100000
namespace Mine
structure MvOK (N : Nat) (m : List Nat) (R : Nat → Nat) (f : Nat) : Prop where
  len : m.length = 4 * N
  rl : ∀ i, i < N → R i < 2 * N
  fl : f < N
  pf : ∀ i, i < N → par ((R i % N) &&& f) = R i / N
  inj : ∀ i, i < N → ∀ j, j < N → R i % N = R j % N → i = j
  pp : ∀ i, i < N → ∀ j, j < N → par ((R i % N) &&& (R j % N)) = par (i &&& j)
  v0 : ∀ x, x < N → m.getD x 0 = (R x % N) ^^^ f
  v1 : ∀ x, N ≤ x → x < 2 * N → m.getD x 0 = N + R (x - N) % N
  v2 : ∀ x, 2 * N ≤ x → x < 3 * N → m.getD x 0 = 2 * N + R (x - 2 * N)
  v3 : ∀ x, 3 * N ≤ x → x < 4 * N → m.getD x 0 = 2 * N + (R (x - 3 * N) + N) % (2 * N)
theorem getD_l {a b : List Nat} {i : Nat} (h : i < a.length) : (a ++ b).getD i 0 = a.getD i 0 := by
  rw [List.getD_eq_getElem?_getD, List.getD_eq_getElem?_getD, List.getElem?_append_left h]
theorem getD_r {a b : List Nat} {i : Nat} (h : a.length ≤ i) : (a ++ b).getD i 0 = b.getD (i - a.length) 0 := by
  rw [List.getD_eq_getElem?_getD, List.getD_eq_getElem?_getD, List.getElem?_append_right h]
theorem getD_map {a : List Nat} {g : Nat → Nat} {i : Nat} (h : i < a.length) : (a.map g).getD i 0 = g (a.getD i 0) := by
  rw [List.getD_eq_getElem?_getD, List.getD_eq_getElem?_getD, List.getElem?_map, List.getElem?_eq_getElem h]; rfl
theorem zip_mem {l : List Nat} {i : Nat} (h : i < l.length) : (l.getD i 0, i) ∈ l.zipIdx := by
  refine List.mem_of_getElem? (i := i) ?_
  rw [List.getElem?_zipIdx, List.getElem?_eq_getElem h, List.getD_eq_getElem?_getD, List.getElem?_eq_getElem h]; simp
theorem mv_ok {cs : List Nat} (h1 : okCs cs = true) (h2 : okPs cs.length (cs.map posOf) = true) : ∃ R f, MvOK (2 ^ cs.length) (movedN cs) R f := by
  obtain ⟨N, hN⟩ : ∃ N, 2 ^ cs.length = N := ⟨_, rfl⟩
  have hNp : 0 < N := by rw [← hN]; exact Nat.pow_pos (by decide)
  obtain ⟨st, hst⟩ : ∃ st, cs.foldl (mvStep N) ([0], 0) = st := ⟨_, rfl⟩
  have hlen : st.1.length = N := by rw [← hst, mv_len, hN]; simp
  have hsets : st.1.map (· % N) = (cs.map posOf).foldl (setStep N) [0] := by
    rw [← hst, sets_fold]
    have : ([0] : List Nat).map (· % N) = [0] := by simp
    rw [this]
  unfold okCs at h1
  simp only [hN, hst, Bool.and_eq_true, decide_eq_true_eq] at h1
  unfold okPs at h2
  simp only [hN, ← hsets, Bool.and_eq_true, decide_eq_true_eq] at h2
  have hall := List.all_eq_true.mp h1.2
  have hat : ∀ i, i < N → st.1.getD i 0 ∈ st.1 := fun i hi => by
    rw [List.getD_eq_getElem?_getD, List.getElem?_eq_getElem (by (first | lia | omega))]; exact List.getElem_mem _
  have hsl : (st.1.map (· % N)).length = N := by rw [List.length_map, hlen]
  have hsv : ∀ i, i < N → (st.1.map (· % N)).getD i 0 = st.1.getD i 0 % N := fun i hi => getD_map (by (first | lia | omega))
  have hm : movedN cs = (((st.1.map (· % N)).map (· ^^^ st.2) ++ (st.1.map (· % N)).map (N + ·)) ++ st.1.map (2 * N + ·)) ++ st.1.map (fun r => 2 * N + (r + N) % (2 * N)) := by
    unfold movedN
    simp only [hN, hst]
  rw [hN]
  refine ⟨fun i => st.1.getD i 0, st.2, ?_, fun i hi => ?_, h1.1, fun i hi => ?_, fun i hi j hj e => ?_, fun i hi j hj => ?_, fun x hx => ?_, fun x hx hx2 => ?_, fun x hx hx2 => ?_, fun x hx hx2 => ?_⟩
  · rw [hm]; simp only [List.length_append, List.length_map, hlen]; (first | lia | omega)
  · have := hall _ (hat i hi)
    simp only [Bool.and_eq_true, decide_eq_true_eq] at this
    exact this.1
  · have := hall _ (hat i hi)
    simp only [Bool.and_eq_true, beq_iff_eq] at this
    exact this.2
  · have hnd := h2.1
    have e' : (st.1.map (· % N)).getD i 0 = (st.1.map (· % N)).getD j 0 := by rw [hsv i hi, hsv j hj]; exact e
    rw [List.getD_eq_getElem?_getD, List.getD_eq_getElem?_getD, List.getElem?_eq_getElem (by (first | lia | omega)), List.getElem?_eq_getElem (by (first | lia | omega))] at e'
    rw [Option.getD_some, Option.getD_some] at e'
    exact (List.getElem_inj hnd).mp e'
  · have a := List.all_eq_true.mp h2.2 _ (zip_mem (l := st.1.map (· % N)) (i := i) (by (first | lia | omega)))
    have b := List.all_eq_true.mp a _ (zip_mem (l := st.1.map (· % N)) (i := j) (by (first | lia | omega)))
    rw [hsv i hi, hsv j hj] at b
    exact beq_iff_eq.mp b
  · rw [hm, getD_l (by simp [hlen]; (first | lia | omega)), getD_l (by simp [hlen]; (first | lia | omega)), getD_l (by simp [hlen]; (first | lia | omega)), getD_map (by (first | lia | omega)), hsv x hx]
  · rw [hm, getD_l (by simp [hlen]; (first | lia | omega)), getD_l (by simp [hlen]; (first | lia | omega)), getD_r (by simp [hlen]; (first | lia | omega))]
    simp only [List.length_map, hlen]
    rw [getD_map (by (first | lia | omega)), hsv _ (by (first | lia | omega))]
  · rw [hm, getD_l (by simp [hlen]; (first | lia | omega)), getD_r (by simp [hlen]; (first | lia | omega))]
    simp only [List.length_map, List.length_append, hlen]
    rw [getD_map (by (first | lia | omega)), show x - (N + N) = x - 2 * N by (first | lia | omega)]
  · rw [hm, getD_r (by simp [hlen]; (first | lia | omega))]
    simp only [List.length_map, List.length_append, hlen]
    rw [getD_map (by (first | lia | omega)), show x - (N + N + N) = x - 3 * N by (first | lia | omega)]
theorem xor_back {a b c : Nat} (h : a ^^^ c = b ^^^ c) : a = b := by
  have := congrArg (· ^^^ c) h
  simpa [Nat.xor_assoc] using this
structure KerN (N : Nat) : Prop where
  pw : N = 8 ∨ N = 16
  o1 : ∀ x, x < N → ∀ z, z < N → Sm ((List.range (4 * N)).filter fun y => decide (2 * N ≤ y)) (fun y => hK N x y * hK N z y) = if x = z then 2 * (N : Int) else 0
  o2 : ∀ y, 2 * N ≤ y → y < 4 * N → ∀ z, 2 * N ≤ z → z < 4 * N → Sm ((List.range (4 * N)).filter fun x => decide (x < N)) (fun x => hK N x y * hK N x z) = (if y = z then (N : Int) else 0) - if negN N y = z then (N : Int) else 0
section
variable {N : Nat} {m : List Nat} {R : Nat → Nat} {f : Nat}
theorem MvOK.bst (k : MvOK N m R f) (hN : N = 8 ∨ N = 16) {x : Nat} (hx : x < N) : m.getD x 0 < N := by
  rw [k.v0 x hx]
  have h1 : R x % N < N := Nat.mod_lt _ (by (first | lia | omega))
  have h2 := k.fl
  rcases hN with rfl | rfl
  · exact Nat.xor_lt_two_pow (n := 3) h1 h2
  · exact Nat.xor_lt_two_pow (n := 4) h1 h2
theorem MvOK.bse (k : MvOK N m R f) (hN : 0 < N) {x : Nat} (hx : N ≤ x) (hx2 : x < 2 * N) : N ≤ m.getD x 0 ∧ m.getD x 0 < 2 * N := by
  rw [k.v1 x hx hx2]
  have := Nat.mod_lt (R (x - N)) hN
  (first | lia | omega)
theorem MvOK.bsi (k : MvOK N m R f) (hN : 0 < N) {x : Nat} (hx : 2 * N ≤ x) (hx2 : x < 4 * N) : 2 * N ≤ m.getD x 0 ∧ m.getD x 0 < 4 * N := by
  by_cases q : x < 3 * N
  · rw [k.v2 x hx q]
    have := k.rl (x - 2 * N) (by (first | lia | omega))
    (first | lia | omega)
  · rw [k.v3 x (by (first | lia | omega)) hx2]
    have := Nat.mod_lt (R (x - 3 * N) + N) (show 2 * N > 0 by (first | lia | omega))
    (first | lia | omega)
theorem MvOK.blt (k : MvOK N m R f) (hN : N = 8 ∨ N = 16) {x : Nat} (hx : x < 4 * N) : m.getD x 0 < 4 * N := by
  by_cases a : x < N
  · have := k.bst hN a; (first | lia | omega)
  · by_cases b : x < 2 * N
    · have := k.bse (by (first | lia | omega)) (by (first | lia | omega)) b; (first | lia | omega)
    · exact (k.bsi (by (first | lia | omega)) (by (first | lia | omega)) hx).2
theorem turn2N {N a : Nat} (ha : a < 2 * N) : (a < N ∧ (a + N) % (2 * N) = a + N) ∨ (N ≤ a ∧ (a + N) % (2 * N) = a - N) := by
  by_cases q : a < N
  · left; exact ⟨q, Nat.mod_eq_of_lt (by (first | lia | omega))⟩
  · right; refine ⟨by (first | lia | omega), ?_⟩
    have e : a + N = (a - N) + 2 * N := by (first | lia | omega)
    rw [e, Nat.add_mod_right, Nat.mod_eq_of_lt (by (first | lia | omega))]
theorem MvOK.inj4 (k : MvOK N m R f) (hN : N = 8 ∨ N = 16) {x y : Nat} (hx : x < 4 * N) (hy : y < 4 * N) (e : m.getD x 0 = m.getD y 0) : x = y := by
  have hp : 0 < N := by (first | lia | omega)
  by_cases a : x < N
  · have b1 := k.bst hN a
    have a' : y < N := by
      refine Classical.byContradiction fun q => ?_
      by_cases b : y < 2 * N
      · have := k.bse hp (by (first | lia | omega)) b; (first | lia | omega)
      · have := k.bsi hp (by (first | lia | omega)) hy; (first | lia | omega)
    rw [k.v0 x a, k.v0 y a'] at e
    exact k.inj x a y a' (xor_back e)
  · by_cases b : x < 2 * N
    · have b1 := k.bse hp (by (first | lia | omega)) b
      have a' : ¬ y < N := fun q => by have := k.bst hN q; (first | lia | omega)
      have b' : y < 2 * N := by
        refine Classical.byContradiction fun q => ?_
        have := k.bsi hp (by (first | lia | omega)) hy; (first | lia | omega)
      rw [k.v1 x (by (first | lia | omega)) b, k.v1 y (by (first | lia | omega)) b'] at e
      have := k.inj (x - N) (by (first | lia | omega)) (y - N) (by (first | lia | omega)) (by (first | lia | omega))
      (first | lia | omega)
    · have b1 := k.bsi hp (by (first | lia | omega)) hx
      have a' : ¬ y < N := fun q => by have := k.bst hN q; (first | lia | omega)
      have b' : ¬ y < 2 * N := fun q => by have := k.bse hp (by (first | lia | omega)) q; (first | lia | omega)
      have und : ∀ z, 2 * N ≤ z → z < 4 * N → ∃ i, i < N ∧ (z = 2 * N + i ∨ z = 3 * N + i) ∧ (m.getD z 0) % N = R i % N ∧ (z = 2 * N + i → m.getD z 0 = 2 * N + R i) ∧ (z = 3 * N + i → m.getD z 0 = 2 * N + (R i + N) % (2 * N)) := by
        intro z h1 h2
        by_cases q : z < 3 * N
        · refine ⟨z - 2 * N, by (first | lia | omega), by (first | lia | omega), ?_, fun _ => k.v2 z h1 q, fun h => by (first | lia | omega)⟩
          rw [k.v2 z h1 q, show 2 * N + R (z - 2 * N) = R (z - 2 * N) + N * 2 by (first | lia | omega), Nat.add_mul_mod_self_left]
        · refine ⟨z - 3 * N, by (first | lia | omega), by (first | lia | omega), ?_, fun h => by (first | lia | omega), fun _ => k.v3 z (by (first | lia | omega)) h2⟩
          have hr := k.rl (z - 3 * N) (by (first | lia | omega))
          rw [k.v3 z (by (first | lia | omega)) h2]
          rcases turn2N hr with ⟨g, e⟩ | ⟨g, e⟩
          · rw [e, show 2 * N + (R (z - 3 * N) + N) = R (z - 3 * N) + N * 3 by (first | lia | omega), Nat.add_mul_mod_self_left]
          · rw [e, show 2 * N + (R (z - 3 * N) - N) = R (z - 3 * N) + N * 1 by (first | lia | omega), Nat.add_mul_mod_self_left]
      obtain ⟨i, hi, hxi, ex, ex2, ex3⟩ := und x (by (first | lia | omega)) hx
      obtain ⟨j, hj, hyj, ey, ey2, ey3⟩ := und y (by (first | lia | omega)) hy
      have hij := k.inj i hi j hj (by rw [← ex, ← ey, e])
      subst hij
      have hr := k.rl i hi
      rcases hxi with h1 | h1 <;> rcases hyj with h2 | h2
      · (first | lia | omega)
      · have g1 := ex2 h1; have g2 := ey3 h2
        rcases turn2N hr with ⟨g, e'⟩ | ⟨g, e'⟩ <;> (first | lia | omega)
      · have g1 := ex3 h1; have g2 := ey2 h2
        rcases turn2N hr with ⟨g, e'⟩ | ⟨g, e'⟩ <;> (first | lia | omega)
      · (first | lia | omega)
theorem MvOK.val (k : MvOK N m R f) (hN : 0 < N) {y : Nat} (h1 : 2 * N ≤ y) (h2 : y < 4 * N) : ∃ i, i < N ∧ y % N = i ∧ (m.getD y 0) % N = R i % N ∧ ((y < 3 * N ∧ ((m.getD y 0 < 3 * N ∧ R i / N = 0) ∨ (3 * N ≤ m.getD y 0 ∧ R i / N = 1))) ∨ (3 * N ≤ y ∧ ((3 * N ≤ m.getD y 0 ∧ R i / N = 0) ∨ (m.getD y 0 < 3 * N ∧ R i / N = 1)))) ∧ m.getD (negN N y) 0 = negN N (m.getD y 0) := by
  have dv : ∀ r, r < 2 * N → (r < N ∧ r / N = 0) ∨ (N ≤ r ∧ r / N = 1) := fun r hr => by
    by_cases q : r < N
    · left; exact ⟨q, Nat.div_eq_of_lt q⟩
    · right; exact ⟨by (first | lia | omega), by rw [Nat.div_eq_iff hN]; (first | lia | omega)⟩
  rcases mod_up hN h1 h2 with ⟨q, e⟩ | ⟨q, e⟩
  · have hr := k.rl (y - 2 * N) (by (first | lia | omega))
    refine ⟨y - 2 * N, by (first | lia | omega), e, ?_, .inl ⟨q, ?_⟩, ?_⟩
    · rw [k.v2 y h1 q, show 2 * N + R (y - 2 * N) = R (y - 2 * N) + N * 2 by (first | lia | omega), Nat.add_mul_mod_self_left]
    · rw [k.v2 y h1 q]
      rcases dv _ hr with ⟨g, g'⟩ | ⟨g, g'⟩
      · left; exact ⟨by (first | lia | omega), g'⟩
      · right; exact ⟨by (first | lia | omega), g'⟩
    · rw [k.v2 y h1 q]
      have : negN N y = y + N := by unfold negN; rw [if_pos q]
      rw [this, k.v3 (y + N) (by (first | lia | omega)) (by (first | lia | omega)), show y + N - 3 * N = y - 2 * N by (first | lia | omega)]
      unfold negN
      rcases turn2N hr with ⟨g, e'⟩ | ⟨g, e'⟩
      · rw [if_pos (by (first | lia | omega))]; (first | lia | omega)
      · rw [if_neg (by (first | lia | omega))]; (first | lia | omega)
  · have hr := k.rl (y - 3 * N) (by (first | lia | omega))
    refine ⟨y - 3 * N, by (first | lia | omega), e, ?_, .inr ⟨q, ?_⟩, ?_⟩
    · rw [k.v3 y q h2]
      rcases turn2N hr with ⟨g, e'⟩ | ⟨g, e'⟩
      · rw [e', show 2 * N + (R (y - 3 * N) + N) = R (y - 3 * N) + N * 3 by (first | lia | omega), Nat.add_mul_mod_self_left]
      · rw [e', show 2 * N + (R (y - 3 * N) - N) = R (y - 3 * N) + N * 1 by (first | lia | omega), Nat.add_mul_mod_self_left]
    · rw [k.v3 y q h2]
      rcases dv _ hr with ⟨g, g'⟩ | ⟨g, g'⟩
      · left; refine ⟨?_, g'⟩
        rcases turn2N hr with ⟨g2, e'⟩ | ⟨g2, e'⟩ <;> (first | lia | omega)
      · right; refine ⟨?_, g'⟩
        rcases turn2N hr with ⟨g2, e'⟩ | ⟨g2, e'⟩ <;> (first | lia | omega)
    · rw [k.v3 y q h2]
      have : negN N y = y - N := by unfold negN; rw [if_neg (by (first | lia | omega))]
      rw [this, k.v2 (y - N) (by (first | lia | omega)) (by (first | lia | omega)), show y - N - 2 * N = y - 3 * N by (first | lia | omega)]
      unfold negN
      rcases turn2N hr with ⟨g, e'⟩ | ⟨g, e'⟩
      · rw [if_neg (by (first | lia | omega))]; (first | lia | omega)
      · rw [if_pos (by (first | lia | omega))]; (first | lia | omega)
theorem MvOK.kin (k : MvOK N m R f) (hN : N = 8 ∨ N = 16) {x y : Nat} (hx : x < N) (h1 : 2 * N ≤ y) (h2 : y < 4 * N) : hK N (m.getD x 0) (m.getD y 0) = hK N x y := by
  have hp : 0 < N := by (first | lia | omega)
  obtain ⟨i, hi, e1, e2, e3, _⟩ := k.val hp h1 h2
  unfold hK
  rw [e1, e2, k.v0 x hx]
  have hb : R x % N < 16 := by have := Nat.mod_lt (R x) hp; (first | lia | omega)
  have hc : R i % N < 16 := by have := Nat.mod_lt (R i) hp; (first | lia | omega)
  have hf : f < 16 := by have := k.fl; (first | lia | omega)
  have px := par_xor ⟨R i % N, hc⟩ ⟨R x % N, hb⟩ ⟨f, hf⟩
  dsimp only at px
  have p1 := k.pp i hi x hx
  have p2 := k.pf i hi
  rw [Nat.and_comm, px, p1, p2, Nat.and_comm i x]
  have := par_lt (x &&& i)
  generalize par (x &&& i) = p at *
  rcases e3 with ⟨a, ⟨b, c⟩ | ⟨b, c⟩⟩ | ⟨a, ⟨b, c⟩ | ⟨b, c⟩⟩
  · rw [if_pos a, if_pos b, c]
    have e : ((p + 0) % 2 + 0) % 2 = (p + 0) % 2 := by (first | lia | omega)
    rw [e]
  · rw [if_pos a, if_neg (show ¬ m.getD y 0 < 3 * N by (first | lia | omega)), c]
    have e : ((p + 1) % 2 + 1) % 2 = (p + 0) % 2 := by (first | lia | omega)
    rw [e]
  · rw [if_neg (show ¬ y < 3 * N by (first | lia | omega)), if_neg (show ¬ m.getD y 0 < 3 * N by (first | lia | omega)), c]
    have e : ((p + 0) % 2 + 1) % 2 = (p + 1) % 2 := by (first | lia | omega)
    rw [e]
  · rw [if_neg (show ¬ y < 3 * N by (first | lia | omega)), if_pos b, c]
    have e : ((p + 1) % 2 + 0) % 2 = (p + 1) % 2 := by (first | lia | omega)
    rw [e]
end
theorem ker_of {N : Nat} (kn : KerN N) {ms : List (List Nat)} (h : ∀ m ∈ ms, ∃ R f, MvOK N m R f) : Ker N ms (hK N) (negN N) ∧ Und N ms := by
  have hN := kn.pw
  have hp : 0 < N := by (first | lia | omega)
  refine ⟨⟨⟨fun m hm => ?_, fun m hm x hx y hy e => ?_⟩, fun m hm x hx => ?_, fun m hm x h1 h2 => ?_, fun m hm x h1 h2 => ?_, fun m hm x hx y h1 h2 => ?_, fun y h1 h2 => ?_, fun m hm y h1 h2 => ?_, kn.o1, kn.o2⟩, fun m hm y h1 h2 => ?_⟩
  · obtain ⟨R, f, k⟩ := h m hm
    refine ⟨k.len, fun x hx => ?_⟩
    obtain ⟨i, hi, rfl⟩ := List.getElem_of_mem hx
    have := k.blt hN (x := i) (by rw [← k.len]; exact hi)
    rw [List.getD_eq_getElem?_getD, List.getElem?_eq_getElem hi] at this
    exact this
  · obtain ⟨R, f, k⟩ := h m hm
    exact k.inj4 hN hx hy e
  · obtain ⟨R, f, k⟩ := h m hm
    exact k.bst hN hx
  · obtain ⟨R, f, k⟩ := h m hm
    exact k.bse hp h1 h2
  · obtain ⟨R, f, k⟩ := h m hm
    exact (k.bsi hp h1 h2).1
  · obtain ⟨R, f, k⟩ := h m hm
    exact k.kin hN hx h1 h2
  · unfold negN
    by_cases q : y < 3 * N
    · rw [if_pos q, if_neg (by (first | lia | omega))]; (first | lia | omega)
    · rw [if_neg q, if_pos (by (first | lia | omega))]; (first | lia | omega)
  · obtain ⟨R, f, k⟩ := h m hm
    obtain ⟨_, _, _, _, _, e⟩ := k.val hp h1 h2
    exact e
  · obtain ⟨R, f, k⟩ := h m hm
    obtain ⟨i, hi, e1, e2, _, _⟩ := k.val hp h1 h2
    rw [e1, k.v1 (N + i) (by (first | lia | omega)) (by (first | lia | omega)), e2, show N + i - N = i by (first | lia | omega)]
end Mine
end
section
set_option maxRecDepth 100000
namespace Mine
theorem o1_8 : ∀ x z : _root_.Fin 8, Sm ((List.range 32).filter fun y => decide (16 ≤ y)) (fun y => hK 8 x.val y * hK 8 z.val y) = if x.val = z.val then 16 else 0 := by decide +kernel
theorem o1_16 : ∀ x z : _root_.Fin 16, Sm ((List.range 64).filter fun y => decide (32 ≤ y)) (fun y => hK 16 x.val y * hK 16 z.val y) = if x.val = z.val then 32 else 0 := by decide +kernel
theorem o2_8 : ∀ y z : _root_.Fin 16, Sm ((List.range 32).filter fun x => decide (x < 8)) (fun x => hK 8 x (16 + y.val) * hK 8 x (16 + z.val)) = (if 16 + y.val = 16 + z.val then 8 else 0) - if negN 8 (16 + y.val) = 16 + z.val then 8 else 0 := by decide +kernel
theorem o2_16 : ∀ y z : _root_.Fin 32, Sm ((List.range 64).filter fun x => decide (x < 16)) (fun x => hK 16 x (32 + y.val) * hK 16 x (32 + z.val)) = (if 32 + y.val = 32 + z.val then 16 else 0) - if negN 16 (32 + y.val) = 32 + z.val then 16 else 0 := by decide +kernel
theorem kern8 : KerN 8 where
  pw := .inl rfl
  o1 := fun x hx z hz => o1_8 ⟨x, hx⟩ ⟨z, hz⟩
  o2 := fun y h1 h2 z h3 h4 => by
    have := o2_8 ⟨y - 16, by (first | lia | omega)⟩ ⟨z - 16, by (first | lia | omega)⟩
    dsimp only at this
    rw [show 16 + (y - 16) = y by (first | lia | omega), show 16 + (z - 16) = z by (first | lia | omega)] at this
    exact this
theorem kern16 : KerN 16 where
  pw := .inr rfl
  o1 := fun x hx z hz => o1_16 ⟨x, hx⟩ ⟨z, hz⟩
  o2 := fun y h1 h2 z h3 h4 => by
    have := o2_16 ⟨y - 32, by (first | lia | omega)⟩ ⟨z - 32, by (first | lia | omega)⟩
    dsimp only at this
    rw [show 32 + (y - 32) = y by (first | lia | omega), show 32 + (z - 32) = z by (first | lia | omega)] at this
    exact this
theorem kern {n : Nat} (hn : n = 3 ∨ n = 4) : KerN (2 ^ n) := by
  rcases hn with rfl | rfl
  · exact kern8
  · exact kern16
theorem kf_of {N : Nat} (kn : KerN N) {ms : List (List Nat)} (h : ∀ m ∈ ms, ∃ R f, MvOK N m R f) {label : List Int} {rows : List (List Nat)} (hk : Kinds ms (4 * N) (4 * N) label rows) (sg : Bool) (hsg : sg = true → ∃ m, ms = [m]) : KF sg N label rows := by
  obtain ⟨k, hu⟩ := ker_of kn h
  have hN := kn.pw
  have hp : 0 < N := by (first | lia | omega)
  have K := hk.inv k.I
  have nl := near_len k K
  have fl := far_len k K
  have nn : ∀ r ∈ nearR N rows, r ∈ rows := fun r hr => (List.mem_filter.mp hr).1
  have nf : ∀ r ∈ farR N rows, r ∈ rows := fun r hr => (List.mem_filter.mp hr).1
  have e := congrArg List.length (near_at (N := N) K)
  rw [List.length_append] at e
  refine ⟨K.ne, by (first | lia | omega), by (first | lia | omega), by (first | lia | omega), ?_, ?_, fun row hr => ?_, ?_, labN label, fun i hi => (lab_at K hi).1, ?_, count_ok k hp hu K⟩
  · rw [lead_len fun r hr => K.ne r (nn r hr)]; (first | lia | omega)
  · rw [lead_len fun r hr => K.ne r (nf r hr)]; (first | lia | omega)
  · have := nodup_len (l₁ := row) (l₂ := List.range (4 * N)) (K.nd row hr) fun x hx => List.mem_range.mpr (K.mem_lt hr hx)
    rw [List.length_range] at this; (first | lia | omega)
  · rw [lead_iff (fun r hr => K.ne r (nn r hr)) (fun r hr => K.ne r (nf r hr))]
    constructor
    · exact fun h => .inr h
    · rintro (h | h)
      · obtain ⟨m, rfl⟩ := hsg h
        exact single_sizes k hp hu K hk.chain
      · exact h
  · refine ⟨by (first | lia | omega), fun row hr => ?_, fun i hi => ?_, fun row hr => ?_, by (first | lia | omega), by (first | lia | omega), fun i h1 h2 => ?_, fun row hr x rest hx hx1 => ?_⟩
    · obtain ⟨⟨a, t, ea, _⟩, _⟩ := K.hd row (nf row hr)
      exact ⟨a, t, ea, K.mem_lt (nf row hr) (by rw [ea]; simp)⟩
    · have := lab_near k K hi; (first | lia | omega)
    · obtain ⟨⟨a, t, ea, _⟩, _⟩ := K.hd row (nn row hr)
      have := of_decide_eq_true (List.mem_filter.mp hr).2
      rw [ea] at this
      exact ⟨a, t, ea, this⟩
    · have := lab_far k K h1 h2; (first | lia | omega)
    · have := of_decide_eq_true (List.mem_filter.mp hr).2
      rw [hx] at this
      exact told_ok k hp hu K hx1 this
end Mine
end
section
open PySem PySem.W PyProof.Rows
set_option maxRecDepth 100000
set_option maxHeartbeats 8000000
namespace Mine
section
local macro_rules | `(tactic| o_head $_) => `(tactic| assumption)
theorem hd (h : PySem.Challenge.rw_wk0045_01.row.Holds) : PySem.Challenge.rw_wk0045_01.row.Holds := by
  k_head
end
end Mine
end
section
open PySem PySem.W PyProof.Rows PySem.Calls
set_option maxRecDepth 100000
namespace Mine
noncomputable def Sub (h h' : Heap) : Prop := ∀ b o, h.get? b = some o → h'.get? b = some o
theorem Sub.refl (h : Heap) : Sub h h := fun _ _ e => e
theorem Sub.trans {h h' h'' : Heap} (a : Sub h h') (b : Sub h' h'') : Sub h h'' := fun x o e => b x o (a x o e)
theorem Sub.push (h : Heap) (o : Obj) : Sub h (h.push o) := fun _ _ e => Heap.get?_push_of_some _ e
noncomputable def Rl : Type := Addr → Obj → Prop
noncomputable def Rl.le (ρ ρ' : Rl) : Prop := ∀ a o, ρ a o → ρ' a o
theorem Rl.le.refl (ρ : Rl) : ρ.le ρ := fun _ _ e => e
theorem Rl.le.trans {ρ ρ' ρ'' : Rl} (a : ρ.le ρ') (b : ρ'.le ρ'') : ρ.le ρ'' := fun x o e => b x o (a x o e)
noncomputable def Rl.add (ρ : Rl) (a : Addr) (o : Obj) : Rl := fun b x => ρ b x ∨ (b = a ∧ x = o)
theorem Rl.le_add (ρ : Rl) (a : Addr) (o : Obj) : ρ.le (ρ.add a o) := fun _ _ e => .inl e
theorem Rl.at_add (ρ : Rl) (a : Addr) (o : Obj) : ρ.add a o a o := .inr ⟨rfl, rfl⟩
noncomputable def lk : List Str → List (Option Value) → Str → Option Value
  | n :: ns, v :: l, y => if y = n then v else lk ns l y
  | _, _, _ => none
theorem lk_get : ∀ {ns : List Str} {l : List (Option Value)} {i : Nat} {x : Str} {v : Option Value}, ns.Nodup → ns[i]? = some x → l[i]? = some v → lk ns l x = v
  | n :: ns, w :: l, 0, x, v, _, hx, hv => by
    simp at hx hv; subst hx; subst hv; simp [lk]
  | n :: ns, w :: l, i + 1, x, v, nd, hx, hv => by
    simp only [List.getElem?_cons_succ] at hx hv
    have hn := List.nodup_cons.mp nd
    have hne : x ≠ n := fun e => hn.1 (e ▸ List.mem_of_getElem? hx)
    simp only [lk, if_neg hne]
    exact lk_get hn.2 hx hv
  | [], _, i, x, v, _, hx, _ => by simp at hx
  | n :: ns, [], i, x, v, _, _, hv => by simp at hv
theorem lk_set : ∀ {ns : List Str} {l : List (Option Value)} {i : Nat} {x : Str} {v : Option Value}, ns.Nodup → ns[i]? = some x → ns.length = l.length →
    (fun y => if y = x then v else lk ns l y) = lk ns (l.set i v)
  | n :: ns, w :: l, 0, x, v, _, hx, _ => by
    simp at hx; subst hx
    funext y
    simp only [lk, List.set]
    by_cases h : y = n <;> simp [h]
  | n :: ns, w :: l, i + 1, x, v, nd, hx, hl => by
    simp only [List.getElem?_cons_succ] at hx
    have hn := List.nodup_cons.mp nd
    have hne : x ≠ n := fun e => hn.1 (e ▸ List.mem_of_getElem? hx)
    have ih := lk_set (v := v) hn.2 hx (by simpa using hl)
    funext y
    simp only [lk, List.set]
    rw [← ih]
    by_cases h : y = n
    · subst h; simp [Ne.symm hne]
    · simp [h]
  | [], _, i, x, v, _, hx, _ => by simp at hx
  | n :: ns, [], i, x, v, _, _, hl => by simp at hl
structure FrC where
  h₀ : Heap
  ρ₀ : Rl
  L : Addr
  ns : List Str
structure St (c : FrC) (l : List (Option Value)) (mu : List (Addr × Obj)) (ρ : Rl) (h : Heap) : Prop where
  F : Fr c.h₀ c.L h (lk c.ns l)
  ln : c.ns.length = l.length
  nd : c.ns.Nodup
  N : News c.h₀ c.L h mu
  md : (mu.map (·.1)).Nodup
  fz : ∀ a o, ρ a o → h.get? a = some o ∧ a ≠ c.L ∧ a ∉ mu.map (·.1)
  ex : ∀ a o, ρ a o → c.ρ₀ a o ∨ c.h₀.get? a = none
  le : c.ρ₀.le ρ
section
variable {c : FrC} {l : List (Option Value)} {mu : List (Addr × Obj)} {ρ ρ' : Rl} {h h' : Heap}
theorem St.get (S : St c l mu ρ h) {a : Addr} {o : Obj} (e : ρ a o) : h.get? a = some o := (S.fz a o e).1
theorem St.muget (S : St c l mu ρ h) {a : Addr} {o : Obj} {k : Nat} (e : mu[k]? = some (a, o)) : h.get? a = some o := (S.N _ (List.mem_of_getElem? e)).1
theorem St.lt (S : St c l mu ρ h) : c.L < h.objs.size := S.F.ns.lt
theorem St.set (S : St c l mu ρ h) {i : Nat} {x : Str} {v : Value} (hx : c.ns[i]? = some x) (hn : h'.Ns c.L (fun y => if y = x then some v else lk c.ns l y)) (hs : Heap.SameBut c.L h h') :
    St c (l.set i (some v)) mu ρ h' where
  F := by have := S.F.set hn hs; rwa [lk_set S.nd hx S.ln] at this
  ln := by simpa using S.ln
  nd := S.nd
  N := S.N.set hs
  md := S.md
  fz := fun a o e => ⟨(hs.2 a (S.fz a o e).2.1).trans (S.fz a o e).1, (S.fz a o e).2⟩
  ex := S.ex
  le := S.le
theorem St.sub (S : St c l mu ρ h) (hk : Sub h h') : St c l mu ρ h' where
  F := ⟨S.F.ns.keeps hk, fun b o e => hk b o (S.F.keep b o e), S.F.above⟩
  ln := S.ln
  nd := S.nd
  N := fun p hp => ⟨hk _ _ (S.N p hp).1, (S.N p hp).2⟩
  md := S.md
  fz := fun a o e => ⟨hk _ _ (S.fz a o e).1, (S.fz a o e).2⟩
  ex := S.ex
  le := S.le
theorem St.grow (S : St c l mu ρ h) (hk : Sub h h') (hle : ρ.le ρ') (hin : ∀ a o, ρ' a o → h'.get? a = some o) (hex : ∀ a o, ρ' a o → ρ a o ∨ h.get? a = none) : St c l mu ρ' h' where
  F := ⟨S.F.ns.keeps hk, fun b o e => hk b o (S.F.keep b o e), S.F.above⟩
  ln := S.ln
  nd := S.nd
  N := fun p hp => ⟨hk _ _ (S.N p hp).1, (S.N p hp).2⟩
  md := S.md
  fz := fun a o e => by
    refine ⟨hin a o e, ?_⟩
    rcases hex a o e with q | q
    · exact (S.fz a o q).2
    · refine ⟨?_, ?_⟩
      · rintro rfl
        obtain ⟨oL, _, _, hL, _⟩ := S.F.ns
        rw [hL] at q; cases q
      · intro hm
        obtain ⟨p, hp, e'⟩ := List.mem_map.mp hm
        have := (S.N p hp).1
        rw [e', q] at this; cases this
  ex := fun a o e => by
    rcases hex a o e with q | q
    · exact S.ex a o q
    · refine .inr ?_
      cases q' : c.h₀.get? a with
      | none => rfl
      | some o' => rw [S.F.keep _ _ q'] at q; cases q
  le := fun a o e => hle a o (S.le a o e)
theorem fresh_size (h : Heap) : h.get? h.objs.size = none := by
  cases e : h.get? h.objs.size with
  | none => rfl
  | some o => exact absurd (Heap.lt_size e) (Nat.lt_irrefl _)
theorem St.push (S : St c l mu ρ h) (o : Obj) (ho : o.isFreed = false := by rfl) : St c l mu (ρ.add h.objs.size o) (h.push o) :=
  S.grow (Sub.push h o) (ρ.le_add _ _) (fun a x e => by
    rcases e with e | ⟨rfl, rfl⟩
    · exact Heap.get?_push_of_some _ (S.get e)
    · exact Heap.get?_push_size _ ho) fun a x e => by
    rcases e with e | ⟨rfl, rfl⟩
    · exact .inl e
    · exact .inr (fresh_size h)
theorem St.new (S : St c l mu ρ h) {a : Addr} {o : Obj} (hk : Sub h h') (ha : h.get? a = none) (ho : h'.get? a = some o) : St c l mu (ρ.add a o) h' :=
  S.grow hk (ρ.le_add _ _) (fun b x e => by
    rcases e with e | ⟨rfl, rfl⟩
    · exact hk _ _ (S.get e)
    · exact ho) fun b x e => by
    rcases e with e | ⟨rfl, rfl⟩
    · exact .inl e
    · exact .inr ha
theorem St.newMu (S : St c l mu ρ h) {a : Addr} {o : Obj} (hk : Sub h h') (ha : h.get? a = none) (ho : h'.get? a = some o) : St c l ((a, o) :: mu) ρ h' where
  F := ⟨S.F.ns.keeps hk, fun b o e => hk b o (S.F.keep b o e), S.F.above⟩
  ln := S.ln
  nd := S.nd
  N := fun p hp => by
    rcases List.mem_cons.mp hp with rfl | hp
    · refine ⟨ho, ?_, ?_⟩
      · rintro rfl
        obtain ⟨oL, _, _, hL, _⟩ := S.F.ns
        rw [hL] at ha; cases ha
      · cases q' : c.h₀.get? a with
        | none => rfl
        | some o' => rw [S.F.keep _ _ q'] at ha; cases ha
    · exact ⟨hk _ _ (S.N p hp).1, (S.N p hp).2⟩
  md := by
    rw [List.map_cons, List.nodup_cons]
    refine ⟨fun hm => ?_, S.md⟩
    obtain ⟨p, hp, e'⟩ := List.mem_map.mp hm
    have := (S.N p hp).1
    rw [e'] at this
    simp only [ha] at this
    cases this
  fz := fun b x e => by
    refine ⟨hk _ _ (S.fz b x e).1, (S.fz b x e).2.1, ?_⟩
    rw [List.map_cons, List.mem_cons]
    rintro (rfl | q)
    · rw [S.get e] at ha; cases ha
    · exact (S.fz b x e).2.2 q
  ex := S.ex
  le := S.le
theorem St.pushMu (S : St c l mu ρ h) (o : Obj) (ho : o.isFreed = false := by rfl) : St c l ((h.objs.size, o) :: mu) ρ (h.push o) :=
  S.newMu (Sub.push h o) (fresh_size h) (Heap.get?_push_size _ ho)
theorem nodup_set {α β : Type} {l : List (α × β)} {k : Nat} {a : α} {b b' : β} (hk : l[k]? = some (a, b)) : (l.set k (a, b')).map (·.1) = l.map (·.1) := by
  rw [List.map_set]
  apply List.ext_getElem?
  intro i
  rw [List.getElem?_set]
  split
  · rename_i e; subst e
    rw [List.getElem?_map, hk]
    split
    · rfl
    · rename_i h; rw [List.length_map] at h; have := (List.getElem?_eq_some_iff.mp hk).1; (first | lia | omega)
  · rfl
theorem St.mut (S : St c l mu ρ h) {k : Nat} {d : Addr} {o o' : Obj} (hk : mu[k]? = some (d, o)) (hd : h'.get? d = some o') (hs : ∀ b x, b ≠ d → h.get? b = some x → h'.get? b = some x) :
    St c l (mu.set k (d, o')) ρ h' := by
  have hm := List.mem_of_getElem? hk
  have hN := S.N _ hm
  have keep : ∀ b x, c.h₀.get? b = some x → h'.get? b = some x := fun b x e => hs b x (fun q => by
    rw [q, hN.2.2] at e; cases e) (S.F.keep b x e)
  refine ⟨⟨?_, keep, S.F.above⟩, S.ln, S.nd, ?_, ?_, ?_, S.ex, S.le⟩
  · obtain ⟨oL, es, ep, hL, r⟩ := S.F.ns
    exact ⟨oL, es, ep, hs _ _ (Ne.symm hN.2.1) hL, r⟩
  · intro p hp
    obtain ⟨i, hi, e⟩ := List.getElem_of_mem hp
    rw [List.getElem_set] at e
    split at e
    · subst e; exact ⟨hd, hN.2⟩
    · rename_i hne
      have hi' : i < mu.length := by simpa using hi
      subst e
      refine ⟨hs _ _ (fun q => hne ?_) (S.N _ (List.getElem_mem hi')).1, (S.N _ (List.getElem_mem hi')).2⟩
      have hkl := (List.getElem?_eq_some_iff.mp hk)
      have hdj := S.md
      have e1 : (mu.map (·.1))[i]? = some d := by rw [List.getElem?_map, List.getElem?_eq_getElem hi']; simp [q]
      have e2 : (mu.map (·.1))[k]? = some d := by rw [List.getElem?_map, hk]; rfl
      exact ((List.getElem?_inj (by simpa using hkl.1) hdj).mp (e2.trans e1.symm))
  · rw [nodup_set hk]; exact S.md
  · intro a x e
    refine ⟨hs _ _ (fun q => (S.fz a x e).2.2 ?_) (S.get e), (S.fz a x e).2.1, ?_⟩
    · rw [q]; exact List.mem_map_of_mem hm
    · rw [nodup_set hk]; exact (S.fz a x e).2.2
theorem St.freeze (S : St c l mu ρ h) {k : Nat} {d : Addr} {o : Obj} (hk : mu[k]? = some (d, o)) : St c l (mu.eraseIdx k) (ρ.add d o) h := by
  have hm := List.mem_of_getElem? hk
  have hN := S.N _ hm
  have hsub : (mu.eraseIdx k).Sublist mu := List.eraseIdx_sublist ..
  refine ⟨S.F, S.ln, S.nd, fun p hp => S.N p (hsub.subset hp), (hsub.map _).nodup S.md, ?_, ?_, fun a x e => .inl (S.le a x e)⟩
  · rintro a x (e | ⟨rfl, rfl⟩)
    · exact ⟨S.get e, (S.fz a x e).2.1, fun q => (S.fz a x e).2.2 ((hsub.map _).subset q)⟩
    · refine ⟨hN.1, hN.2.1, fun q => ?_⟩
      obtain ⟨p, hp, e⟩ := List.mem_map.mp q
      obtain ⟨i, hi, e'⟩ := List.getElem_of_mem hp
      have hkl := List.getElem?_eq_some_iff.mp hk
      have hdj := S.md
      rw [List.getElem_eraseIdx] at e'
      split at e'
      · rename_i hlt
        have hi' : i < mu.length := by have := hkl.1; (first | lia | omega)
        have e1 : (mu.map (·.1))[i]? = some a := by rw [List.getElem?_map, List.getElem?_eq_getElem hi']; simp [e', e]
        have e2 : (mu.map (·.1))[k]? = some a := by rw [List.getElem?_map, hk]; rfl
        have := (List.getElem?_inj (by simpa using hkl.1) hdj).mp (e2.trans e1.symm)
        (first | lia | omega)
      · rename_i hge
        have hi' : i + 1 < mu.length := by rw [List.length_eraseIdx] at hi; split at hi <;> (first | lia | omega)
        have e1 : (mu.map (·.1))[i + 1]? = some a := by rw [List.getElem?_map, List.getElem?_eq_getElem hi']; simp [e', e]
        have e2 : (mu.map (·.1))[k]? = some a := by rw [List.getElem?_map, hk]; rfl
        have := (List.getElem?_inj (by simpa using hkl.1) hdj).mp (e2.trans e1.symm)
        (first | lia | omega)
  · rintro a x (e | ⟨rfl, rfl⟩)
    · exact S.ex a x e
    · exact .inr hN.2.2
theorem St.drop (S : St c l mu ρ h) {mu' : List (Addr × Obj)} (hs : mu'.Sublist mu) : St c l mu' ρ h :=
  ⟨S.F, S.ln, S.nd, fun p hp => S.N p (hs.subset hp), (hs.map _).nodup S.md, fun a x e => ⟨S.get e, (S.fz a x e).2.1, fun q => (S.fz a x e).2.2 ((hs.map _).subset q)⟩, S.ex, S.le⟩
theorem St.perm (S : St c l mu ρ h) {mu' : List (Addr × Obj)} (hs : mu'.Perm mu) : St c l mu' ρ h :=
  ⟨S.F, S.ln, S.nd, fun p hp => S.N p (hs.mem_iff.mp hp), (hs.map _).nodup_iff.mpr S.md, fun a x e => ⟨S.get e, (S.fz a x e).2.1, fun q => (S.fz a x e).2.2 ((hs.map _).mem_iff.mp q)⟩, S.ex, S.le⟩
theorem St.off {I : Addr} {f : Obj} (S : St c l ((I, f) :: mu) ρ h) (hk : ∀ b x, b ≠ I → h.get? b = some x → h'.get? b = some x) : St c l mu ρ h' := by
  have S₀ := S.drop (mu' := mu) (List.sublist_cons_self _ _)
  have hI := S.N (I, f) (by simp)
  refine ⟨⟨?_, fun b x e => hk b x (fun q => ?_) (S.F.keep b x e), S.F.above⟩, S₀.ln, S₀.nd, fun p hp => ⟨hk _ _ (fun q => ?_) (S₀.N p hp).1, (S₀.N p hp).2⟩, S₀.md, fun b x e => ⟨hk _ _ (fun q => (S.fz b x e).2.2 (by rw [q]; simp)) (S₀.get e), (S₀.fz b x e).2⟩, S₀.ex, S₀.le⟩
  · obtain ⟨oL, es, ep, hL, r⟩ := S.F.ns
    exact ⟨oL, es, ep, hk _ _ (fun q => hI.2.1 q.symm) hL, r⟩
  · have := hI.2.2; rw [← q, e] at this; cases this
  · have hmd := S.md
    rw [List.map_cons, List.nodup_cons] at hmd
    exact hmd.1 (List.mem_map.mpr ⟨p, hp, q⟩)
end
structure Gl (K : Frag) (h : Heap) : Prop where
  X : K.In h
  T : ∃ p loose mg mb, TopRead p loose mg mb h
theorem Gl.keeps {K : Frag} {h h' : Heap} (g : Gl K h) (hk : Sub h h') : Gl K h' :=
  ⟨g.X.keeps hk, let ⟨p, lo, mg, mb, T⟩ := g.T; ⟨p, lo, mg, mb, T.keeps hk⟩⟩
structure Cx (K : Frag) (A : Around) (h : Heap) : Prop where
  fr : ∃ env outer A₀ base h₀ L m, A.frames = some (env :: outer) ∧ env.frame = some L ∧ env.scope.kind = .function ∧ Below A₀ base outer h₀ ∧ Fr h₀ L h m
  hh : A.handled = none
  gl : Gl K h
theorem Cx.keeps {K : Frag} {A : Around} {h h' : Heap} (C : Cx K A h) (hk : Sub h h') : Cx K A h' :=
  ⟨let ⟨env, outer, A₀, base, h₀, L, m, a, b, c, d, F⟩ := C.fr
   ⟨env, outer, A₀, base, h₀, L, m, a, b, c, d, ⟨F.ns.keeps hk, fun x o e => hk x o (F.keep x o e), F.above⟩⟩, C.hh, C.gl.keeps hk⟩
theorem Cx.in1 {K : Frag} {A : Around} {h : Heap} (C : Cx K A h) : Cx K A.in1 h := ⟨C.fr, C.hh, C.gl⟩
structure Bx (K : Frag) (c : FrC) (A : Around) (env : Env) : Prop where
  fr : ∃ outer A₀ base, A.frames = some (env :: outer) ∧ Below A₀ base outer c.h₀
  hf : env.frame = some c.L
  hl : env.locals = c.L
  hk : env.scope.kind = .function
  hg : env.globals = mainGlobals
  hb : env.builtins = builtinsNs
  hh : A.handled = none
  gl : Gl K c.h₀
theorem Bx.cx {K : Frag} {c : FrC} {A : Around} {env : Env} (B : Bx K c A env) {l mu ρ h} (S : St c l mu ρ h) : Cx K A h :=
  ⟨let ⟨outer, A₀, base, a, b⟩ := B.fr; ⟨env, outer, A₀, base, c.h₀, c.L, _, a, B.hf, B.hk, b, S.F⟩, B.hh, B.gl.keeps S.F.keep⟩
theorem Bx.gl' {K : Frag} {c : FrC} {A : Around} {env : Env} (B : Bx K c A env) {l mu ρ h} (S : St c l mu ρ h) : Gl K h := B.gl.keeps S.F.keep
noncomputable def CallOK (prog : Program) (w : World) (K : Frag) (f : Value) (ar : Args) (dn un : Nat) (h : Heap) (ρ : Rl) (Post : Rl → Value → Prop) : Prop :=
  ∀ (A : Around) (R : Result → Shared → Prop) (G : Array GenState) (D : Drawn) (O : OsState) (t : Nat), Cx K A h → A.depth + dn < recursionLimit → A.units + un < cLine →
    (∀ a o, ρ a o → h.get? a = some o) →
    (∀ r h' t' ρ', Sub h h' → ρ.le ρ' → (∀ a o, ρ' a o → h'.get? a = some o) → (∀ a o, ρ' a o → ρ a o ∨ h.get? a = none) → Post ρ' r → R (.ok (.ret r)) ⟨h', G, D, t', O⟩) →
    codeAny (model prog w) A (.call f ar) R ⟨h, G, D, t, O⟩
noncomputable def Fin (c : FrC) (G : Array GenState) (D : Drawn) (O : OsState) (Post : Rl → Value → Prop) (r : Value) (s : Shared) : Prop :=
  ∃ l mu ρ h t, s = ⟨h, G, D, t, O⟩ ∧ St c l mu ρ h ∧ Post ρ r
theorem Fin.intro {c : FrC} {G : Array GenState} {D : Drawn} {O : OsState} {Post : Rl → Value → Prop} {r : Value} {l mu ρ h t} (S : St c l mu ρ h) (p : Post ρ r) : Fin c G D O Post r ⟨h, G, D, t, O⟩ := ⟨l, mu, ρ, h, t, rfl, S, p⟩
theorem start_cx {K : Frag} {A : Around} {h : Heap} (C : Cx K A h) {env' : Env} : ∃ outer A₀ base, (A.deeper env').frames = some (env' :: outer) ∧ Below A₀ base outer h := by
  obtain ⟨env, outer, A₀, base, h₀, L, m, hA, hf, hk, B, F⟩ := C.fr
  refine ⟨env :: outer, A, base, Around.frames_deeper hA, ⟨hA, fun b o e => F.keep b o (B.stays b o e), (pushX B F hf hk).frames⟩⟩
theorem start_st {h h₁ : Heap} {ρ : Rl} {ns : List Str} {l₀ : List (Option Value)} {m : Str → Option Value} (hρ : ∀ a o, ρ a o → h.get? a = some o) (hns : h₁.Ns h.objs.size m) (hk : Sub h h₁)
    (hm : m = lk ns l₀) (hnd : ns.Nodup) (hln : ns.length = l₀.length) : St ⟨h, ρ, h.objs.size, ns⟩ l₀ [] ρ h₁ where
  F := ⟨hm ▸ hns, hk, Nat.le_refl _⟩
  ln := hln
  nd := hnd
  N := News.nil
  md := List.nodup_nil
  fz := fun a o e => ⟨hk _ _ (hρ a o e), Nat.ne_of_lt (Heap.lt_size (hρ a o e)), by simp⟩
  ex := fun a o e => .inl e
  le := Rl.le.refl _
section
variable {prog : Program} {w : World} {K : Frag}
theorem call_def0 {name qual : Str} {params : Arguments} {body : List Stmt} {scope : Scope} {dV kV doc pm cdv ct oc : Value} {an od : Option Addr} {osl : Array (Option Value)} {f : Addr} {args : Args} {binds : List (Str × Value)}
    {ns : List Str} {l₀ : List (Option Value)} {dn un : Nat} {h : Heap} {ρ : Rl} {Post : Rl → Value → Prop}
    (ho : K.lookup f = some ⟨oc, od, .func (fnOf name qual params body scope dV kV doc pm an cdv ct), osl⟩) (hcd : codeIn K cdv qual = true)
    (hbind : ∀ s : Shared, K.In s.heap → BindsTo s (fnOf name qual params body scope dV kV doc pm an cdv ct) args binds) (hloc : ∀ y ∈ binds, scope.names.lookup y.1 = some .local)
    (hns : (fun x => binds.reverse.lookup x) = lk ns l₀) (hnd : ns.Nodup) (hln : ns.length = l₀.length)
    (hco : scope.isCoroutine = false) (hgen : scope.isGenerator = false) (hk : scope.kind = .function) (hcell : ∀ x ∈ scope.names, x.2 ≠ .cell)
    (hbody : ∀ A L h₁ G D O t E, Bx K ⟨h, ρ, L, ns⟩ A (envOf qual scope L f cdv) → A.depth + dn < recursionLimit → A.units + un < cLine → St ⟨h, ρ, L, ns⟩ l₀ [] ρ h₁ →
      ∀ QQ : Flow → Shared → Prop, (∀ fl s', Fin ⟨h, ρ, L, ns⟩ G D O Post (match fl with | .ret v => v | _ => .none) s' → QQ fl s') → wpAny (model prog w) A (execs body (envOf qual scope L f cdv)) QQ E ⟨h₁, G, D, t, O⟩) :
    CallOK prog w K (.ref f) args (dn + 1) (un + 3) h ρ Post := by
  intro A R G D O t C hd hu hρ hR
  obtain ⟨p, loose, mg, mb, T⟩ := C.gl.T
  refine codeAny_call_def (s := ⟨h, G, D, t, O⟩) (fd := fnOf name qual params body scope dV kV doc pm an cdv ct) (body := body) (binds := binds) (by (first | lia | omega)) (C.gl.X _ _ ho) rfl T.nolimit (codeRec_of C.gl.X hcd) rfl (hbind _ C.gl.X) hcell hloc (fun h₁ hns₁ hk₁ => ?_) hco hgen hk
  refine wpAny_mono (hbody _ h.objs.size h₁ G D O _ _ ⟨start_cx C, rfl, rfl, hk, rfl, rfl, C.hh, C.gl⟩ (by show A.depth + 1 + dn < _; (first | lia | omega)) (by show A.units + 3 + un < _; (first | lia | omega)) (start_st hρ hns₁ hk₁ hns hnd hln) _ fun _ _ x => x) (fun fl s' hf => ?_) fun _ _ x => x
  obtain ⟨l, mu, ρ', h', t', rfl, S, P⟩ := hf
  exact hR _ h' t' ρ' S.F.keep S.le (fun a o e => S.get e) (fun a o e => S.ex a o e) P
theorem start_cells {h h₁ : Heap} {ρ : Rl} {ns : List Str} {l₀ : List (Option Value)} {m : Str → Option Value} {cells : List (Addr × Obj)} (hρ : ∀ a o, ρ a o → h.get? a = some o) (hns : h₁.Ns h.objs.size m) (hk : Sub h h₁)
    (hm : m = lk ns l₀) (hnd : ns.Nodup) (hln : ns.length = l₀.length) (N : News h h.objs.size h₁ cells) (hcd : (cells.map (·.1)).Nodup) : St ⟨h, ρ, h.objs.size, ns⟩ l₀ cells ρ h₁ where
  F := ⟨hm ▸ hns, hk, Nat.le_refl _⟩
  ln := hln
  nd := hnd
  N := N
  md := hcd
  fz := fun a o e => ⟨hk _ _ (hρ a o e), Nat.ne_of_lt (Heap.lt_size (hρ a o e)), fun q => by
    obtain ⟨p, hp, e'⟩ := List.mem_map.mp q
    have := (N p hp).2.2
    rw [e', hρ a o e] at this; cases this⟩
  ex := fun a o e => .inl e
  le := Rl.le.refl _
theorem cellsAre_addrs {cm : Str → Option Value} {cs : List (Str × Addr)} {cells : List (Addr × Obj)} (x : CellsAre cm cs cells) : cells.map (·.1) = cs.map (·.2) := by
  induction x with
  | nil => rfl
  | cons _ _ ih => simp only [List.map_cons, ih]
theorem call_defC {name qual : Str} {params : Arguments} {body : List Stmt} {scope : Scope} {dV kV doc pm cdv ct oc : Value} {an od : Option Addr} {osl : Array (Option Value)} {f : Addr} {args : Args} {binds : List (Str × Value)}
    {ns : List Str} {l₀ : List (Option Value)} {dn un : Nat} {h : Heap} {ρ : Rl} {Post : Rl → Value → Prop}
    (ho : K.lookup f = some ⟨oc, od, .func (fnOf name qual params body scope dV kV doc pm an cdv ct), osl⟩) (hcd : codeIn K cdv qual = true)
    (hbind : ∀ s : Shared, K.In s.heap → BindsTo s (fnOf name qual params body scope dV kV doc pm an cdv ct) args binds)
    (hkind : (binds.all fun y => scope.names.lookup y.1 == some .local || scope.names.lookup y.1 == some .cell) = true)
    (hndc : ((cellsFrom 0 scope.names []).map (·.1)).Nodup)
    (hns : bindL (fun x => scope.names.lookup x) binds (fun _ => none) = lk ns l₀) (hnd : ns.Nodup) (hln : ns.length = l₀.length)
    (hco : scope.isCoroutine = false) (hgen : scope.isGenerator = false) (hk : scope.kind = .function)
    (hbody : ∀ A L h₁ G D O t cells E, CellsAre (bindC (fun x => scope.names.lookup x) binds fun _ => none) (cellsFrom (L + 1) scope.names []) cells → Bx K ⟨h, ρ, L, ns⟩ A (envOfC qual scope L f cdv) → A.depth + dn < recursionLimit → A.units + un < cLine → St ⟨h, ρ, L, ns⟩ l₀ cells ρ h₁ →
      ∀ QQ : Flow → Shared → Prop, (∀ fl s', Fin ⟨h, ρ, L, ns⟩ G D O Post (match fl with | .ret v => v | _ => .none) s' → QQ fl s') → wpAny (model prog w) A (execs body (envOfC qual scope L f cdv)) QQ E ⟨h₁, G, D, t, O⟩) :
    CallOK prog w K (.ref f) args (dn + 1) (un + 3) h ρ Post := by
  intro A R G D O t C hd hu hρ hR
  obtain ⟨p, loose, mg, mb, T⟩ := C.gl.T
  refine codeAny_call_function (s := ⟨h, G, D, t, O⟩) (fd := fnOf name qual params body scope dV kV doc pm an cdv ct) (body := body) (by (first | lia | omega)) (C.gl.X _ _ ho) rfl hco hgen rfl (codeRec_of C.gl.X hcd) (hbind _ C.gl.X _ _ _ _ ?_)
  refine wpAny_newFunctionEnv_cells hk (kindsX hkind _) fun env' he s' x => ?_
  subst he
  refine ⟨T.nolimit.keeps x.toInCall.keep, codeAny_func ?_⟩
  obtain ⟨h₁, tk, rfl, _⟩ := x.done
  have hk₁ : Sub h h₁ := x.toInCall.keep
  obtain ⟨cells, NC, Y⟩ := Cl.news (h₀ := h) (L := h.objs.size) (Nat.le_refl _) fun n c hm => ⟨x.cell n c (lookup_of_mem_nodup (cellsFrom_names scope.names 0 (h.objs.size + 1) [] [] rfl ▸ hndc) hm), x.above n c hm⟩
  have hmd : (cells.map (·.1)).Nodup := by
    rw [cellsAre_addrs Y]
    exact (List.pairwise_map.mpr x.apart)
  refine wpAny_mono (hbody _ h.objs.size h₁ G D O tk cells _ Y ⟨start_cx C, rfl, rfl, hk, rfl, rfl, C.hh, C.gl⟩ (by show A.depth + 1 + dn < _; (first | lia | omega)) (by show A.units + 3 + un < _; (first | lia | omega)) (start_cells hρ x.toInCall.ns hk₁ hns hnd hln NC hmd) _ fun _ _ x => x) (fun fl s' hf => ?_) fun _ _ x => x
  obtain ⟨l, mu, ρ', h', t', rfl, S, P⟩ := hf
  exact hR _ h' t' ρ' S.F.keep S.le (fun a o e => S.get e) (fun a o e => S.ex a o e) P
theorem CallOK.mono {f : Value} {ar : Args} {dn un dn' un' : Nat} {h : Heap} {ρ : Rl} {Post Post' : Rl → Value → Prop} (x : CallOK prog w K f ar dn un h ρ Post) (hd : dn ≤ dn') (hu : un ≤ un') (hp : ∀ ρ' r, ρ.le ρ' → Post ρ' r → Post' ρ' r) :
    CallOK prog w K f ar dn' un' h ρ Post' := fun A R G D O t C h1 h2 h3 h4 => x A R G D O t C (by (first | lia | omega)) (by (first | lia | omega)) h3 fun r h' t' ρ' a b c d e => h4 r h' t' ρ' a b c d (hp _ _ b e)
theorem CallOK.use {f : Value} {pos : List Value} {kw : List (Str × Value)} {dn un : Nat} {h : Heap} {ρ : Rl} {Post : Rl → Value → Prop} {c : FrC} {l mu} {A : Around} {env : Env} {Q : Value → Shared → Prop} {E : Value → Shared → Prop} {G D t O}
    (x : CallOK prog w K f ⟨pos, kw⟩ dn un h ρ Post) (B : Bx K c A env) (S : St c l mu ρ h) (hd : A.depth + dn < recursionLimit) (hu : A.units + un < cLine)
    (k : ∀ r h' t' ρ', St c l mu ρ' h' → ρ.le ρ' → Post ρ' r → Q r ⟨h', G, D, t', O⟩) : wpAny (model prog w) A (call f pos kw) Q E ⟨h, G, D, t, O⟩ :=
  wpAny_call (x A _ G D O t (B.cx S) hd hu (fun _ _ e => S.get e) fun r h' t' ρ' a b c' d e => k r h' t' ρ' (S.grow a b c' d) b e)
end
end Mine
end
section
open PySem PySem.W PyProof.Rows PySem.Calls
set_option maxRecDepth 100000
namespace Mine
theorem cps {G : Prop} (h : ∀ X : Prop, (G → X) → X) : G := h G id
theorem ix0 {α : Type} {a0 : α} {l : List α} : (a0 :: l)[0]? = some a0 := rfl
theorem ix1 {α : Type} {a0 a1 : α} {l : List α} : (a0 :: a1 :: l)[1]? = some a1 := rfl
theorem ix2 {α : Type} {a0 a1 a2 : α} {l : List α} : (a0 :: a1 :: a2 :: l)[2]? = some a2 := rfl
theorem ix3 {α : Type} {a0 a1 a2 a3 : α} {l : List α} : (a0 :: a1 :: a2 :: a3 :: l)[3]? = some a3 := rfl
theorem ix4 {α : Type} {a0 a1 a2 a3 a4 : α} {l : List α} : (a0 :: a1 :: a2 :: a3 :: a4 :: l)[4]? = some a4 := rfl
theorem ix5 {α : Type} {a0 a1 a2 a3 a4 a5 : α} {l : List α} : (a0 :: a1 :: a2 :: a3 :: a4 :: a5 :: l)[5]? = some a5 := rfl
theorem ix6 {α : Type} {a0 a1 a2 a3 a4 a5 a6 : α} {l : List α} : (a0 :: a1 :: a2 :: a3 :: a4 :: a5 :: a6 :: l)[6]? = some a6 := rfl
theorem ix7 {α : Type} {a0 a1 a2 a3 a4 a5 a6 a7 : α} {l : List α} : (a0 :: a1 :: a2 :: a3 :: a4 :: a5 :: a6 :: a7 :: l)[7]? = some a7 := rfl
theorem ix8 {α : Type} {a0 a1 a2 a3 a4 a5 a6 a7 a8 : α} {l : List α} : (a0 :: a1 :: a2 :: a3 :: a4 :: a5 :: a6 :: a7 :: a8 :: l)[8]? = some a8 := rfl
theorem ix9 {α : Type} {a0 a1 a2 a3 a4 a5 a6 a7 a8 a9 : α} {l : List α} : (a0 :: a1 :: a2 :: a3 :: a4 :: a5 :: a6 :: a7 :: a8 :: a9 :: l)[9]? = some a9 := rfl
theorem ix10 {α : Type} {a0 a1 a2 a3 a4 a5 a6 a7 a8 a9 a10 : α} {l : List α} : (a0 :: a1 :: a2 :: a3 :: a4 :: a5 :: a6 :: a7 :: a8 :: a9 :: a10 :: l)[10]? = some a10 := rfl
theorem ix11 {α : Type} {a0 a1 a2 a3 a4 a5 a6 a7 a8 a9 a10 a11 : α} {l : List α} : (a0 :: a1 :: a2 :: a3 :: a4 :: a5 :: a6 :: a7 :: a8 :: a9 :: a10 :: a11 :: l)[11]? = some a11 := rfl
theorem ix12 {α : Type} {a0 a1 a2 a3 a4 a5 a6 a7 a8 a9 a10 a11 a12 : α} {l : List α} : (a0 :: a1 :: a2 :: a3 :: a4 :: a5 :: a6 :: a7 :: a8 :: a9 :: a10 :: a11 :: a12 :: l)[12]? = some a12 := rfl
theorem ix13 {α : Type} {a0 a1 a2 a3 a4 a5 a6 a7 a8 a9 a10 a11 a12 a13 : α} {l : List α} : (a0 :: a1 :: a2 :: a3 :: a4 :: a5 :: a6 :: a7 :: a8 :: a9 :: a10 :: a11 :: a12 :: a13 :: l)[13]? = some a13 := rfl
theorem ix14 {α : Type} {a0 a1 a2 a3 a4 a5 a6 a7 a8 a9 a10 a11 a12 a13 a14 : α} {l : List α} : (a0 :: a1 :: a2 :: a3 :: a4 :: a5 :: a6 :: a7 :: a8 :: a9 :: a10 :: a11 :: a12 :: a13 :: a14 :: l)[14]? = some a14 := rfl
theorem ix15 {α : Type} {a0 a1 a2 a3 a4 a5 a6 a7 a8 a9 a10 a11 a12 a13 a14 a15 : α} {l : List α} : (a0 :: a1 :: a2 :: a3 :: a4 :: a5 :: a6 :: a7 :: a8 :: a9 :: a10 :: a11 :: a12 :: a13 :: a14 :: a15 :: l)[15]? = some a15 := rfl
structure Ev (env : Env) : Prop where
  hk : env.scope.kind = .function
  hg : env.globals = mainGlobals
  hb : env.builtins = builtinsNs
theorem Bx.ev {K : Frag} {c : FrC} {A : Around} {env : Env} (B : Bx K c A env) : Ev env := ⟨B.hk, B.hg, B.hb⟩
section
variable {prog : Program} {w : World} {K : Frag} {A : Around} {E : Value → Shared → Prop} {env : Env} {c : FrC} {l : List (Option Value)} {mu : List (Addr × Obj)} {ρ : Rl} {h : Heap} {G : Array GenState} {D : Drawn} {O : OsState} {t : Nat}
theorem R_nl {x : Str} {pos : Pos} {v : Value} {Q : Value → Shared → Prop} (B : Bx K c A env) (S : St c l mu ρ h) (hv : lk c.ns l x = some v) (k : Q v ⟨h, G, D, t, O⟩)
    (hx : env.kindOf x = some .local := by rfl) (hd : (x == ("__debug__" : Str)) = false := by decide) :
    wpAny (model prog w) A (eval (.Name x pos) env) Q E ⟨h, G, D, t, O⟩ := wpAny_Name (wpAny_loadName_local B.hk hx (by rw [B.hl]; exact S.F.ns) hv k) hd
theorem R_nk' {x : Str} {pos : Pos} {v : Value} {Q : Value → Shared → Prop} {s : Shared} (V : Ev env) (g : Gl K s.heap) (e : nsIn K mainGlobals x = some (some v)) (k : Q v s)
    (hx : env.kindOf x = some .globalImplicit := by rfl) (hd : (x == ("__debug__" : Str)) = false := by decide) :
    wpAny (model prog w) A (eval (.Name x pos) env) Q E s := by
  obtain ⟨p, lo, mg, mb, T⟩ := g.T
  exact Name_function_global V.hk hx (loadGlobal_global (by rw [V.hg]; exact T.g) (mg_of g.X T.g e) k) hd
theorem R_nb' {x : Str} {pos : Pos} {v : Value} {Q : Value → Shared → Prop} {s : Shared} (V : Ev env) (g : Gl K s.heap) (e : nsIn K mainGlobals x = some none) (hv : bootBuiltins x = some v) (hn : x ≠ "__name__") (k : Q v s)
    (hx : env.kindOf x = some .globalImplicit := by rfl) (hd : (x == ("__debug__" : Str)) = false := by decide) :
    wpAny (model prog w) A (eval (.Name x pos) env) Q E s := by
  obtain ⟨p, lo, mg, mb, T⟩ := g.T
  exact Name_function_global V.hk hx (loadGlobal_builtin (by rw [V.hg]; exact T.g) (mg_none_of g.X T.g e) (by rw [V.hb]; exact T.b) ((T.builtins x hn).trans hv) k) hd
theorem R_nk {x : Str} {pos : Pos} {v : Value} {Q : Value → Shared → Prop} (B : Bx K c A env) (S : St c l mu ρ h) (e : nsIn K mainGlobals x = some (some v)) (k : Q v ⟨h, G, D, t, O⟩)
    (hx : env.kindOf x = some .globalImplicit := by rfl) (hd : (x == ("__debug__" : Str)) = false := by decide) :
    wpAny (model prog w) A (eval (.Name x pos) env) Q E ⟨h, G, D, t, O⟩ := R_nk' (s := ⟨h, G, D, t, O⟩) B.ev (B.gl' S) e k hx hd
theorem R_nb {x : Str} {pos : Pos} {v : Value} {Q : Value → Shared → Prop} (B : Bx K c A env) (S : St c l mu ρ h) (e : nsIn K mainGlobals x = some none) (hv : bootBuiltins x = some v) (hn : x ≠ "__name__") (k : Q v ⟨h, G, D, t, O⟩)
    (hx : env.kindOf x = some .globalImplicit := by rfl) (hd : (x == ("__debug__" : Str)) = false := by decide) :
    wpAny (model prog w) A (eval (.Name x pos) env) Q E ⟨h, G, D, t, O⟩ := R_nb' (s := ⟨h, G, D, t, O⟩) B.ev (B.gl' S) e hv hn k hx hd
theorem R_sl {x : Str} {v : Value} {i : Nat} {Q : Unit → Shared → Prop} (B : Bx K c A env) (S : St c l mu ρ h) (hi : c.ns[i]? = some x)
    (k : ∀ h' t', St c (l.set i (some v)) mu ρ h' → Q () ⟨h', G, D, t', O⟩) (hx : env.kindOf x = some .local := by rfl) : wpAny (model prog w) A (storeName env x v) Q E ⟨h, G, D, t, O⟩ :=
  wpAny_storeName_local hx (by rw [B.hl]; exact S.F.ns) (fun h' hn hs => k h' _ (S.set hi (by rw [B.hl] at hn; exact hn) (by rw [B.hl] at hs; exact hs))) (by rw [B.hk]; rfl)
theorem R_nc {x : Str} {pos : Pos} {v : Value} {a : Addr} {o : Obj} {k : Nat} {Q : Value → Shared → Prop} {s : Shared} (V : env.scope.kind = .function) (S : St c l mu ρ s.heap) (hc : env.cells.lookup x = some a) (hm : mu[k]? = some (a, o)) (hd : o.data = .cell (some v)) (q : Q v s)
    (hx : env.kindOf x = some .cell) (hb : (x == ("__debug__" : Str)) = false) : wpAny (model prog w) A (eval (.Name x pos) env) Q E s :=
  wpAny_Name (wpAny_loadName_cell V hx hc ⟨o, S.muget hm, hd⟩ q) hb
theorem R_sc {x : Str} {v : Value} {a : Addr} {o : Obj} {k : Nat} {v₀ : Option Value} {Q : Unit → Shared → Prop} (B : Bx K c A env) (S : St c l mu ρ h) (hc : env.cells.lookup x = some a) (hm : mu[k]? = some (a, o)) (hd : o.data = .cell v₀)
    (q : ∀ h' t' o', o'.data = .cell (some v) → St c l (mu.set k (a, o')) ρ h' → Q () ⟨h', G, D, t', O⟩) (hx : env.kindOf x = some .cell) : wpAny (model prog w) A (storeName env x v) Q E ⟨h, G, D, t, O⟩ := by
  refine wpAny_storeName_cell B.hk hx hc ⟨o, S.muget hm, hd⟩ fun h' hv hs => ?_
  obtain ⟨o', ho', hd'⟩ := hv
  exact q h' _ o' hd' (S.mut hm ho' fun b z hb e => (hs.2 b hb).trans e)
theorem R_int {i : Int} {k : Nat} {pos : Pos} {Q : Value → Shared → Prop} (q : ∀ u t', Q (.int i u) ⟨h, G, D, t', O⟩) : wpAny (model prog w) A (eval (.Constant (.int i) k pos) env) Q E ⟨h, G, D, t, O⟩ := wpAny_Constant_int (q _ _)
theorem R_str {x : Str} {k : Nat} {pos : Pos} {Q : Value → Shared → Prop} (q : ∀ u t', Q (.str x u) ⟨h, G, D, t', O⟩) : wpAny (model prog w) A (eval (.Constant (.str x) k pos) env) Q E ⟨h, G, D, t, O⟩ := Constant_str (q _ _)
theorem R_bytes {x : List UInt8} {k : Nat} {pos : Pos} {Q : Value → Shared → Prop} (q : ∀ u t', Q (.bytes x.toArray u) ⟨h, G, D, t', O⟩) : wpAny (model prog w) A (eval (.Constant (.bytes x) k pos) env) Q E ⟨h, G, D, t, O⟩ := Constant_bytes (q _ _)
section
variable {a b : Int} {u v : Tok} {Q : Value → Shared → Prop}
theorem Z_int {i : Int} {k : Nat} {pos : Pos} (q : Q (.int i t) ⟨h, G, D, t + 1, O⟩) : wpAny (model prog w) A (eval (.Constant (.int i) k pos) env) Q E ⟨h, G, D, t, O⟩ := wpAny_Constant_int q
theorem Z_str {x : Str} {k : Nat} {pos : Pos} (q : Q (.str x t) ⟨h, G, D, t + 1, O⟩) : wpAny (model prog w) A (eval (.Constant (.str x) k pos) env) Q E ⟨h, G, D, t, O⟩ := Constant_str q
theorem Z_bytes {x : List UInt8} {k : Nat} {pos : Pos} (q : Q (.bytes x.toArray t) ⟨h, G, D, t + 1, O⟩) : wpAny (model prog w) A (eval (.Constant (.bytes x) k pos) env) Q E ⟨h, G, D, t, O⟩ := Constant_bytes q
theorem Z_add (q : Q (.int (a + b) t) ⟨h, G, D, t + 1, O⟩) : wpAny (model prog w) A (binaryOp .Add (.int a u) (.int b v)) Q E ⟨h, G, D, t, O⟩ := PyProof.Rows.add_int q
theorem Z_sub (q : Q (.int (a - b) t) ⟨h, G, D, t + 1, O⟩) : wpAny (model prog w) A (binaryOp .Sub (.int a u) (.int b v)) Q E ⟨h, G, D, t, O⟩ := PyProof.Rows.sub_int q
theorem Z_mul (hm : IntMulOk a b) (q : Q (.int (a * b) t) ⟨h, G, D, t + 1, O⟩) : wpAny (model prog w) A (binaryOp .Mult (.int a u) (.int b v)) Q E ⟨h, G, D, t, O⟩ := PyProof.Rows.mul_int q hm
theorem Z_neg (q : Q (.int (-a) t) ⟨h, G, D, t + 1, O⟩) : wpAny (model prog w) A (unaryOp .USub (.int a u)) Q E ⟨h, G, D, t, O⟩ := PyProof.Rows.neg_int q
theorem Z_subb {p q' : Bool} (q : Q (.int (b2i p - b2i q') t) ⟨h, G, D, t + 1, O⟩) : wpAny (model prog w) A (binaryOp .Sub (.bool p) (.bool q')) Q E ⟨h, G, D, t, O⟩ := PyProof.Rows.sub_bool q
theorem R_add (q : ∀ u' t', Q (.int (a + b) u') ⟨h, G, D, t', O⟩) : wpAny (model prog w) A (binaryOp .Add (.int a u) (.int b v)) Q E ⟨h, G, D, t, O⟩ := PyProof.Rows.add_int (q _ _)
theorem R_sub (q : ∀ u' t', Q (.int (a - b) u') ⟨h, G, D, t', O⟩) : wpAny (model prog w) A (binaryOp .Sub (.int a u) (.int b v)) Q E ⟨h, G, D, t, O⟩ := PyProof.Rows.sub_int (q _ _)
theorem R_mul (hm : IntMulOk a b) (q : ∀ u' t', Q (.int (a * b) u') ⟨h, G, D, t', O⟩) : wpAny (model prog w) A (binaryOp .Mult (.int a u) (.int b v)) Q E ⟨h, G, D, t, O⟩ := PyProof.Rows.mul_int (q _ _) hm
theorem R_mod (hb : b ≠ 0) (q : ∀ u' t', Q (.int (a.fmod b) u') ⟨h, G, D, t', O⟩) : wpAny (model prog w) A (binaryOp .Mod (.int a u) (.int b v)) Q E ⟨h, G, D, t, O⟩ := PyProof.Rows.mod_int hb (q _ _)
theorem R_xor (q : ∀ u' t', Q (.int (Builtin.bitXor a b) u') ⟨h, G, D, t', O⟩) : wpAny (model prog w) A (binaryOp .BitXor (.int a u) (.int b v)) Q E ⟨h, G, D, t, O⟩ := PyProof.Rows.xor_int (q _ _)
theorem R_pow (h1 : 0 ≤ b) (h2 : b ≤ 1000000) (h3 : a.natAbs < 2 ^ 64) (q : ∀ u' t', Q (.int (a ^ b.toNat) u') ⟨h, G, D, t', O⟩) : wpAny (model prog w) A (binaryOp .Pow (.int a u) (.int b v)) Q E ⟨h, G, D, t, O⟩ := pow_int_small h1 h2 h3 (q _ _)
theorem R_neg (q : ∀ u' t', Q (.int (-a) u') ⟨h, G, D, t', O⟩) : wpAny (model prog w) A (unaryOp .USub (.int a u)) Q E ⟨h, G, D, t, O⟩ := PyProof.Rows.neg_int (q _ _)
theorem R_abs (q : ∀ u' t', Q (.int (if a < 0 then -a else a) u') ⟨h, G, D, t', O⟩) : wpAny (model prog w) A (call (.builtin "abs") [.int a u]) Q E ⟨h, G, D, t, O⟩ := call_abs_int fun u t' => q u t'
theorem R_subb {p q' : Bool} (q : ∀ u' t', Q (.int (b2i p - b2i q') u') ⟨h, G, D, t', O⟩) : wpAny (model prog w) A (binaryOp .Sub (.bool p) (.bool q')) Q E ⟨h, G, D, t, O⟩ := PyProof.Rows.sub_bool (q _ _)
end
noncomputable def SliceGo (Q : Value → Shared → Prop) (x y : Value) (s : Shared) : Prop := Q (.ref s.heap.objs.size) { s with heap := s.heap.push { cls := .type "slice", data := .fields #[x, y, .none] } }
theorem R_Slice {lower upper : Option Expr} {p : Pos} {Q : Value → Shared → Prop} {s : Shared}
    (k : wpAny (model prog w) A (evalPart lower env) (fun x s₁ => wpAny (model prog w) A (evalPart upper env) (fun y s₂ => SliceGo Q x y s₂) E s₁) E s) :
    wpAny (model prog w) A (eval (.Slice lower upper none p) env) Q E s :=
  wpAny_Slice (wpAny_mono k (fun _ _ h1 => wpAny_mono h1 (fun _ _ h2 => evalPart_none_step h2) fun _ _ e => e) fun _ _ e => e)
theorem R_sliceGo {x y : Value} {Q : Value → Shared → Prop} (k : Q (.ref h.objs.size) ⟨h.push { cls := .type "slice", data := .fields #[x, y, .none] }, G, D, t, O⟩) : SliceGo Q x y ⟨h, G, D, t, O⟩ := k
theorem R_ite {c : Prop} [Decidable c] {X Y : Prop} (h1 : c → X) (h2 : ¬ c → Y) : if c then X else Y := by
  by_cases q : c
  · rw [if_pos q]; exact h1 q
  · rw [if_neg q]; exact h2 q
theorem R_yes {c : Prop} [Decidable c] {X Y : Prop} (q : c) (h1 : X) : if c then X else Y := by rw [if_pos q]; exact h1
theorem R_no {c : Prop} [Decidable c] {X Y : Prop} (q : ¬ c) (h1 : Y) : if c then X else Y := by rw [if_neg q]; exact h1
theorem R_cm1 {pos : Pos} {id : String} {self : Value} {e : Expr} {rest : List Expr} {Q : Value → Shared → Prop} {s : Shared}
    (h : wpAny (model prog w) A (spliced (backTo pos (starEach (e :: rest) env))) (fun vs s₁ => wpAny (model prog w) A (call (.builtin id) (self :: vs)) Q E s₁) E s)
    (he : starEach (e :: rest) env = (false, eval e env) :: starEach rest env) (hf : ((backTo pos (starEach rest env)).any fun x => x.1) = false) :
    wpAny (model prog w) A (callWith pos (.builtin id) [self] (backTo pos (starEach (e :: rest) env)) []) Q E s := callWith_method1 h he hf
theorem R_cm0 {pos : Pos} {id : String} {self : Value} {Q : Value → Shared → Prop} {s : Shared} (h : wpAny (model prog w) A (call (.builtin id) [self]) Q E s) :
    wpAny (model prog w) A (callWith pos (.builtin id) [self] (backTo pos (starEach [] env)) []) Q E s := callWith_method0 h
theorem R_cK {pos : Pos} {f : Value} {e : Expr} {rest : List Expr} {Q : Value → Shared → Prop} {s : Shared} (B : Bx K c A env) (hk : keepIn K f = true)
    (h : wpAny (model prog w) A (spliced (backTo pos (starEach (e :: rest) env))) (fun vs s₁ => K.In s₁.heap ∧ wpAny (model prog w) A (call f vs) Q E s₁) E s)
    (he : starEach (e :: rest) env = (false, eval e env) :: starEach rest env) (hf : ((backTo pos (starEach rest env)).any fun x => x.1) = false) :
    wpAny (model prog w) A (callWith pos f [] (backTo pos (starEach (e :: rest) env)) []) Q E s := callWith_K B.gl.X hk h he hf
theorem R_cK' {pos : Pos} {f : Value} {e : Expr} {rest : List Expr} {Q : Value → Shared → Prop} {s : Shared} {env' : Env} (B : Bx K c A env') (hk : keepIn K f = true)
    (h : wpAny (model prog w) A (spliced (backTo pos (starEach (e :: rest) env))) (fun vs s₁ => K.In s₁.heap ∧ wpAny (model prog w) A (call f vs) Q E s₁) E s)
    (he : starEach (e :: rest) env = (false, eval e env) :: starEach rest env) (hf : ((backTo pos (starEach rest env)).any fun x => x.1) = false) :
    wpAny (model prog w) A (callWith pos f [] (backTo pos (starEach (e :: rest) env)) []) Q E s := callWith_K B.gl.X hk h he hf
theorem R_cKm {pos : Pos} {f self : Value} {e : Expr} {rest : List Expr} {Q : Value → Shared → Prop} {s : Shared} {env' : Env} (B : Bx K c A env') (hk : keepIn K f = true)
    (h : wpAny (model prog w) A (spliced (backTo pos (starEach (e :: rest) env))) (fun vs s₁ => K.In s₁.heap ∧ wpAny (model prog w) A (call f (self :: vs)) Q E s₁) E s)
    (he : starEach (e :: rest) env = (false, eval e env) :: starEach rest env) (hf : ((backTo pos (starEach rest env)).any fun x => x.1) = false) :
    wpAny (model prog w) A (callWith pos f [self] (backTo pos (starEach (e :: rest) env)) []) Q E s := callWith_K B.gl.X hk h he hf
end
end Mine
end
section
open PySem PySem.W PyProof.Rows PySem.Calls
set_option maxRecDepth 100000
namespace Mine
noncomputable abbrev Inv := List (Option Value) → List (Addr × Obj) → Rl → Prop
noncomputable def Nxt (c : FrC) (G : Array GenState) (D : Drawn) (O : OsState) (J : List (Option Value) → List (Addr × Obj) → Rl → Prop) (s : Shared) : Prop :=
  ∃ l mu ρ h t, s = ⟨h, G, D, t, O⟩ ∧ St c l mu ρ h ∧ J l mu ρ
theorem Nxt.intro {c : FrC} {G D O J l mu ρ h t} (S : St c l mu ρ h) (j : J l mu ρ) : Nxt c G D O J ⟨h, G, D, t, O⟩ := ⟨l, mu, ρ, h, t, rfl, S, j⟩
noncomputable def TurnQ (c : FrC) (G : Array GenState) (D : Drawn) (O : OsState) (J : List (Option Value) → List (Addr × Obj) → Rl → Prop) (Q : Flow → Shared → Prop) : Flow → Shared → Prop
  | .next, s => Nxt c G D O J s
  | .cont, s => Nxt c G D O J s
  | .brk, s => Q .next s
  | .ret v, s => Q (.ret v) s
section
variable {prog : Program} {w : World} {K : Frag} {A : Around} {E : Value → Shared → Prop} {env : Env} {c : FrC} {l : List (Option Value)} {mu : List (Addr × Obj)} {ρ : Rl} {h : Heap} {G : Array GenState} {D : Drawn} {O : OsState} {t : Nat}
theorem R_while {test : Expr} {body : List Stmt} {pos : Pos} {Q : Flow → Shared → Prop} (J : Nat → List (Option Value) → List (Addr × Obj) → Rl → Prop) {n : Nat} (S : St c l mu ρ h) (hJ : J n l mu ρ)
    (turn : ∀ n l mu ρ h t E' (QQ : Flow → Shared → Prop), (∀ fl s', TurnQ c G D O (fun l mu ρ => ∃ m, m < n ∧ J m l mu ρ) Q fl s' → QQ fl s') → St c l mu ρ h → J n l mu ρ → wpAny (model prog w) A (isTrue test env (eval test env)) (fun b s₂ =>
      if b = true then wpAny (model prog w) A (execs body env) QQ E' s₂ else Q .next s₂) E' ⟨h, G, D, t, O⟩) :
    wpAny (model prog w) A (exec (.While test body [] pos) env) Q E ⟨h, G, D, t, O⟩ := by
  refine wpAny_While (codeAny_whileLoop (fun n s => Nxt c G D O (J n) s) ?_ n (Nxt.intro S hJ))
  rintro n s ⟨l, mu, ρ, h, t, rfl, S, j⟩
  refine wpAny_mono (turn n l mu ρ h t _ _ (fun _ _ x => x) S j) (fun b s₂ hb => ?_) fun _ _ x => x
  cases b with
  | false => simp only [Bool.false_eq_true, if_false] at hb ⊢; exact wpAny_execs_nil hb
  | true =>
    simp only [if_true] at hb ⊢
    refine wpAny_mono hb (fun f s₃ hf => ?_) fun _ _ x => x
    cases f with
    | next => obtain ⟨l, mu, ρ, h, t, rfl, S, m, hm, j⟩ := hf; exact ⟨m, hm, Nxt.intro S j⟩
    | cont => obtain ⟨l, mu, ρ, h, t, rfl, S, m, hm, j⟩ := hf; exact ⟨m, hm, Nxt.intro S j⟩
    | brk => exact hf
    | ret v => exact hf
structure Itr (prog : Program) (w : World) (A : Around) (I : Addr) (fz : List Addr) (n : Nat) (P : Nat → Value → Prop) (WS : Nat → Heap → Prop) : Prop where
  W : Walks prog w A I (I :: fz) [I] n P WS
  al : ∀ i h, WS i h → ∃ o, h.get? I = some o
theorem itr_list (hh : A.handled = none) (I ax : Addr) (hne : ax ≠ I) (items : Array Value) : Itr prog w A I [ax] items.size (fun i v => items[i]? = some v) (fun i h => h.IsListIter I ax i ∧ h.IsList ax items) :=
  ⟨Walks.list hh I ax hne items, fun _ _ x => let ⟨⟨o, ho, _⟩, _⟩ := x; ⟨o, ho⟩⟩
theorem itr_tuple (hh : A.handled = none) (I ax : Addr) (hne : ax ≠ I) (items : Array Value) : Itr prog w A I [ax] items.size (fun i v => items[i]? = some v) (fun i h => h.IsTupleIter I ax i ∧ h.IsTuple ax items) :=
  ⟨Walks.tuple hh I ax hne items, fun _ _ x => let ⟨⟨o, ho, _⟩, _⟩ := x; ⟨o, ho⟩⟩
theorem itr_range (hh : A.handled = none) (I : Addr) (a : Int) (n : Nat) : Itr prog w A I [] n (fun i v => ∃ t, v = .int (a + (i : Int)) t) (fun i h => IsRangeIter h I (a + (i : Nat) * 1) ((n : Int) - (i : Nat)) 1) :=
  ⟨{ (Walks.range hh I a 1 n) with item := fun i s Q E hi st hQ => (Walks.range hh I a 1 n).item i s Q E hi st fun v h' tk hP => hQ v h' tk (by obtain ⟨t, rfl⟩ := hP; exact ⟨t, by rw [Int.mul_one]⟩) }, fun _ _ x => ⟨_, x⟩⟩
theorem itr_str (hh : A.handled = none) (I : Addr) (x : Str) (t : Tok) : Itr prog w A I [] x.cps.size (SignAt x) (fun i h => h.IsStrIter I "str_ascii_iterator" x t i) :=
  ⟨Walks.strAscii hh I x t, fun _ _ x => by obtain ⟨o, ho, _⟩ := x; exact ⟨o, ho⟩⟩
noncomputable def Stands (c : FrC) (ρ : Rl) (b : Addr) : Prop := (∃ o, ρ b o) ∨ ∃ o, c.h₀.get? b = some o
theorem Stands.le {c : FrC} {ρ ρ' : Rl} {b : Addr} (x : Stands c ρ b) (hle : ρ.le ρ') : Stands c ρ' b := x.imp (fun ⟨o, e⟩ => ⟨o, hle _ _ e⟩) id
theorem Stands.keep {c : FrC} {ρ : Rl} {b : Addr} (x : Stands c ρ b) {l mu l' mu' ρ' h h'} (S : St c l mu ρ h) (S' : St c l' mu' ρ' h') (hle : ρ.le ρ') {o : Obj} (e : h.get? b = some o) : h'.get? b = some o := by
  rcases x with ⟨o', e'⟩ | ⟨o', e'⟩
  · have := S.get e'; rw [e] at this; cases this; exact S'.get (hle _ _ e')
  · have := S.F.keep _ _ e'; rw [e] at this; cases this; exact S'.F.keep _ _ e'
theorem R_forLoop {target : Expr} {body : List Stmt} {I : Addr} {fz : List Addr} {n : Nat} {P : Nat → Value → Prop} {WS : Nat → Heap → Prop} {o : Obj} {R : Result → Shared → Prop} (J : Nat → List (Option Value) → List (Addr × Obj) → Rl → Prop)
    (T : Itr prog w A I fz n P WS) (hw : WS 0 h) (S : St c l ((I, o) :: mu) ρ h) (hfz : ∀ b ∈ fz, Stands c ρ b) (hJ : J 0 l mu ρ)
    (turn : ∀ i v l mu ρ₁ h t o E' (QQ : Flow → Shared → Prop), (∀ fl s', TurnQ c G D O (fun l' mu₁ ρ' => ∃ mu', mu₁ = (I, o) :: mu' ∧ ρ₁.le ρ' ∧ J (i + 1) l' mu' ρ') (fun f s => R (.ok f) s) fl s' → QQ fl s') → i < n → P i v → ρ.le ρ₁ → St c l ((I, o) :: mu) ρ₁ h → J i l mu ρ₁ → wpAny (model prog w) A (assign target env v) (fun _ s₂ =>
      wpAny (model prog w) A (execs body env) QQ E' s₂) E' ⟨h, G, D, t, O⟩)
    (done : ∀ l mu ρ' h t, ρ.le ρ' → J n l mu ρ' → St c l mu ρ' h → R (.ok .next) ⟨h, G, D, t, O⟩) (ht : ∀ v, letOwnedTupleGo target (.ref I) v = pure () := by intro _; rfl) :
    codeAny (model prog w) A (.forLoop target (.ref I) body [] env) R ⟨h, G, D, t, O⟩ := by
  refine codeAny_forLoop (fun k s => ∃ i o, k = n - i ∧ i ≤ n ∧ ∃ l mu ρ₁ h t, s = ⟨h, G, D, t, O⟩ ∧ WS i h ∧ ρ.le ρ₁ ∧ St c l ((I, o) :: mu) ρ₁ h ∧ J i l mu ρ₁) ?_ n ⟨0, o, by (first | lia | omega), by (first | lia | omega), l, mu, ρ, h, t, rfl, hw, Rl.le.refl _, S, hJ⟩ ht
  rintro k s ⟨i, o, rfl, hi, l, mu, ρ₁, h, t, rfl, hw, hle, S, j⟩
  by_cases hlt : i < n
  · refine T.W.item i _ _ _ hlt hw fun v h' tk hP hw' hk => ?_
    obtain ⟨o', ho'⟩ := T.al _ _ hw'
    have S' : St c l ((I, o') :: mu) ρ₁ h' := S.mut (k := 0) rfl ho' fun b x hb e => hk b x (by simpa using hb) e
    refine wpAny_mono (turn i v l mu ρ₁ h' tk o' _ _ (fun _ _ x => x) hlt hP hle S' j) (fun _ s₂ h₂ => wpAny_mono h₂ (fun f s₃ hf => ?_) fun _ _ x => x) fun _ _ x => x
    have fin : Nxt c G D O (fun l' mu₁ ρ' => ∃ mu', mu₁ = (I, o') :: mu' ∧ ρ₁.le ρ' ∧ J (i + 1) l' mu' ρ') s₃ → ∃ m, m < n - i ∧ ∃ i' o, m = n - i' ∧ i' ≤ n ∧ ∃ l mu ρ₁ h t, s₃ = ⟨h, G, D, t, O⟩ ∧ WS i' h ∧ ρ.le ρ₁ ∧ St c l ((I, o) :: mu) ρ₁ h ∧ J i' l mu ρ₁ := by
      rintro ⟨l₂, mu₁, ρ₂, h₂, t₂, rfl, S₂, mu₂, rfl, hle₂, j₂⟩
      refine ⟨n - (i + 1), by (first | lia | omega), i + 1, o', rfl, by (first | lia | omega), l₂, mu₂, ρ₂, h₂, t₂, rfl, T.W.frame _ _ _ hw' (fun b hb x e => ?_), hle.trans hle₂, S₂, j₂⟩
      rcases List.mem_cons.mp hb with rfl | hb
      · rw [ho'] at e; cases e; exact S₂.muget (k := 0) rfl
      · exact ((hfz b hb).le hle).keep S' S₂ hle₂ e
    cases f with
    | next => exact fin hf
    | cont => exact fin hf
    | brk => exact hf
    | ret v => exact hf
  · have hin : i = n := by (first | lia | omega)
    subst hin
    refine T.W.done _ _ _ hw fun h' tk hk => ?_
    refine wpAny_execs_nil ?_
    exact done l mu ρ₁ h' tk hle j (S.off fun b x hb e => hk b x (by simpa using hb) e)
theorem R_iter_list {a : Addr} {items : Array Value} {Q : Value → Shared → Prop} (hh : A.handled = none) (S : St c l mu ρ h) (hl : h.IsList a items) (hs : Stands c ρ a)
    (k : ∀ I o h' (WS : Nat → Heap → Prop), Itr prog w A I [a] items.size (fun i v => items[i]? = some v) WS → WS 0 h' → St c l ((I, o) :: mu) ρ h' → (∀ b ∈ [a], Stands c ρ b) → Q (.ref I) ⟨h', G, D, t, O⟩) :
    wpAny (model prog w) A (pyIter (.ref a)) Q E ⟨h, G, D, t, O⟩ := by
  refine wpAny_pyIter_list hl ?_
  obtain ⟨oa, hoa, _⟩ := id hl
  refine k _ _ _ _ (itr_list hh h.objs.size a (Nat.ne_of_lt (Heap.lt_size hoa)) items) ⟨⟨_, Heap.get?_push_size _ rfl, rfl, rfl⟩, hl.push _⟩ (S.pushMu _) ?_
  intro b hb; rw [List.mem_singleton.mp hb]; exact hs
theorem R_iter_tuple {a : Addr} {items : Array Value} {Q : Value → Shared → Prop} (hh : A.handled = none) (S : St c l mu ρ h) (hl : h.IsTuple a items) (hs : Stands c ρ a)
    (k : ∀ I o h' (WS : Nat → Heap → Prop), Itr prog w A I [a] items.size (fun i v => items[i]? = some v) WS → WS 0 h' → St c l ((I, o) :: mu) ρ h' → (∀ b ∈ [a], Stands c ρ b) → Q (.ref I) ⟨h', G, D, t, O⟩) :
    wpAny (model prog w) A (pyIter (.ref a)) Q E ⟨h, G, D, t, O⟩ := by
  refine wpAny_pyIter_tuple hl ?_
  obtain ⟨oa, hoa, _⟩ := id hl
  refine k _ _ _ _ (itr_tuple hh h.objs.size a (Nat.ne_of_lt (Heap.lt_size hoa)) items) ⟨⟨_, Heap.get?_push_size _ rfl, rfl, rfl⟩, hl.push _⟩ (S.pushMu _) ?_
  intro b hb; rw [List.mem_singleton.mp hb]; exact hs
theorem R_iter_str {x : Str} {tx : Tok} {Q : Value → Shared → Prop} (hh : A.handled = none) (S : St c l mu ρ h) (hx : strIterType x = "str_ascii_iterator")
    (k : ∀ I o h' (WS : Nat → Heap → Prop), Itr prog w A I [] x.cps.size (SignAt x) WS → WS 0 h' → St c l ((I, o) :: mu) ρ h' → (∀ b ∈ ([] : List Addr), Stands c ρ b) → Q (.ref I) ⟨h', G, D, t, O⟩) :
    wpAny (model prog w) A (pyIter (.str x tx)) Q E ⟨h, G, D, t, O⟩ := by
  refine wpAny_pyIter_strU ?_
  rw [hx]
  exact k _ _ _ _ (itr_str hh h.objs.size x tx) ⟨_, Heap.get?_push_size _ rfl, rfl, rfl⟩ (S.pushMu _) (fun _ hb => nomatch hb)
theorem R_iter_range {a : Addr} {e : Nat} {t1 t2 t3 : Tok} {Q : Value → Shared → Prop} (hh : A.handled = none) (S : St c l mu ρ h) (hr : IsRange h a 0 (e : Int) 1 t1 t2 t3) (he : e < 2 ^ 31)
    (k : ∀ I o h' (WS : Nat → Heap → Prop), Itr prog w A I [] e (fun i v => ∃ t, v = .int (i : Int) t) WS → WS 0 h' → St c l ((I, o) :: mu) ρ h' → (∀ b ∈ ([] : List Addr), Stands c ρ b) → Q (.ref I) ⟨h', G, D, t, O⟩) :
    wpAny (model prog w) A (pyIter (.ref a)) Q E ⟨h, G, D, t, O⟩ := by
  refine wpAny_pyIter_range hr (small_one (by (first | lia | omega)) (by (first | lia | omega)) (by (first | lia | omega)) (by (first | lia | omega))) ?_
  have T := itr_range (prog := prog) (w := w) hh h.objs.size 0 e
  simp only [Int.zero_add] at T
  refine k _ _ _ _ T ?_ (S.pushMu _) (fun _ hb => nomatch hb)
  have := Heap.get?_push_size h (o := { cls := .type "range_iterator", data := .fields #[rawInt 0, rawInt (Builtin.Range.rangeSize 0 (e : Int) 1), rawInt 1] }) rfl
  rw [rangeSize_nat] at this ⊢
  simpa using this
end
end Mine
end
section
open PySem PySem.W PyProof.Rows PySem.Calls
set_option maxRecDepth 100000
namespace Mine
noncomputable def ObjVar (o : Obj) (x : Str) (v : Value) : Prop := ∃ es ep, o.data = .dict es ep ∧ StrKeys es ∧ nsFind es x = some v
noncomputable def CompVar (mu : List (Addr × Obj)) (C : Addr) (x : Str) (v : Value) : Prop := ∃ o, (C, o) ∈ mu ∧ ObjVar o x v
noncomputable def CNx (c : FrC) (G : Array GenState) (D : Drawn) (O : OsState) (l : List (Option Value)) (mu : List (Addr × Obj)) (ρ₁ : Rl) (J : Rl → Prop) (s : Shared) : Prop :=
  ∃ ρ' h t, s = ⟨h, G, D, t, O⟩ ∧ St c l mu ρ' h ∧ ρ₁.le ρ' ∧ J ρ'
theorem CNx.intro {c : FrC} {G D O l mu ρ₁ ρ' h t J} (S : St c l mu ρ' h) (hle : ρ₁.le ρ') (j : J ρ') : CNx c G D O l mu ρ₁ J ⟨h, G, D, t, O⟩ := ⟨ρ', h, t, rfl, S, hle, j⟩
theorem CNx.same {c : FrC} {G D O l mu ρ₁ h t J} (S : St c l mu ρ₁ h) (j : J ρ₁) : CNx c G D O l mu ρ₁ J ⟨h, G, D, t, O⟩ := ⟨ρ₁, h, t, rfl, S, Rl.le.refl _, j⟩
noncomputable abbrev tests (ifs : List Expr) (env : Env) : Sem Bool := forIn ifs true fun c r => if r = true then do let ok ← isTrue c env (eval c env); pure (ForInStep.yield ok) else pure (ForInStep.yield r)
theorem compEv {env : Env} {scope : Scope} {cl : List (Str × Addr)} {C : Addr} (V : Ev env) (hk : scope.kind = .function) : Ev (compEnvC scope cl C env) := ⟨hk, V.hg, V.hb⟩
section
variable {prog : Program} {w : World} {K : Frag} {A : Around} {E : Value → Shared → Prop} {env : Env} {c : FrC} {l : List (Option Value)} {mu : List (Addr × Obj)} {ρ : Rl} {h : Heap} {G : Array GenState} {D : Drawn} {O : OsState} {t : Nat}
theorem R_cv {scope : Scope} {cl : List (Str × Addr)} {C : Addr} {x : Str} {pos : Pos} {v : Value} {Q : Value → Shared → Prop} (S : St c l mu ρ h) (hx : CompVar mu C x v) (k : Q v ⟨h, G, D, t, O⟩)
    (hk : scope.kind = .function := by rfl) (hl : (compEnvC scope cl C env).kindOf x = some .local := by rfl) (hd : (x == ("__debug__" : Str)) = false := by decide) :
    wpAny (model prog w) A (eval (.Name x pos) (compEnvC scope cl C env)) Q E ⟨h, G, D, t, O⟩ := by
  obtain ⟨o, hm, es, ep, hd', hks, hf⟩ := hx
  exact wpAny_Name (wpAny_loadName_local (m := fun n => nsFind es n) hk hl ⟨o, es, ep, (S.N _ hm).1, hd', hks, fun _ => rfl⟩ hf k) hd
theorem St.ne3 {d e f : Addr × Obj} (S : St c l (d :: e :: f :: mu) ρ h) : d.1 ≠ e.1 ∧ d.1 ≠ f.1 ∧ e.1 ≠ f.1 := by
  have hmd := S.md
  rw [List.map_cons, List.nodup_cons, List.map_cons, List.nodup_cons, List.map_cons] at hmd
  exact ⟨fun q => hmd.1 (q ▸ .head _), fun q => hmd.1 (q ▸ .tail _ (.head _)), fun q => hmd.2.1 (q ▸ .head _)⟩
theorem Stands.ne {d : Addr × Obj} {b : Addr} (S : St c l mu ρ h) (hm : d ∈ mu) (x : Stands c ρ b) : b ≠ d.1 := fun q => by
  rcases x with ⟨o, e⟩ | ⟨o, e⟩
  · exact (S.fz b o e).2.2 (q ▸ List.mem_map_of_mem hm)
  · have := (S.N d hm).2.2; rw [← q, e] at this; cases this
inductive CBI (c : FrC) (l : List (Option Value)) (mu : List (Addr × Obj)) (ρ : Rl) (G : Array GenState) (D : Drawn) (O : OsState) (n : Nat) (WS : Nat → Heap → Prop) (PS : Nat → Rl → Option Value → Prop) (Dd C I : Addr) : Nat → Shared → Prop
  | mk (rs : List (Option Value)) (ρ' : Rl) (h : Heap) (t nD : Nat) (e f : Obj) (m : Str → Option Value) (hlen : rs.length ≤ n) (hle : ρ.le ρ') (hw : WS rs.length h) (hrs : ∀ i r, rs[i]? = some r → PS i ρ' r)
      (S : St c l ((Dd, PySem.W.listOf (rs.filterMap id).toArray nD) :: (C, e) :: (I, f) :: mu) ρ' h) (hm : h.Ns C m) : CBI c l mu ρ G D O n WS PS Dd C I (n - rs.length) ⟨h, G, D, t, O⟩
theorem CBI.down {n k : Nat} {a : Nat} (h : a + 1 = k) (hlt : a < n) : n - k < n - a := by subst h; exact Nat.sub_lt_sub_left hlt (Nat.lt_succ_self _)
theorem snoc_get {α : Type} {P : Nat → α → Prop} {rs : List α} {r : α} (h1 : ∀ i r', rs[i]? = some r' → P i r') (h2 : P rs.length r) : ∀ i r', (rs ++ [r])[i]? = some r' → P i r' := fun i r' hi => by
  rcases Nat.lt_trichotomy i rs.length with q | q | q
  · rw [List.getElem?_append_left q] at hi; exact h1 i r' hi
  · subst q; rw [List.getElem?_append_right (Nat.le_refl _), Nat.sub_self] at hi; cases hi; exact h2
  · rw [List.getElem?_eq_none (by rw [List.length_append]; exact q)] at hi; cases hi
theorem R_compBlock {elt iter : Expr} {x : Str} {px : Pos} {ifs : List Expr} {scope : Scope} {cl : List (Str × Addr)} {pos : Pos} {I : Addr} {o : Obj} {fz : List Addr} {n : Nat} {P : Nat → Value → Prop} {WS : Nat → Heap → Prop} {RR : Value → Addr → Result → Shared → Prop}
    (Step : Nat → Value → Rl → Option Value → Prop) (hmono : ∀ i v ρ ρ' r, ρ.le ρ' → Step i v ρ r → Step i v ρ' r)
    (T : Itr prog w A I fz n P WS) (hw : WS 0 h) (S : St c l ((I, o) :: mu) ρ h) (hfz : ∀ b ∈ fz, Stands c ρ b) (hn : n ≤ 1000000)
    (hcell : ∀ y ∈ scope.names, y.2 ≠ .cell) (hkind : scope.kind = .function) (hx : scope.names.lookup x = some .local)
    (turn : ∀ i v C ρ₁ d e f h t E', i < n → P i v → ρ.le ρ₁ → CompVar (d :: e :: f :: mu) C x v → St c l (d :: e :: f :: mu) ρ₁ h →
      wpAny (model prog w) A (tests ifs (compEnvC scope cl C env)) (fun ok s₃ =>
        if ok = true then wpAny (model prog w) A (eval elt (compEnvC scope cl C env)) (fun y s₄ => CNx c G D O l (d :: e :: f :: mu) ρ₁ (fun ρ' => Step i v ρ' (some y)) s₄) E' s₃
        else CNx c G D O l (d :: e :: f :: mu) ρ₁ (fun ρ' => Step i v ρ' none) s₃) E' ⟨h, G, D, t, O⟩)
    (done : ∀ Dd C e ρ' h t (ys : List Value) (rs : List (Option Value)) nD, ρ.le ρ' → rs.length = n → (∀ i r, rs[i]? = some r → ∃ v, P i v ∧ Step i v ρ' r) → ys = rs.filterMap id →
      St c l ((Dd, PySem.W.listOf ys.toArray nD) :: (C, e) :: mu) ρ' h → (∃ m, h.Ns C m) → RR (.ref Dd) C (.ok .next) ⟨h, G, D, t, O⟩) :
    wpAny (model prog w) A (newList []) (fun acc s₃ => wpAny (model prog w) A (newFunctionEnv scope env.globals cl [] env.qual none .none (some env)) (fun cenv s₄ =>
      codeAny (model prog w) A (.compStart (.ListComp elt [⟨.Name x px, iter, ifs, 0⟩] scope pos) 0 (.ref I) acc { cenv with scope := relabel scope env }) (RR acc cenv.locals) s₄) E s₃) E ⟨h, G, D, t, O⟩ := by
  refine wpAny_newObj_type (wpAny_newFunctionEnv hcell (by intro y hy; simp at hy) (fun h₁ hns₁ hsb₁ => ?_) hkind)
  dsimp only at hns₁ hsb₁ ⊢
  have S1 := S.pushMu { cls := .type "list", dict := none, data := .seq ([] : List Value).toArray }
  generalize hD : h.objs.size = Dd at S1
  generalize hH2 : h.push { cls := .type "list", dict := none, data := .seq ([] : List Value).toArray } = H2 at S1 hns₁ hsb₁ ⊢
  obtain ⟨oC, es, ep, hoC, hdC, hkC, hfC⟩ := hns₁
  have hsub : Sub H2 h₁ := fun b o e => hsb₁.extBut b o (Nat.ne_of_lt (Heap.lt_size e)) (Heap.get?_push_of_some _ e)
  have S2 := S1.newMu (a := H2.objs.size) (o := oC) hsub (fresh_size H2) hoC
  have hst : WS 0 h₁ := T.W.frame _ _ _ hw fun b hb x e => hsub _ _ (by rw [← hH2]; exact Heap.get?_push_of_some _ e)
  generalize hCC : H2.objs.size = C at S2 hoC ⊢
  have S3 : St c l ((Dd, PySem.W.listOf ([] : List Value).toArray 0) :: (C, oC) :: (I, o) :: mu) ρ h₁ := S2.perm (.swap _ _ _)
  show codeAny (model prog w) A (.compStart (.ListComp elt [⟨.Name x px, iter, ifs, 0⟩] scope pos) 0 (.ref I) (.ref Dd) (compEnvC scope cl C env)) (RR (.ref Dd) C) _
  have loop : ∀ t', codeAny (model prog w) A (.compLoop (.ListComp elt [⟨.Name x px, iter, ifs, 0⟩] scope pos) 0 (.ref I) (.ref Dd) (compEnvC scope cl C env)) (RR (.ref Dd) C) ⟨h₁, G, D, t', O⟩ := by
    intro t'
    refine codeAny_compLoop_tests (CBI c l mu ρ G D O n WS (fun i ρ' r => ∃ v, P i v ∧ Step i v ρ' r) Dd C I) ?_ n (.mk [] ρ h₁ t' 0 oC o _ (Nat.zero_le _) (Rl.le.refl _) hst (fun _ _ q => by cases q) S3 ⟨oC, es, ep, hoC, hdC, hkC, hfC⟩)
    rintro _ _ ⟨rs, ρ', h', t'', nD, e, f, m', hlen, hle, hw', hrs, S', hm'⟩
    by_cases hlt : rs.length < n
    · refine T.W.item rs.length _ _ _ hlt hw' fun v h2 tk hP hw2 hk2 => ?_
      obtain ⟨f2, hf2⟩ := T.al _ _ hw2
      have T2 : St c l ((Dd, PySem.W.listOf (rs.filterMap id).toArray nD) :: (C, e) :: (I, f2) :: mu) ρ' h2 := S'.mut (k := 2) rfl hf2 fun b x hb ex => hk2 b x (fun q => hb (List.mem_singleton.mp q)) ex
      have hn2 : h2.Ns C m' := hm'.at' fun o e => hk2 _ _ (fun q => S'.ne3.2.2 (List.mem_singleton.mp q)) e
      refine wpAny_assign_Name (wpAny_storeName_local (lookup_relabel_local hx) hn2 (fun h3 hn3 hs3 => ?_) (by simp [compEnvC, relabel, hkind]))
      change h3.Ns C _ at hn3
      change Heap.SameBut C h2 h3 at hs3
      obtain ⟨e3, es3, ep3, he3, hd3, hk3, hf3⟩ := id hn3
      have T3 : St c l ((Dd, PySem.W.listOf (rs.filterMap id).toArray nD) :: (C, e3) :: (I, f2) :: mu) ρ' h3 := T2.mut (k := 1) rfl he3 fun b x hb e => (hs3.2 b hb).trans e
      have hst4 : ∀ {ρ4 : Rl}, ρ'.le ρ4 → ∀ b ∈ fz, Stands c ρ4 b := fun hle4 b hb => ((hfz b hb).le hle).le hle4
      have hw3 : WS (rs.length + 1) h3 := T.W.frame _ _ _ hw2 fun b hb x ex => (hs3.2 b (by
        rcases List.mem_cons.mp hb with hb | hb
        · exact fun q => S'.ne3.2.2 (q.symm.trans hb)
        · exact (hst4 (Rl.le.refl _) b hb).ne T3 (.tail _ (.head _)))).trans ex
      have hv3 : CompVar ((Dd, PySem.W.listOf (rs.filterMap id).toArray nD) :: (C, e3) :: (I, f2) :: mu) C x v := ⟨e3, .tail _ (.head _), es3, ep3, hd3, hk3, by rw [hf3]; simp⟩
      have frameW : ∀ {ρ4 h4}, St c l ((Dd, PySem.W.listOf (rs.filterMap id).toArray nD) :: (C, e3) :: (I, f2) :: mu) ρ4 h4 → ρ'.le ρ4 → WS (rs.length + 1) h4 := fun S4 hle4 => T.W.frame _ _ _ hw3 fun b hb x ex => by
        rcases List.mem_cons.mp hb with rfl | hb
        · have h1 := T3.muget (k := 2) rfl; rw [h1] at ex; cases ex; exact S4.muget (k := 2) rfl
        · exact ((hfz b hb).le hle).keep T3 S4 hle4 ex
      have hrs' : ∀ {ρ4 : Rl} {r : Option Value}, ρ'.le ρ4 → Step rs.length v ρ4 r → ∀ i r', (rs ++ [r])[i]? = some r' → ∃ v, P i v ∧ Step i v ρ4 r' := fun hle4 hst => snoc_get (fun i r' hi => (hrs i r' hi).elim fun v' q => ⟨v', q.1, hmono _ _ _ _ _ hle4 q.2⟩) ⟨v, hP, hst⟩
      have hl1 : ∀ r, (rs ++ [r]).length = rs.length + 1 := fun r => List.length_append
      have dn : ∀ {r s}, CBI c l mu ρ G D O n WS (fun i ρ' r => ∃ v, P i v ∧ Step i v ρ' r) Dd C I (n - (rs ++ [r]).length) s → ∃ k, k < n - rs.length ∧ CBI c l mu ρ G D O n WS (fun i ρ' r => ∃ v, P i v ∧ Step i v ρ' r) Dd C I k s := fun {r s} q => ⟨_, CBI.down (hl1 r).symm hlt, q⟩
      refine wpAny_mono (turn rs.length v C ρ' _ _ _ h3 _ _ hlt hP hle hv3 T3) (fun ok s₃ h₃ => ?_) fun _ _ e => e
      cases ok with
      | false =>
        obtain ⟨ρ4, h4, t4, rfl, S4, hle4, hst4⟩ := h₃
        refine dn (.mk (rs ++ [none]) ρ4 h4 t4 nD e3 f2 _ (hl1 none ▸ hlt) (hle.trans hle4) (hl1 none ▸ frameW S4 hle4) (hrs' hle4 hst4) ?_ ⟨e3, es3, ep3, S4.muget (k := 1) rfl, hd3, hk3, fun _ => rfl⟩)
        rw [List.filterMap_append, show List.filterMap id [(none : Option Value)] = [] from rfl, List.append_nil]; exact S4
      | true =>
        refine wpAny_mono h₃ (fun y s₄ h₄ => ?_) fun _ _ e => e
        obtain ⟨ρ4, h4, t4, rfl, S4, hle4, hst5⟩ := h₄
        have hsz : (rs.filterMap id).toArray.size ≤ sizeLine := by
          have e1 : (rs.filterMap id).length ≤ rs.length := List.length_filterMap_le _ _
          rw [sizeLine_eq, List.size_toArray]; exact Nat.le_trans e1 (Nat.le_trans hlen (Nat.le_trans hn (by decide)))
        refine wpAny_list_append_plain (hsz := hsz) ⟨_, S4.muget (k := 0) rfl⟩ fun h5 hl5 hs5 => ?_
        obtain ⟨n5, hl5⟩ := hl5
        have S5 : St c l ((Dd, PySem.W.listOf ((rs ++ [some y]).filterMap id).toArray n5) :: (C, e3) :: (I, f2) :: mu) ρ4 h5 := by
          have := S4.mut (k := 0) rfl hl5 fun b x hb e => (hs5.2 b hb).trans e
          rw [List.filterMap_append, show List.filterMap id [some y] = [y] from rfl, ← List.push_toArray]; exact this
        refine dn (.mk (rs ++ [some y]) ρ4 h5 t4 n5 e3 f2 _ (hl1 (some y) ▸ hlt) (hle.trans hle4) (hl1 (some y) ▸ ?_) (hrs' hle4 hst5) S5 ⟨e3, es3, ep3, S5.muget (k := 1) rfl, hd3, hk3, fun _ => rfl⟩)
        exact T.W.frame _ _ _ (frameW S4 hle4) fun b hb x ex => (hs5.2 b (by
          rcases List.mem_cons.mp hb with hb | hb
          · exact fun q => S4.ne3.2.1 (q.symm.trans hb)
          · exact (hst4 hle4 b hb).ne S4 (.head _))).trans ex
    · have hin : rs.length = n := Nat.le_antisymm hlen (Nat.le_of_not_lt hlt)
      refine T.W.done _ _ _ (hin ▸ hw') fun h2 tk hk2 => ?_
      have S6 : St c l ((Dd, PySem.W.listOf (rs.filterMap id).toArray nD) :: (C, e) :: mu) ρ' h2 := (S'.perm (mu' := (I, f) :: (Dd, PySem.W.listOf (rs.filterMap id).toArray nD) :: (C, e) :: mu) (.trans (.swap _ _ _) (.cons _ (.swap _ _ _)))).off fun b x hb e => hk2 b x (fun q => hb (List.mem_singleton.mp q)) e
      exact done Dd C e ρ' h2 tk _ rs nD hle hin hrs rfl S6 ⟨m', hm'.at' fun o e => hk2 _ _ (fun q => S'.ne3.2.2 (List.mem_singleton.mp q)) e⟩
  exact codeAny_compStart_list (loop _) (T.W.self 0 _ _ _ hst (loop _))
noncomputable def CompGo (prog : Program) (w : World) (A : Around) (env : Env) (scope : Scope) (cl : List (Str × Addr)) (elt : Expr) (x : Str) (px : Pos) (iter : Expr) (ifs : List Expr) (pos : Pos) (RR : Value → Addr → Result → Shared → Prop) (E : Value → Shared → Prop) (it : Value) (s : Shared) : Prop :=
  wpAny (model prog w) A (newList []) (fun acc s₃ => wpAny (model prog w) A (newFunctionEnv scope env.globals cl [] env.qual none .none (some env)) (fun cenv s₄ =>
      codeAny (model prog w) A (.compStart (.ListComp elt [⟨.Name x px, iter, ifs, 0⟩] scope pos) 0 it acc { cenv with scope := relabel scope env }) (RR acc cenv.locals) s₄) E s₃) E s
theorem R_ListComp {elt iter : Expr} {x : Str} {px : Pos} {ifs : List Expr} {scope : Scope} {cl : List (Str × Addr)} {pos : Pos} {Q : Value → Shared → Prop} {s : Shared}
    (hclos : closureFor scope env = pure cl) (hkind : scope.kind = .function) (hnames : ∀ y ∈ scope.names, y.2 = .local → scope.names.lookup y.1 = some .local)
    (h : wpAny (model prog w) A (eval iter env) (fun xv s₁ => wpAny (model prog w) A (pyIter xv) (CompGo prog w A env scope cl elt x px iter ifs pos (fun acc C => compPost (model prog w) A E none Q acc C) E) E s₁) E s)
    (hs : ∀ x, foldedSetIterable iter env x = pure x := by intro _; rfl) :
    wpAny (model prog w) A (eval (.ListComp elt [⟨.Name x px, iter, ifs, 0⟩] scope pos) env) Q E s := by
  rw [eval_ListComp]
  exact wpAny_comprehension_free (use := none) rfl hs hclos hkind hnames h
theorem R_AssignComp {elt iter : Expr} {x y : Str} {px py : Pos} {ifs : List Expr} {scope : Scope} {cl : List (Str × Addr)} {pos spos : Pos} {Q : Flow → Shared → Prop} {s : Shared}
    (hsw : swapsWith (.ListComp elt [⟨.Name x px, iter, ifs, 0⟩] scope pos) (some (.Name y py)) spos.line env = pure true)
    (hclos : closureFor scope env = pure cl) (hkind : scope.kind = .function) (hnames : ∀ y ∈ scope.names, y.2 = .local → scope.names.lookup y.1 = some .local)
    (h : wpAny (model prog w) A (eval iter env) (fun xv s₁ => wpAny (model prog w) A (pyIter xv) (CompGo prog w A env scope cl elt x px iter ifs pos (fun acc C => compPost (model prog w) A E (some (assign (.Name y py) env)) (fun _ s' => Q .next s') acc C) E) E s₁) E s)
    (hs : ∀ x, foldedSetIterable iter env x = pure x := by intro _; rfl) :
    wpAny (model prog w) A (exec (.Assign [.Name y py] (.ListComp elt [⟨.Name x px, iter, ifs, 0⟩] scope pos) spos) env) Q E s := by
  rw [exec_Assign_Name_used _ _ _ _ hsw]
  refine wpAny_bind (wpAny_standAt (wpAny_bind ?_))
  show wpAny _ A (do let _ ← comprehension (.ListComp elt [⟨.Name x px, iter, ifs, 0⟩] scope pos) scope env _ (newList []) false (eval iter env) (some (assign (.Name y py) env))) _ _ s
  exact wpAny_bind (wpAny_mono (wpAny_comprehension_free (use := some (assign (.Name y py) env)) (Q := fun _ s' => Q .next s') rfl hs hclos hkind hnames h) (fun _ s' hq => wpAny_pure (wpAny_pure hq)) fun _ _ e => e)
theorem R_compE {elt iter : Expr} {x : Str} {px : Pos} {ifs : List Expr} {scope : Scope} {cl : List (Str × Addr)} {pos : Pos} {I : Addr} {o : Obj} {fz : List Addr} {n : Nat} {P : Nat → Value → Prop} {WS : Nat → Heap → Prop} {Q : Value → Shared → Prop}
    (Step : Nat → Value → Rl → Option Value → Prop) (hmono : ∀ i v ρ ρ' r, ρ.le ρ' → Step i v ρ r → Step i v ρ' r)
    (T : Itr prog w A I fz n P WS) (hw : WS 0 h) (S : St c l ((I, o) :: mu) ρ h) (hfz : ∀ b ∈ fz, Stands c ρ b) (hn : n ≤ 1000000)
    (hcell : ∀ y ∈ scope.names, y.2 ≠ .cell) (hkind : scope.kind = .function) (hx : scope.names.lookup x = some .local)
    (turn : ∀ i v C ρ₁ d e f h t E', i < n → P i v → ρ.le ρ₁ → CompVar (d :: e :: f :: mu) C x v → St c l (d :: e :: f :: mu) ρ₁ h →
      wpAny (model prog w) A (tests ifs (compEnvC scope cl C env)) (fun ok s₃ =>
        if ok = true then wpAny (model prog w) A (eval elt (compEnvC scope cl C env)) (fun y s₄ => CNx c G D O l (d :: e :: f :: mu) ρ₁ (fun ρ' => Step i v ρ' (some y)) s₄) E' s₃
        else CNx c G D O l (d :: e :: f :: mu) ρ₁ (fun ρ' => Step i v ρ' none) s₃) E' ⟨h, G, D, t, O⟩)
    (done : ∀ Dd ρ' h t (ys : List Value) (rs : List (Option Value)) nD, ρ.le ρ' → rs.length = n → (∀ i r, rs[i]? = some r → ∃ v, P i v ∧ Step i v ρ' r) → ys = rs.filterMap id →
      St c l ((Dd, PySem.W.listOf ys.toArray nD) :: mu) ρ' h → Q (.ref Dd) ⟨h, G, D, t, O⟩) :
    CompGo prog w A env scope cl elt x px iter ifs pos (fun acc C => compPost (model prog w) A E none Q acc C) E (.ref I) ⟨h, G, D, t, O⟩ := by
  refine R_compBlock Step hmono T hw S hfz hn hcell hkind hx turn ?_
  rintro Dd C e ρ' h' t' ys rs nD hle hl hr hy S' ⟨m, hm⟩
  refine ⟨m, hm, fun h2 hs2 => ?_⟩
  exact done Dd ρ' h2 t' ys rs nD hle hl hr hy ((S'.perm (mu' := (C, e) :: (Dd, PySem.W.listOf ys.toArray nD) :: mu) (.swap _ _ _)).off fun b z hb ez => (hs2.2 b hb).trans ez)
theorem R_compA {elt iter : Expr} {x y : Str} {px py : Pos} {ifs : List Expr} {scope : Scope} {cl : List (Str × Addr)} {pos : Pos} {I : Addr} {o : Obj} {fz : List Addr} {n : Nat} {P : Nat → Value → Prop} {WS : Nat → Heap → Prop} {Q : Flow → Shared → Prop} {j : Nat}
    (B : Bx K c A env) (hj : c.ns[j]? = some y)
    (Step : Nat → Value → Rl → Option Value → Prop) (hmono : ∀ i v ρ ρ' r, ρ.le ρ' → Step i v ρ r → Step i v ρ' r)
    (T : Itr prog w A I fz n P WS) (hw : WS 0 h) (S : St c l ((I, o) :: mu) ρ h) (hfz : ∀ b ∈ fz, Stands c ρ b) (hn : n ≤ 1000000)
    (hcell : ∀ y ∈ scope.names, y.2 ≠ .cell) (hkind : scope.kind = .function) (hx : scope.names.lookup x = some .local)
    (turn : ∀ i v C ρ₁ d e f h t E', i < n → P i v → ρ.le ρ₁ → CompVar (d :: e :: f :: mu) C x v → St c l (d :: e :: f :: mu) ρ₁ h →
      wpAny (model prog w) A (tests ifs (compEnvC scope cl C env)) (fun ok s₃ =>
        if ok = true then wpAny (model prog w) A (eval elt (compEnvC scope cl C env)) (fun y s₄ => CNx c G D O l (d :: e :: f :: mu) ρ₁ (fun ρ' => Step i v ρ' (some y)) s₄) E' s₃
        else CNx c G D O l (d :: e :: f :: mu) ρ₁ (fun ρ' => Step i v ρ' none) s₃) E' ⟨h, G, D, t, O⟩)
    (done : ∀ Dd ρ' h t (ys : List Value) (rs : List (Option Value)) nD, ρ.le ρ' → rs.length = n → (∀ i r, rs[i]? = some r → ∃ v, P i v ∧ Step i v ρ' r) → ys = rs.filterMap id →
      St c (l.set j (some (.ref Dd))) ((Dd, PySem.W.listOf ys.toArray nD) :: mu) ρ' h → Q .next ⟨h, G, D, t, O⟩) (hk : env.kindOf y = some .local := by rfl) :
    CompGo prog w A env scope cl elt x px iter ifs pos (fun acc C => compPost (model prog w) A E (some (assign (.Name y py) env)) (fun _ s' => Q .next s') acc C) E (.ref I) ⟨h, G, D, t, O⟩ := by
  refine R_compBlock Step hmono T hw S hfz hn hcell hkind hx turn ?_
  rintro Dd C e ρ' h' t' ys rs nD hle hl hr hy S' ⟨m, hm⟩
  show wpAny _ A (assign (.Name y py) env (.ref Dd)) _ _ _
  refine wpAny_assign_Name (wpAny_storeName_local hk (by rw [B.hl]; exact S'.F.ns) (fun h2 hn2 hs2 => ?_) (by rw [B.hk]; rfl))
  rw [B.hl] at hn2 hs2
  have S2 := S'.set hj hn2 hs2
  have hCL : C ≠ c.L := (S'.N (C, e) (by simp)).2.1
  refine ⟨m, hm.sameBut hs2 hCL, fun h3 hs3 => ?_⟩
  exact done Dd ρ' h3 _ ys rs nD hle hl hr hy ((S2.perm (mu' := (C, e) :: (Dd, PySem.W.listOf ys.toArray nD) :: mu) (.swap _ _ _)).off fun b z hb ez => (hs3.2 b hb).trans ez)
noncomputable def MapStep (Elt : Nat → Value → Rl → Value → Prop) : Nat → Value → Rl → Option Value → Prop := fun i v ρ r => ∃ y, r = some y ∧ Elt i v ρ y
theorem mapStep_done {Elt : Nat → Value → Rl → Value → Prop} {P : Nat → Value → Prop} {ρ : Rl} {n : Nat} : ∀ {rs : List (Option Value)} {ys : List Value}, rs.length = n → (∀ i r, rs[i]? = some r → ∃ v, P i v ∧ MapStep Elt i v ρ r) → ys = rs.filterMap id →
    ys.length = n ∧ ∀ i y, ys[i]? = some y → ∃ v, P i v ∧ Elt i v ρ y := by
  intro rs ys hn hr hy
  have e : rs = ys.map some := by
    have : ∀ (rs : List (Option Value)), (∀ r ∈ rs, ∃ y, r = some y) → rs = (rs.filterMap id).map some := by
      intro rs
      induction rs with
      | nil => intro _; rfl
      | cons r rs ih =>
        intro hq
        obtain ⟨y, rfl⟩ := hq r (by simp)
        simp only [List.filterMap_cons, id, List.map_cons]
        rw [← ih fun r hr => hq r (by simp [hr])]
    rw [hy]
    refine this rs fun r hm => ?_
    obtain ⟨i, hi⟩ := List.getElem?_of_mem hm
    obtain ⟨v, _, y, hy, _⟩ := hr i r hi
    exact ⟨y, hy⟩
  subst e
  refine ⟨by simpa using hn, fun i y hi => ?_⟩
  obtain ⟨v, hP, y', hy', hE⟩ := hr i (some y) (by simp [hi])
  cases hy'
  exact ⟨v, hP, hE⟩
end
end Mine
end
section
open PySem PySem.W PyProof.Rows PySem.Calls
set_option maxRecDepth 100000
namespace Mine
noncomputable def Are {α : Type} (P : Value → α → Prop) (vs : List Value) (xs : List α) : Prop := vs.length = xs.length ∧ ∀ (i : Nat) (v : Value) (x : α), vs[i]? = some v → xs[i]? = some x → P v x
noncomputable def IsI (v : Value) (i : Int) : Prop := ∃ t, v = .int i t
noncomputable def IsN (v : Value) (n : Nat) : Prop := ∃ t, v = .int (n : Nat) t
theorem isN_of {i : Int} {u : Tok} {n : Nat} (h : i = (n : Int)) : IsN (.int i u) n := ⟨u, by rw [h]⟩
theorem isI_of {i j : Int} {u : Tok} (h : i = j) : IsI (.int i u) j := ⟨u, by rw [h]⟩
theorem fmod_nat (a b : Nat) : (a : Int).fmod (b : Int) = ((a % b : Nat) : Int) := by rw [Int.fmod_eq_emod_of_nonneg _ (Int.natCast_nonneg _)]; (first | lia | omega)
noncomputable def IsS (v : Value) (x : Str) : Prop := ∃ t, v = .str x t
noncomputable abbrev lstO (vs : List Value) (n : Nat) : Obj := { cls := .type "list", data := .seq vs.toArray n }
noncomputable abbrev tupO (vs : List Value) (n : Nat) : Obj := { cls := .type "tuple", data := .seq vs.toArray n }
noncomputable def Lst {α : Type} (P : Value → α → Prop) (ρ : Rl) (a : Addr) (xs : List α) : Prop := ∃ vs n, ρ a (lstO vs n) ∧ Are P vs xs
noncomputable def Tup {α : Type} (P : Value → α → Prop) (ρ : Rl) (a : Addr) (xs : List α) : Prop := ∃ vs n, ρ a (tupO vs n) ∧ Are P vs xs
section
variable {α β : Type} {P : Value → α → Prop} {P' : Value → β → Prop} {vs ws : List Value} {xs ys : List α}
theorem Are.nil : Are P [] [] := ⟨rfl, fun i v x h => by simp at h⟩
theorem Are.len (x : Are P vs xs) : vs.length = xs.length := x.1
theorem Are.cons {v : Value} {x : α} (p : P v x) (r : Are P vs xs) : Are P (v :: vs) (x :: xs) := by
  refine ⟨by simp [r.1], fun i u y h1 h2 => ?_⟩
  cases i with
  | zero => simp at h1 h2; subst h1; subst h2; exact p
  | succ i => simp at h1 h2; exact r.2 i u y h1 h2
theorem Are.uncons {v : Value} (r : Are P (v :: vs) xs) : ∃ x ys, xs = x :: ys ∧ P v x ∧ Are P vs ys := by
  cases xs with
  | nil => exact absurd r.1 (by simp)
  | cons x xs => exact ⟨x, xs, rfl, r.2 0 v x (by simp) (by simp), by have := r.1; simpa using this, fun i u y h1 h2 => r.2 (i + 1) u y (by simpa using h1) (by simpa using h2)⟩
theorem Are.un {x : α} (r : Are P vs (x :: xs)) : ∃ v us, vs = v :: us ∧ P v x ∧ Are P us xs := by
  cases vs with
  | nil => exact absurd r.1 (by simp)
  | cons v vs =>
    obtain ⟨y, ys, e, p, q⟩ := r.uncons
    cases e; exact ⟨v, vs, rfl, p, q⟩
theorem Are.at {i : Nat} {v : Value} (r : Are P vs xs) (h : vs[i]? = some v) : ∃ x, xs[i]? = some x ∧ P v x := by
  have hi : i < xs.length := by rw [← r.1]; exact (List.getElem?_eq_some_iff.mp h).1
  exact ⟨xs[i], List.getElem?_eq_getElem hi, r.2 i v _ h (List.getElem?_eq_getElem hi)⟩
theorem Are.of {i : Nat} {x : α} (r : Are P vs xs) (h : xs[i]? = some x) : ∃ v, vs[i]? = some v ∧ P v x := by
  have hi : i < vs.length := by rw [r.1]; exact (List.getElem?_eq_some_iff.mp h).1
  exact ⟨vs[i], List.getElem?_eq_getElem hi, r.2 i _ x (List.getElem?_eq_getElem hi) h⟩
theorem Are.append (a : Are P vs xs) (b : Are P ws ys) : Are P (vs ++ ws) (xs ++ ys) := by
  refine ⟨by simp [a.1, b.1], fun i v x h1 h2 => ?_⟩
  by_cases h : i < vs.length
  · rw [List.getElem?_append_left h] at h1
    rw [List.getElem?_append_left (by rw [← a.1]; exact h)] at h2
    exact a.2 i v x h1 h2
  · rw [List.getElem?_append_right (by (first | lia | omega))] at h1
    rw [List.getElem?_append_right (by rw [← a.1]; (first | lia | omega)), ← a.1] at h2
    exact b.2 _ v x h1 h2
theorem Are.mono {P P' : Value → α → Prop} (a : Are P vs xs) (h : ∀ v x, P v x → P' v x) : Are P' vs xs := ⟨a.1, fun i v x h1 h2 => h v x (a.2 i v x h1 h2)⟩
theorem Are.steps {f : α → β} (a : Are P vs xs) (hl : ws.length = vs.length) (h : ∀ (i : Nat) y, ws[i]? = some y → ∃ x, xs[i]? = some x ∧ P' y (f x)) : Are P' ws (xs.map f) := by
  refine ⟨by simp [hl, a.1], fun i y z h1 h2 => ?_⟩
  obtain ⟨x, hx, hp⟩ := h i y h1
  rw [List.getElem?_map, hx] at h2
  cases h2; exact hp
theorem Are.take (a : Are P vs xs) (n : Nat) : Are P (vs.take n) (xs.take n) := by
  refine ⟨by simp [a.1], fun i v x h1 h2 => ?_⟩
  rw [List.getElem?_take] at h1 h2
  split at h1
  · rename_i h; rw [if_pos h] at h2; exact a.2 i v x h1 h2
  · cases h1
theorem Are.rep {v : Value} {x : α} (p : P v x) : ∀ (n : Nat), Are P (List.replicate n v) (List.replicate n x)
  | 0 => .nil
  | n + 1 => .cons p (Are.rep p n)
theorem Are.set {i : Nat} {v : Value} {x : α} (a : Are P vs xs) (p : P v x) : Are P (vs.set i v) (xs.set i x) := by
  refine ⟨by simp [a.1], fun j u y h1 h2 => ?_⟩
  rw [List.getElem?_set] at h1 h2
  by_cases h : i = j
  · subst h
    rw [if_pos rfl] at h1 h2
    split at h1 <;> split at h2 <;> simp_all
  · rw [if_neg h] at h1 h2; exact a.2 j u y h1 h2
end
section
variable {α : Type} {P : Value → α → Prop} {ρ ρ' : Rl} {a : Addr} {xs : List α} {c : FrC} {l : List (Option Value)} {mu : List (Addr × Obj)} {h : Heap}
theorem Lst.le (x : Lst P ρ a xs) (hle : ρ.le ρ') : Lst P ρ' a xs := let ⟨vs, n, e, r⟩ := x; ⟨vs, n, hle _ _ e, r⟩
theorem Tup.le (x : Tup P ρ a xs) (hle : ρ.le ρ') : Tup P ρ' a xs := let ⟨vs, n, e, r⟩ := x; ⟨vs, n, hle _ _ e, r⟩
theorem Lst.mono {P' : Value → α → Prop} (x : Lst P ρ a xs) (hp : ∀ v x, P v x → P' v x) : Lst P' ρ a xs := let ⟨vs, n, e, r⟩ := x; ⟨vs, n, e, r.mono hp⟩
theorem IsList.of_get {vs : List Value} {n : Nat} (e : h.get? a = some (lstO vs n)) : h.IsList a vs.toArray := ⟨_, e, rfl, n, rfl⟩
theorem IsTuple.of_get {vs : List Value} {n : Nat} (e : h.get? a = some (tupO vs n)) : h.IsTuple a vs.toArray := ⟨_, e, rfl, n, rfl⟩
theorem Lst.stands (x : Lst P ρ a xs) : Stands c ρ a := let ⟨_, _, e, _⟩ := x; .inl ⟨_, e⟩
theorem Tup.stands (x : Tup P ρ a xs) : Stands c ρ a := let ⟨_, _, e, _⟩ := x; .inl ⟨_, e⟩
end
section
variable {prog : Program} {w : World} {K : Frag} {A : Around} {E : Value → Shared → Prop} {env : Env} {c : FrC} {l : List (Option Value)} {mu : List (Addr × Obj)} {ρ : Rl} {h : Heap} {G : Array GenState} {D : Drawn} {O : OsState} {t : Nat}
theorem R_len {a : Addr} {vs : List Value} {n : Nat} {Q : Value → Shared → Prop} (hl : h.get? a = some (lstO vs n)) (hz : vs.length < 2 ^ 40) (k : ∀ u t', Q (.int (vs.length : Nat) u) ⟨h, G, D, t', O⟩) :
    wpAny (model prog w) A (call (.builtin "len") [.ref a]) Q E ⟨h, G, D, t, O⟩ :=
  call_len_list (s := ⟨h, G, D, t, O⟩) (IsList.of_get hl) (by simp; (first | lia | omega)) (by simpa using k _ _)
theorem R_len_list {α : Type} {P : Value → α → Prop} {a : Addr} {xs : List α} {Q : Value → Shared → Prop} (S : St c l mu ρ h) (hl : Lst P ρ a xs) (hz : xs.length < 2 ^ 40) (k : ∀ u t', Q (.int (xs.length : Nat) u) ⟨h, G, D, t', O⟩) :
    wpAny (model prog w) A (call (.builtin "len") [.ref a]) Q E ⟨h, G, D, t, O⟩ := by
  obtain ⟨vs, n, e, r⟩ := hl
  exact R_len (S.get e) (by rw [r.1]; exact hz) fun u t' => by rw [r.1]; exact k u t'
noncomputable def ListGo (Q : Value → Shared → Prop) (vs : List Value) (s : Shared) : Prop := vs.length ≤ sizeLine ∧ Q (.ref s.heap.objs.size) { s with heap := s.heap.push { cls := .type "list", data := .seq vs.toArray } }
theorem R_List {elts : List Expr} {pos : Pos} {Q : Value → Shared → Prop} {s : Shared} (k : wpAny (model prog w) A (spliced (backTo pos (starEach elts env))) (ListGo Q) E s) : wpAny (model prog w) A (eval (.List elts pos) env) Q E s := wpAny_List k
noncomputable def TupGo (Q : Value → Shared → Prop) (vs : List Value) (s : Shared) : Prop := vs.length ≤ sizeLine ∧ Q (.ref s.heap.objs.size) { s with heap := s.heap.push { cls := .type "tuple", data := .seq vs.toArray } }
theorem R_Tuple {elts : List Expr} {n : Nat} {pos : Pos} {Q : Value → Shared → Prop} {s : Shared} (k : wpAny (model prog w) A (spliced (backTo pos (starEach elts env))) (TupGo Q) E s) : wpAny (model prog w) A (eval (.Tuple elts n pos) env) Q E s := wpAny_Tuple k
theorem R_listNew {vs : List Value} {Q : Value → Shared → Prop} (S : St c l mu ρ h) (hz : vs.length ≤ 1000) (k : ∀ a h', St c l mu (ρ.add a (lstO vs 0)) h' → Q (.ref a) ⟨h', G, D, t, O⟩) : ListGo Q vs ⟨h, G, D, t, O⟩ :=
  ⟨by rw [sizeLine_eq]; (first | lia | omega), k _ _ (S.push _)⟩
theorem R_listNewMu {vs : List Value} {Q : Value → Shared → Prop} (S : St c l mu ρ h) (hz : vs.length ≤ 1000) (k : ∀ a h', St c l ((a, lstO vs 0) :: mu) ρ h' → Q (.ref a) ⟨h', G, D, t, O⟩) : ListGo Q vs ⟨h, G, D, t, O⟩ :=
  ⟨by rw [sizeLine_eq]; (first | lia | omega), k _ _ (S.pushMu _)⟩
theorem R_tupNew {vs : List Value} {Q : Value → Shared → Prop} (S : St c l mu ρ h) (hz : vs.length ≤ 1000) (k : ∀ a h', St c l mu (ρ.add a (tupO vs 0)) h' → Q (.ref a) ⟨h', G, D, t, O⟩) : TupGo Q vs ⟨h, G, D, t, O⟩ :=
  ⟨by rw [sizeLine_eq]; (first | lia | omega), k _ _ (S.push _)⟩
theorem R_lcat {a b : Addr} {vs ws : List Value} {n m : Nat} {Q : Value → Shared → Prop} (S : St c l mu ρ h) (ha : h.get? a = some (lstO vs n)) (hb : h.get? b = some (lstO ws m)) (hz : vs.length + ws.length ≤ 100000)
    (k : ∀ d h', St c l mu (ρ.add d (lstO (vs ++ ws) 0)) h' → Q (.ref d) ⟨h', G, D, t, O⟩) : wpAny (model prog w) A (binaryOp .Add (.ref a) (.ref b)) Q E ⟨h, G, D, t, O⟩ := by
  have e : vs.toArray ++ ws.toArray = (vs ++ ws).toArray := by simp
  refine concat_meets ⟨_, ha, rfl⟩ ⟨_, hb, rfl⟩ noFill_list_add seq_list_add PySem.F.slot_list_add PySem.F.entry_list_add (PySem.F.args_list_add_2 _ _) (list_addW a b vs.toArray ws.toArray n m none none #[] #[] (by rw [sizeLine_eq]; simp; (first | lia | omega))) ⟨ha, hb, ?_⟩
  rw [e]
  exact k _ _ (S.push _)
theorem R_lcatMu {a b : Addr} {vs ws : List Value} {n m : Nat} {Q : Value → Shared → Prop} (S : St c l mu ρ h) (ha : h.get? a = some (lstO vs n)) (hb : h.get? b = some (lstO ws m)) (hz : vs.length + ws.length ≤ 100000)
    (k : ∀ d h', St c l ((d, lstO (vs ++ ws) 0) :: mu) ρ h' → Q (.ref d) ⟨h', G, D, t, O⟩) : wpAny (model prog w) A (binaryOp .Add (.ref a) (.ref b)) Q E ⟨h, G, D, t, O⟩ := by
  have e : vs.toArray ++ ws.toArray = (vs ++ ws).toArray := by simp
  refine concat_meets ⟨_, ha, rfl⟩ ⟨_, hb, rfl⟩ noFill_list_add seq_list_add PySem.F.slot_list_add PySem.F.entry_list_add (PySem.F.args_list_add_2 _ _) (list_addW a b vs.toArray ws.toArray n m none none #[] #[] (by rw [sizeLine_eq]; simp; (first | lia | omega))) ⟨ha, hb, ?_⟩
  rw [e]
  exact k _ _ (S.pushMu _)
theorem R_cat {α : Type} {P : Value → α → Prop} {a b : Addr} {xs ys : List α} {Q : Value → Shared → Prop} (S : St c l mu ρ h) (ha : Lst P ρ a xs) (hb : Lst P ρ b ys) (hz : xs.length + ys.length ≤ 100000)
    (k : ∀ d h' ρ', St c l mu ρ' h' → ρ.le ρ' → Lst P ρ' d (xs ++ ys) → Q (.ref d) ⟨h', G, D, t, O⟩) : wpAny (model prog w) A (binaryOp .Add (.ref a) (.ref b)) Q E ⟨h, G, D, t, O⟩ := by
  obtain ⟨vs, n, e, r⟩ := ha
  obtain ⟨ws, m, e', r'⟩ := hb
  exact R_lcat S (S.get e) (S.get e') (by rw [r.1, r'.1]; exact hz) fun d h' S' => k d h' _ S' (ρ.le_add _ _) ⟨_, _, ρ.at_add _ _, r.append r'⟩
theorem R_litem {value slice : Expr} {a : Addr} {vs : List Value} {n : Nat} {i : Int} {u : Tok} {x : Value} {Q : Value → Shared → Prop} (ha : h.get? a = some (lstO vs n)) (h0 : 0 ≤ i) (h1 : i < 2 ^ 40) (hx : vs[i.toNat]? = some x)
    (k : Q x ⟨h, G, D, t, O⟩) (hs : subscripted slice false (.ref a) (.int i u) = operate [.ref a, .int i u] (getItem (.ref a) (.int i u))) (hg : ∀ r, letTemporaryGo value (.ref a) r = pure ()) :
    wpAny (model prog w) A (subscriptTail value slice (.ref a) (.int i u)) Q E ⟨h, G, D, t, O⟩ :=
  item_listL (s := ⟨h, G, D, t, O⟩) (IsList.of_get ha) h0 (by (first | lia | omega)) hx k hs hg
theorem R_item {α : Type} {P : Value → α → Prop} {value slice : Expr} {a : Addr} {xs : List α} {i : Int} {u : Tok} {x : α} {Q : Value → Shared → Prop} (S : St c l mu ρ h) (ha : Lst P ρ a xs) (h0 : 0 ≤ i) (h1 : i < 2 ^ 40) (hx : xs[i.toNat]? = some x)
    (k : ∀ v, P v x → Q v ⟨h, G, D, t, O⟩) (hs : subscripted slice false (.ref a) (.int i u) = operate [.ref a, .int i u] (getItem (.ref a) (.int i u))) (hg : ∀ r, letTemporaryGo value (.ref a) r = pure ()) :
    wpAny (model prog w) A (subscriptTail value slice (.ref a) (.int i u)) Q E ⟨h, G, D, t, O⟩ := by
  obtain ⟨vs, n, e, r⟩ := ha
  obtain ⟨v, hv, p⟩ := r.of hx
  exact R_litem (S.get e) h0 h1 hv (k v p) hs hg
theorem R_upper {x y : Str} {u : Tok} {Q : Value → Shared → Prop} (e : Txt.upper x = y) (hf : Builtin.Str.tooLong y.length = false) (k : ∀ u t', Q (.str y u) ⟨h, G, D, t', O⟩) : wpAny (model prog w) A (call (.builtin "str.upper") [.str x u]) Q E ⟨h, G, D, t, O⟩ :=
  SC.upper (by rw [e]; exact hf) (by rw [e]; exact k _ _)
theorem R_lower {x y : Str} {u : Tok} {Q : Value → Shared → Prop} (e : Txt.lower x = y) (hf : Builtin.Str.tooLong y.length = false) (k : ∀ u t', Q (.str y u) ⟨h, G, D, t', O⟩) : wpAny (model prog w) A (call (.builtin "str.lower") [.str x u]) Q E ⟨h, G, D, t, O⟩ :=
  SC.lower (by rw [e]; exact hf) (by rw [e]; exact k _ _)
theorem R_iter_lst {α : Type} {P : Value → α → Prop} {a : Addr} {xs : List α} {Q : Value → Shared → Prop} (hh : A.handled = none) (S : St c l mu ρ h) (hl : Lst P ρ a xs)
    (k : ∀ I o h' (WS : Nat → Heap → Prop), Itr prog w A I [a] xs.length (fun i v => ∃ x, xs[i]? = some x ∧ P v x) WS → WS 0 h' → St c l ((I, o) :: mu) ρ h' → (∀ b ∈ [a], Stands c ρ b) → Q (.ref I) ⟨h', G, D, t, O⟩) :
    wpAny (model prog w) A (pyIter (.ref a)) Q E ⟨h, G, D, t, O⟩ := by
  obtain ⟨vs, n, e, r⟩ := hl
  refine R_iter_list hh S (IsList.of_get (S.get e)) (.inl ⟨_, e⟩) fun I o h' WS T hw S' hfz => k I o h' WS ?_ hw S' hfz
  have hsz : vs.toArray.size = xs.length := by simp [r.1]
  rw [← hsz]
  exact ⟨{ T.W with item := fun i s Q E hi st hQ => T.W.item i s Q E hi st fun v h' tk hP => hQ v h' tk (r.at (by simpa using hP)) }, T.al⟩
theorem R_iter_tup {α : Type} {P : Value → α → Prop} {a : Addr} {xs : List α} {Q : Value → Shared → Prop} (hh : A.handled = none) (S : St c l mu ρ h) (hl : Tup P ρ a xs)
    (k : ∀ I o h' (WS : Nat → Heap → Prop), Itr prog w A I [a] xs.length (fun i v => ∃ x, xs[i]? = some x ∧ P v x) WS → WS 0 h' → St c l ((I, o) :: mu) ρ h' → (∀ b ∈ [a], Stands c ρ b) → Q (.ref I) ⟨h', G, D, t, O⟩) :
    wpAny (model prog w) A (pyIter (.ref a)) Q E ⟨h, G, D, t, O⟩ := by
  obtain ⟨vs, n, e, r⟩ := hl
  refine R_iter_tuple hh S (IsTuple.of_get (S.get e)) (.inl ⟨_, e⟩) fun I o h' WS T hw S' hfz => k I o h' WS ?_ hw S' hfz
  have hsz : vs.toArray.size = xs.length := by simp [r.1]
  rw [← hsz]
  exact ⟨{ T.W with item := fun i s Q E hi st hQ => T.W.item i s Q E hi st fun v h' tk hP => hQ v h' tk (r.at (by simpa using hP)) }, T.al⟩
noncomputable def FStep {α β : Type} (xs : List α) (p : α → Bool) (f : α → β) (PP : Rl → Value → β → Prop) : Nat → Value → Rl → Option Value → Prop := fun i _ ρ r => ∃ x, xs[i]? = some x ∧ match r with
  | some y => p x = true ∧ PP ρ y (f x)
  | none => p x = false
theorem fstep_done {α β : Type} {f : α → β} {PP : Rl → Value → β → Prop} {ρ : Rl} {p : α → Bool} : ∀ (xs : List α) (rs : List (Option Value)), rs.length = xs.length → (∀ (i : Nat) r, rs[i]? = some r → ∃ x, xs[i]? = some x ∧ match r with
  | some y => p x = true ∧ PP ρ y (f x)
  | none => p x = false) → Are (PP ρ) (rs.filterMap id) ((xs.filter p).map f)
  | [], [], _, _ => .nil
  | [], _ :: _, e, _ => by simp at e
  | _ :: _, [], e, _ => by simp at e
  | x :: xs, r :: rs, e, h => by
    have ih := fstep_done xs rs (by simpa using e) fun i r hi => by
      obtain ⟨x', hx, q⟩ := h (i + 1) r (by simpa using hi)
      exact ⟨x', by simpa using hx, q⟩
    obtain ⟨x', hx, q⟩ := h 0 r rfl
    simp at hx; subst hx
    cases r with
    | none => simp only at q; simpa [List.filter_cons, q] using ih
    | some y =>
      simp only at q
      simp only [List.filterMap_cons, id, List.filter_cons, q.1, if_true, List.map_cons]
      exact .cons q.2 ih
noncomputable abbrev FTurn (prog : Program) (w : World) (A : Around) (c : FrC) (G : Array GenState) (D : Drawn) (O : OsState) (l : List (Option Value)) (mu : List (Addr × Obj)) (ρ : Rl) (env : Env) (scope : Scope) (cl : List (Str × Addr)) (ifs : List Expr) (elt : Expr) (x : Str) {α β : Type} (P : Rl → Value → α → Prop) (xs : List α) (p : α → Bool) (f : α → β) (PP : Rl → Value → β → Prop) : Prop :=
  ∀ (i : Nat) v z C ρ₁ d e f' h t E', xs[i]? = some z → P ρ₁ v z → ρ.le ρ₁ → CompVar (d :: e :: f' :: mu) C x v → St c l (d :: e :: f' :: mu) ρ₁ h →
      wpAny (model prog w) A (tests ifs (compEnvC scope cl C env)) (fun ok s₃ => ok = p z ∧
        if ok = true then wpAny (model prog w) A (eval elt (compEnvC scope cl C env)) (fun y s₄ => CNx c G D O l (d :: e :: f' :: mu) ρ₁ (fun ρ' => PP ρ' y (f z)) s₄) E' s₃
        else CNx c G D O l (d :: e :: f' :: mu) ρ₁ (fun _ => True) s₃) E' ⟨h, G, D, t, O⟩
theorem R_fE {elt iter : Expr} {x : Str} {px : Pos} {ifs : List Expr} {scope : Scope} {cl : List (Str × Addr)} {pos : Pos} {I : Addr} {o : Obj} {fz : List Addr} {WS : Nat → Heap → Prop} {Q : Value → Shared → Prop} {α β : Type} {P : Rl → Value → α → Prop} {xs : List α} {P₀ : Nat → Value → Prop}
    (p : α → Bool) (f : α → β) (PP : Rl → Value → β → Prop) (hmono : ∀ ρ ρ' v y, ρ.le ρ' → PP ρ v y → PP ρ' v y)
    (T : Itr prog w A I fz xs.length P₀ WS) (hP : ∀ i v, P₀ i v → ∃ z, xs[i]? = some z ∧ ∀ ρ', ρ.le ρ' → P ρ' v z) (hw : WS 0 h) (S : St c l ((I, o) :: mu) ρ h) (hfz : ∀ b ∈ fz, Stands c ρ b) (hn : xs.length ≤ 1000000)
    (hcell : ∀ y ∈ scope.names, y.2 ≠ .cell) (hkind : scope.kind = .function) (hx : scope.names.lookup x = some .local)
    (turn : FTurn prog w A c G D O l mu ρ env scope cl ifs elt x P xs p f PP)
    (done : ∀ Dd ρ' h t, ρ.le ρ' → Lst (PP ρ') ρ' Dd ((xs.filter p).map f) → St c l mu ρ' h → Q (.ref Dd) ⟨h, G, D, t, O⟩) :
    CompGo prog w A env scope cl elt x px iter ifs pos (fun acc C => compPost (model prog w) A E none Q acc C) E (.ref I) ⟨h, G, D, t, O⟩ := by
  refine R_compE (FStep xs p f PP) ?_ T hw S hfz hn hcell hkind hx ?_ ?_
  · rintro i v ρ ρ' r hle ⟨z, hz, q⟩
    refine ⟨z, hz, ?_⟩
    cases r with
    | none => exact q
    | some y => exact ⟨q.1, hmono _ _ _ _ hle q.2⟩
  · intro i v C ρ₁ d e f' h t E' hi hp hle hcv S1
    obtain ⟨z, hz, hpz⟩ := hP i v hp
    refine wpAny_mono (turn i v z C ρ₁ d e f' h t E' hz (hpz _ hle) hle hcv S1) (fun ok s₃ h₃ => ?_) fun _ _ e => e
    obtain ⟨hok, h₃⟩ := h₃
    cases ok with
    | true =>
      simp only [if_true] at h₃ ⊢
      refine wpAny_mono h₃ (fun y s₄ h₄ => ?_) fun _ _ e => e
      obtain ⟨ρ', h', t', rfl, S', hle', q⟩ := h₄
      exact ⟨ρ', h', t', rfl, S', hle', z, hz, hok.symm, q⟩
    | false =>
      simp only [Bool.false_eq_true, if_false] at h₃ ⊢
      obtain ⟨ρ', h', t', rfl, S', hle', q⟩ := h₃
      exact ⟨ρ', h', t', rfl, S', hle', z, hz, hok.symm⟩
  · rintro Dd ρ' h' t' ys rs nD hle hl hr rfl S'
    refine done Dd _ h' t' (hle.trans (Rl.le_add _ _ _)) ⟨_, _, Rl.at_add _ _ _, ?_⟩ (S'.freeze (k := 0) rfl)
    refine (fstep_done xs rs hl fun i r hi => ?_).mono fun v y q => hmono _ _ _ _ (Rl.le_add _ _ _) q
    obtain ⟨v, _, z, hz, q⟩ := hr i r hi
    exact ⟨z, hz, q⟩
theorem R_fE' {elt iter : Expr} {x : Str} {px : Pos} {ifs : List Expr} {scope : Scope} {cl : List (Str × Addr)} {pos : Pos} {I : Addr} {o : Obj} {fz : List Addr} {WS : Nat → Heap → Prop} {Q : Value → Shared → Prop} {α β : Type} {P : Rl → Value → α → Prop} {xs : List α} {P₀ : Nat → Value → Prop}
    (p : α → Bool) (f : α → β) (PP : Rl → Value → β → Prop) (hmono : ∀ ρ ρ' v y, ρ.le ρ' → PP ρ v y → PP ρ' v y)
    (T : Itr prog w A I fz xs.length P₀ WS) (hP : ∀ i v, P₀ i v → ∃ z, xs[i]? = some z ∧ ∀ ρ', ρ.le ρ' → P ρ' v z) (hw : WS 0 h) (S : St c l ((I, o) :: mu) ρ h) (hfz : ∀ b ∈ fz, Stands c ρ b) (hn : xs.length ≤ 1000000)
    (hcell : ∀ y ∈ scope.names, y.2 ≠ .cell) (hkind : scope.kind = .function) (hx : scope.names.lookup x = some .local)
    (turn : FTurn prog w A c G D O l mu ρ env scope cl ifs elt x P xs p f PP)
    (done : ∀ Dd ρ' h t, (∀ a o, ρ a o → a ≠ Dd) → ρ.le ρ' → Lst (PP ρ') ρ' Dd ((xs.filter p).map f) → St c l mu ρ' h → Q (.ref Dd) ⟨h, G, D, t, O⟩) :
    CompGo prog w A env scope cl elt x px iter ifs pos (fun acc C => compPost (model prog w) A E none Q acc C) E (.ref I) ⟨h, G, D, t, O⟩ := by
  refine R_compE (FStep xs p f PP) ?_ T hw S hfz hn hcell hkind hx ?_ ?_
  · rintro i v ρ ρ' r hle ⟨z, hz, q⟩
    refine ⟨z, hz, ?_⟩
    cases r with
    | none => exact q
    | some y => exact ⟨q.1, hmono _ _ _ _ hle q.2⟩
  · intro i v C ρ₁ d e f' h t E' hi hp hle hcv S1
    obtain ⟨z, hz, hpz⟩ := hP i v hp
    refine wpAny_mono (turn i v z C ρ₁ d e f' h t E' hz (hpz _ hle) hle hcv S1) (fun ok s₃ h₃ => ?_) fun _ _ e => e
    obtain ⟨hok, h₃⟩ := h₃
    cases ok with
    | true =>
      simp only [if_true] at h₃ ⊢
      refine wpAny_mono h₃ (fun y s₄ h₄ => ?_) fun _ _ e => e
      obtain ⟨ρ', h', t', rfl, S', hle', q⟩ := h₄
      exact ⟨ρ', h', t', rfl, S', hle', z, hz, hok.symm, q⟩
    | false =>
      simp only [Bool.false_eq_true, if_false] at h₃ ⊢
      obtain ⟨ρ', h', t', rfl, S', hle', q⟩ := h₃
      exact ⟨ρ', h', t', rfl, S', hle', z, hz, hok.symm⟩
  · rintro Dd ρ' h' t' ys rs nD hle hl hr rfl S'
    refine done Dd _ h' t' (fun a o e q => (S'.fz a o (hle _ _ e)).2.2 (by rw [q]; simp)) (hle.trans (Rl.le_add _ _ _)) ⟨_, _, Rl.at_add _ _ _, ?_⟩ (S'.freeze (k := 0) rfl)
    refine (fstep_done xs rs hl fun i r hi => ?_).mono fun v y q => hmono _ _ _ _ (Rl.le_add _ _ _) q
    obtain ⟨v, _, z, hz, q⟩ := hr i r hi
    exact ⟨z, hz, q⟩
theorem R_fA {elt iter : Expr} {x y : Str} {px py : Pos} {ifs : List Expr} {scope : Scope} {cl : List (Str × Addr)} {pos : Pos} {I : Addr} {o : Obj} {fz : List Addr} {WS : Nat → Heap → Prop} {Q : Shared → Prop} {α β : Type} {P : Rl → Value → α → Prop} {xs : List α} {P₀ : Nat → Value → Prop} {j : Nat}
    (B : Bx K c A env) (hj : c.ns[j]? = some y) (hk : env.kindOf y = some .local)
    (p : α → Bool) (f : α → β) (PP : Rl → Value → β → Prop) (hmono : ∀ ρ ρ' v y, ρ.le ρ' → PP ρ v y → PP ρ' v y)
    (T : Itr prog w A I fz xs.length P₀ WS) (hP : ∀ i v, P₀ i v → ∃ z, xs[i]? = some z ∧ ∀ ρ', ρ.le ρ' → P ρ' v z) (hw : WS 0 h) (S : St c l ((I, o) :: mu) ρ h) (hfz : ∀ b ∈ fz, Stands c ρ b) (hn : xs.length ≤ 1000000)
    (hcell : ∀ y ∈ scope.names, y.2 ≠ .cell) (hkind : scope.kind = .function) (hx : scope.names.lookup x = some .local)
    (turn : FTurn prog w A c G D O l mu ρ env scope cl ifs elt x P xs p f PP)
    (done : ∀ Dd ρ' h t, ρ.le ρ' → Lst (PP ρ') ρ' Dd ((xs.filter p).map f) → St c (l.set j (some (.ref Dd))) mu ρ' h → Q ⟨h, G, D, t, O⟩) :
    CompGo prog w A env scope cl elt x px iter ifs pos (fun acc C => compPost (model prog w) A E (some (assign (.Name y py) env)) (fun _ s' => Q s') acc C) E (.ref I) ⟨h, G, D, t, O⟩ := by
  refine R_compA (Q := fun _ s => Q s) B hj (FStep xs p f PP) ?_ T hw S hfz hn hcell hkind hx ?_ ?_ hk
  · rintro i v ρ ρ' r hle ⟨z, hz, q⟩
    refine ⟨z, hz, ?_⟩
    cases r with
    | none => exact q
    | some y => exact ⟨q.1, hmono _ _ _ _ hle q.2⟩
  · intro i v C ρ₁ d e f' h t E' hi hp hle hcv S1
    obtain ⟨z, hz, hpz⟩ := hP i v hp
    refine wpAny_mono (turn i v z C ρ₁ d e f' h t E' hz (hpz _ hle) hle hcv S1) (fun ok s₃ h₃ => ?_) fun _ _ e => e
    obtain ⟨hok, h₃⟩ := h₃
    cases ok with
    | true =>
      simp only [if_true] at h₃ ⊢
      refine wpAny_mono h₃ (fun y s₄ h₄ => ?_) fun _ _ e => e
      obtain ⟨ρ', h', t', rfl, S', hle', q⟩ := h₄
      exact ⟨ρ', h', t', rfl, S', hle', z, hz, hok.symm, q⟩
    | false =>
      simp only [Bool.false_eq_true, if_false] at h₃ ⊢
      obtain ⟨ρ', h', t', rfl, S', hle', q⟩ := h₃
      exact ⟨ρ', h', t', rfl, S', hle', z, hz, hok.symm⟩
  · rintro Dd ρ' h' t' ys rs nD hle hl hr rfl S'
    refine done Dd _ h' t' (hle.trans (Rl.le_add _ _ _)) ⟨_, _, Rl.at_add _ _ _, ?_⟩ (S'.freeze (k := 0) rfl)
    refine (fstep_done xs rs hl fun i r hi => ?_).mono fun v y q => hmono _ _ _ _ (Rl.le_add _ _ _) q
    obtain ⟨v, _, z, hz, q⟩ := hr i r hi
    exact ⟨z, hz, q⟩
theorem R_noIf {env' : Env} {Q : Bool → Shared → Prop} {s : Shared} (k : Q true s) : wpAny (model prog w) A (tests [] env') Q E s := wpAny_pure k
theorem R_oneIf {e : Expr} {env' : Env} {Q : Bool → Shared → Prop} {s : Shared} (k : wpAny (model prog w) A (isTrue e env' (eval e env')) Q E s) : wpAny (model prog w) A (tests [e] env') Q E s := by
  show wpAny _ A (forIn [e] true _) _ _ _
  rw [List.forIn_cons]
  exact wpAny_bind (wpAny_bind (wpAny_mono k (fun _ _ q => wpAny_pure (wpAny_pure q)) fun _ _ e => e))
theorem R_range {n : Nat} {u : Tok} {Q : Value → Shared → Prop} (S : St c l mu ρ h) (k : ∀ r h' t' ρ' t1 t2 t3, St c l mu ρ' h' → ρ.le ρ' → IsRange h' r 0 (n : Int) 1 t1 t2 t3 → Q (.ref r) ⟨h', G, D, t', O⟩) :
    wpAny (model prog w) A (call (.type "range") [.int (n : Nat) u]) Q E ⟨h, G, D, t, O⟩ :=
  call_range_1 (s := ⟨h, G, D, t, O⟩) (k _ _ _ _ _ _ _ (S.push _) (ρ.le_add _ _) (IsRange.new _ _ _ _ _ _ _))
theorem R_gmAppend {a : Addr} {vs : List Value} {n k : Nat} {pl : Sem Bool} {Q : Value × List Value → Shared → Prop} (S : St c l mu ρ h) (hk : mu[k]? = some (a, lstO vs n)) (q : Q (.builtin "list.append", [.ref a]) ⟨h, G, D, t, O⟩) :
    wpAny (model prog w) A (getMethod (.ref a) "append" pl) Q E ⟨h, G, D, t, O⟩ := getMethod_list_append (S.muget hk) rfl rfl q
theorem R_append {a : Addr} {vs : List Value} {n k : Nat} {x : Value} {Q : Value → Shared → Prop} (S : St c l mu ρ h) (hk : mu[k]? = some (a, lstO vs n)) (hz : vs.length ≤ 100000)
    (q : ∀ h' m, St c l (mu.set k (a, lstO (vs ++ [x]) m)) ρ h' → Q .none ⟨h', G, D, t, O⟩) : wpAny (model prog w) A (call (.builtin "list.append") [.ref a, x]) Q E ⟨h, G, D, t, O⟩ := by
  refine wpAny_list_append_plain (items := vs.toArray) ⟨n, S.muget hk⟩ (fun h' hl hs => ?_) (by rw [sizeLine_eq]; simp; (first | lia | omega))
  obtain ⟨m, hm⟩ := hl
  refine q h' m (S.mut hk (by rw [hm]; simp) fun b z hb e => (hs.2 b hb).trans e)
theorem setItem_exact {a : Addr} {vs : List Value} {n : Nat} {i : Int} {u : Tok} {v : Value} {s : Shared} {Q : Unit → Shared → Prop} (ho : s.heap.get? a = some (lstO vs n))
    (h0 : 0 ≤ i) (hfit : i < 2 ^ 40) (hn : i < vs.length)
    (hQ : ∀ h' m, h'.get? a = some (lstO (vs.set i.toNat v) m) → Heap.SameBut a s.heap h' → Q () { s with heap := h' }) :
    wpAny (model prog w) A (setItem (.ref a) (.int i u) v) Q E s := by
  have hl : s.heap.IsList a vs.toArray := IsList.of_get ho
  unfold setItem
  try with_reducible refine wpAny_holding ?_
  first | refine wpAny_bind (wpAny_pure ?_) | skip
  refine wpAny_bind (wpAny_sequenceKey hl.typeIs (by decide) ?_)
  refine wpAny_bind (wpAny_callSpecial?_slot (name := Str.ofString "__setitem__") hl.typeIs slot_list_setitem
    (wpAny_call_entry slot_list_setitem hl.typeIs entry_list_setitem ?_ (args_list_setitem _ _ _)))
  show wpAny _ _ (Builtin.List.listSubscript? (.int i u) >>= _) _ _ s
  refine wpAny_bind (wpAny_listSubscript_int (fitsIndex_of h0 (by (first | lia | omega))) ?_)
  obtain ⟨j, rfl⟩ := Int.eq_ofNat_of_zero_le h0
  have hj : j < vs.toArray.size := by simp; (first | lia | omega)
  have hx' : vs.toArray[j]? = some vs.toArray[j] := Array.getElem?_eq_getElem hj
  show wpAny _ _ ((seqItemAt a j >>= fun r => pure (r.map (j, ·))) >>= _) _ _ s
  refine wpAny_bind (wpAny_bind (wpAny_seqItemAt ho rfl (wpAny_pure ?_)))
  rw [hx']
  show wpAny _ _ (setSeqItemAt a j v >>= _) _ _ s
  have hd' : Obj.mapSeq (·.setIfInBounds j v) (lstO vs n) = lstO (vs.set j v) n := by simp [Obj.mapSeq]
  have hfin : (s.heap.update a (Obj.mapSeq (·.setIfInBounds j v))).get? a = some (lstO (vs.set j v) n) := by
    rw [Heap.get?_update_self _ ho (by rw [hd']; rfl), hd']
  refine wpAny_bind (wpAny_setSeqItemAt ho rfl ?_)
  first
    | exact wpAny_bind (wpAny_pure (wpAny_pure ⟨.none, rfl, wpAny_pure (hQ _ _ hfin (Heap.SameBut.update ..))⟩))
    | exact wpAny_pure ⟨.none, rfl, wpAny_pure (hQ _ _ hfin (Heap.SameBut.update ..))⟩
theorem R_setItem {a : Addr} {vs : List Value} {n k : Nat} {i : Int} {u : Tok} {v : Value} {Q : Unit → Shared → Prop} (S : St c l mu ρ h) (hk : mu[k]? = some (a, lstO vs n)) (h0 : 0 ≤ i) (hz : i < 2 ^ 40) (hi : i < vs.length)
    (q : ∀ h' m, St c l (mu.set k (a, lstO (vs.set i.toNat v) m)) ρ h' → Q () ⟨h', G, D, t, O⟩) : wpAny (model prog w) A (setItem (.ref a) (.int i u) v) Q E ⟨h, G, D, t, O⟩ :=
  setItem_exact (s := ⟨h, G, D, t, O⟩) (S.muget hk) h0 hz hi fun h' m e hs => q h' m (S.mut hk e fun b z hb ez => (hs.2 b hb).trans ez)
theorem foldl_rep (v : Value) : ∀ (k : Nat) (a : Array Value), List.foldl (fun x1 x2 => x1 ++ x2) a (List.replicate k #[v]) = a ++ (List.replicate k v).toArray
  | 0, a => by simp
  | k + 1, a => by
    rw [List.replicate_succ, List.foldl_cons, foldl_rep v k]
    apply Array.ext'
    simp [List.replicate_succ]
theorem mul_list0 {s : Shared} {a : Addr} {items : Array Value} {k : Nat} {x : Int} {u : Tok} {Q : Value → Shared → Prop}
    (hl : s.heap.get? a = some { cls := .type "list", dict := none, data := .seq items k, slots := #[] })
    (hlo : -(2 ^ 63 : Int) ≤ x) (hhi : x < 2 ^ 63) (hsz : items.size * x.toNat ≤ 2 ^ 24)
    (h : Q (.ref s.heap.objs.size) { s with heap := s.heap.push { cls := .type "list", data := .seq (List.foldl (fun x1 x2 => x1 ++ x2) #[] (List.replicate (if items.isEmpty = true then 0 else x.toNat) items)) } }) :
    wpAny (model prog w) A (binaryOp .Mult (.ref a) (.int x u)) Q E s :=
  wpAny_binaryOp_repeat_ref (T := "list") (U := "int") (by decide) ⟨_, hl, rfl⟩ (fun s' => typeIs_int s' x u) noFill_list_mul F.fills_int_mul F.slot_int_rmul repeat_list F.slot_int_index.lookup
    (call_meets F.slot_int_rmul (typeIs_int s x u) F.entry_int_rmul (F.args_int_rmul_2 _ _) (int___rmul___int_list x u a items k)
      ⟨hl, rfl, ⟨_, hl, rfl⟩, call_meets F.slot_list_mul ⟨_, hl, rfl⟩ F.entry_list_mul (F.args_list_mul_2 _ _)
        (AutoListH.list___mul___list_int_3 a items k x u (by simp [Builtin.List.listFitsIndex]; (first | lia | omega)) (by (first | lia | omega)) (by simp [Builtin.List.listTooLong, sizeLine]; (first | lia | omega)))
        ⟨hl, h⟩⟩)
theorem R_rep {a : Addr} {v : Value} {n x : Nat} {u : Tok} {Q : Value → Shared → Prop} (S : St c l mu ρ h) (ha : h.get? a = some (lstO [v] n)) (hx : x ≤ 100000)
    (k : ∀ d h', St c l ((d, lstO (List.replicate x v) 0) :: mu) ρ h' → Q (.ref d) ⟨h', G, D, t, O⟩) : wpAny (model prog w) A (binaryOp .Mult (.ref a) (.int (x : Nat) u)) Q E ⟨h, G, D, t, O⟩ := by
  refine mul_list0 (s := ⟨h, G, D, t, O⟩) (items := #[v]) (k := n) ha (by (first | lia | omega)) (by (first | lia | omega)) ?_ ?_
  · simp only [List.size_toArray, List.length_cons, List.length_nil, Int.toNat_natCast]; (first | lia | omega)
  have := k _ _ (S.pushMu (lstO (List.replicate x v) 0))
  have e : List.foldl (fun x1 x2 => x1 ++ x2) #[] (List.replicate (if (#[v] : Array Value).isEmpty = true then 0 else (x : Int).toNat) #[v]) = (List.replicate x v).toArray := by
    rw [foldl_rep]; simp
  rw [e]
  exact this
end
end Mine
end
section
open PySem PySem.W PyProof.Rows PySem.Calls
set_option maxRecDepth 100000
namespace Mine
noncomputable def hide (h : Heap) (own : List Addr) : Heap := ⟨h.objs.mapIdx fun i o => if own.contains i then { cls := .none, data := .freed } else o, h.life⟩
theorem hide_size (h : Heap) (own : List Addr) : (hide h own).objs.size = h.objs.size := by simp [hide]
theorem hide_get (h : Heap) (own : List Addr) (a : Addr) : (hide h own).get? a = if a ∈ own then none else h.get? a := by
  unfold Heap.get? hide
  simp only [Array.getElem?_mapIdx]
  cases e : h.objs[a]? with
  | none => simp
  | some o =>
    simp only [Option.map_some]
    by_cases q : a ∈ own
    · simp [q]
    · simp [q]
theorem hide_sub (h : Heap) (own : List Addr) : Sub (hide h own) h := fun b o e => by
  rw [hide_get] at e; split at e
  · cases e
  · exact e
theorem hide_at {h : Heap} {own : List Addr} {a : Addr} {o : Obj} (e : h.get? a = some o) (hn : a ∉ own) : (hide h own).get? a = some o := by rw [hide_get, if_neg hn]; exact e
noncomputable abbrev adr (own : List (Addr × Obj)) : List Addr := own.map (·.1)
noncomputable def CallMut (prog : Program) (w : World) (K : Frag) (f : Value) (ar : Args) (dn un : Nat) (own : List (Addr × Obj)) (h : Heap) (ρ : Rl) (Post : List (Addr × Obj) → Rl → Value → Prop) : Prop :=
  ∀ (A : Around) (R : Result → Shared → Prop) (G : Array GenState) (D : Drawn) (O : OsState) (t : Nat), Cx K A (hide h (adr own)) → A.depth + dn < recursionLimit → A.units + un < cLine →
    (∀ a o, ρ a o → h.get? a = some o ∧ a ∉ adr own) → (∀ p ∈ own, h.get? p.1 = some p.2) → (adr own).Nodup →
    (∀ r h' t' ρ' own', adr own' = adr own → (∀ p ∈ own', h'.get? p.1 = some p.2) → (∀ b o, b ∉ adr own → h.get? b = some o → h'.get? b = some o) → ρ.le ρ' → (∀ a o, ρ' a o → h'.get? a = some o ∧ a ∉ adr own) →
      (∀ a o, ρ' a o → ρ a o ∨ h.get? a = none) → Post own' ρ' r → R (.ok (.ret r)) ⟨h', G, D, t', O⟩) →
    codeAny (model prog w) A (.call f ar) R ⟨h, G, D, t, O⟩
noncomputable def FinM (c : FrC) (as : List Addr) (G : Array GenState) (D : Drawn) (O : OsState) (Post : List (Addr × Obj) → Rl → Value → Prop) (r : Value) (s : Shared) : Prop :=
  ∃ l own ρ h t, s = ⟨h, G, D, t, O⟩ ∧ adr own = as ∧ St c l own ρ h ∧ Post own ρ r
theorem FinM.intro {c : FrC} {as : List Addr} {G : Array GenState} {D : Drawn} {O : OsState} {Post : List (Addr × Obj) → Rl → Value → Prop} {r : Value} {l own ρ h t} (S : St c l own ρ h) (p : Post own ρ r) (e : adr own = as) : FinM c as G D O Post r ⟨h, G, D, t, O⟩ := ⟨l, own, ρ, h, t, rfl, e, S, p⟩
theorem start_own {h h₁ : Heap} {own : List (Addr × Obj)} {ρ : Rl} {ns : List Str} {l₀ : List (Option Value)} {m : Str → Option Value} (hρ : ∀ a o, ρ a o → h.get? a = some o ∧ a ∉ adr own) (ho : ∀ p ∈ own, h.get? p.1 = some p.2) (hd : (adr own).Nodup)
    (hns : h₁.Ns h.objs.size m) (hk : Sub h h₁) (hm : m = lk ns l₀) (hnd : ns.Nodup) (hln : ns.length = l₀.length) : St ⟨hide h (adr own), ρ, h.objs.size, ns⟩ l₀ own ρ h₁ where
  F := ⟨hm ▸ hns, fun b o e => hk _ _ (hide_sub _ _ b o e), by rw [hide_size]; exact Nat.le_refl _⟩
  ln := hln
  nd := hnd
  N := fun p hp => ⟨hk _ _ (ho p hp), Nat.ne_of_lt (Heap.lt_size (ho p hp)), by rw [hide_get, if_pos (List.mem_map_of_mem hp)]⟩
  md := hd
  fz := fun a o e => ⟨hk _ _ (hρ a o e).1, Nat.ne_of_lt (Heap.lt_size (hρ a o e).1), (hρ a o e).2⟩
  ex := fun a o e => .inl e
  le := Rl.le.refl _
section
variable {prog : Program} {w : World} {K : Frag}
theorem end_own {own : List (Addr × Obj)} {c : FrC} {h : Heap} {ρ : Rl} {L : Addr} {ns : List Str} {G : Array GenState} {D : Drawn} {O : OsState} {Post : List (Addr × Obj) → Rl → Value → Prop} {R : Result → Shared → Prop} {v : Value} {s' : Shared}
    (hR : ∀ r h' t' ρ' own', adr own' = adr own → (∀ p ∈ own', h'.get? p.1 = some p.2) → (∀ b o, b ∉ adr own → h.get? b = some o → h'.get? b = some o) → ρ.le ρ' → (∀ a o, ρ' a o → h'.get? a = some o ∧ a ∉ adr own) →
      (∀ a o, ρ' a o → ρ a o ∨ h.get? a = none) → Post own' ρ' r → R (.ok (.ret r)) ⟨h', G, D, t', O⟩) (hf : FinM ⟨hide h (adr own), ρ, L, ns⟩ (adr own) G D O Post v s') : R (.ok (.ret v)) s' := by
  obtain ⟨l, own', ρ', h', t', rfl, ha, S, P⟩ := hf
  refine hR _ h' t' ρ' own' ha (fun p hp => (S.N p hp).1) (fun b o hb e => S.F.keep b o (hide_at e hb)) S.le (fun a o e => ⟨S.get e, by rw [← ha]; exact (S.fz a o e).2.2⟩) (fun a o e => ?_) P
  rcases S.ex a o e with q | q
  · exact .inl q
  · refine .inr ?_
    simp only at q
    rw [hide_get, if_neg (by rw [← ha]; exact (S.fz a o e).2.2)] at q
    exact q
theorem call_def0M {name qual : Str} {params : Arguments} {body : List Stmt} {scope : Scope} {dV kV doc pm cdv ct oc : Value} {an od : Option Addr} {osl : Array (Option Value)} {f : Addr} {args : Args} {binds : List (Str × Value)}
    {ns : List Str} {l₀ : List (Option Value)} {dn un : Nat} {h : Heap} {ρ : Rl} {own : List (Addr × Obj)} {Post : List (Addr × Obj) → Rl → Value → Prop}
    (ho : K.lookup f = some ⟨oc, od, .func (fnOf name qual params body scope dV kV doc pm an cdv ct), osl⟩) (hcd : codeIn K cdv qual = true)
    (hbind : ∀ s : Shared, K.In s.heap → BindsTo s (fnOf name qual params body scope dV kV doc pm an cdv ct) args binds) (hloc : ∀ y ∈ binds, scope.names.lookup y.1 = some .local)
    (hns : (fun x => binds.reverse.lookup x) = lk ns l₀) (hnd : ns.Nodup) (hln : ns.length = l₀.length)
    (hco : scope.isCoroutine = false) (hgen : scope.isGenerator = false) (hk : scope.kind = .function) (hcell : ∀ x ∈ scope.names, x.2 ≠ .cell)
    (hbody : ∀ A L h₁ G D O t E, Bx K ⟨hide h (adr own), ρ, L, ns⟩ A (envOf qual scope L f cdv) → A.depth + dn < recursionLimit → A.units + un < cLine → St ⟨hide h (adr own), ρ, L, ns⟩ l₀ own ρ h₁ →
      ∀ QQ : Flow → Shared → Prop, (∀ fl s', FinM ⟨hide h (adr own), ρ, L, ns⟩ (adr own) G D O Post (match fl with | .ret v => v | _ => .none) s' → QQ fl s') → wpAny (model prog w) A (execs body (envOf qual scope L f cdv)) QQ E ⟨h₁, G, D, t, O⟩) :
    CallMut prog w K (.ref f) args (dn + 1) (un + 3) own h ρ Post := by
  intro A R G D O t C hd hu hρ hown hnod hR
  have g := C.gl.keeps (hide_sub _ _)
  obtain ⟨p, loose, mg, mb, T⟩ := g.T
  refine codeAny_call_def (s := ⟨h, G, D, t, O⟩) (fd := fnOf name qual params body scope dV kV doc pm an cdv ct) (body := body) (binds := binds) (by (first | lia | omega)) (g.X _ _ ho) rfl T.nolimit (codeRec_of g.X hcd) rfl (hbind _ g.X) hcell hloc (fun h₁ hns₁ hk₁ => ?_) hco hgen hk
  refine wpAny_mono (hbody _ h.objs.size h₁ G D O _ _ ⟨start_cx C, rfl, rfl, hk, rfl, rfl, C.hh, C.gl⟩ (by show A.depth + 1 + dn < _; (first | lia | omega)) (by show A.units + 3 + un < _; (first | lia | omega)) (start_own hρ hown hnod hns₁ hk₁ hns hnd hln) _ fun _ _ x => x) (fun fl s' hf => end_own (c := ⟨h, ρ, 0, []⟩) hR hf) fun _ _ x => x
theorem call_defCM {name qual : Str} {params : Arguments} {body : List Stmt} {scope : Scope} {dV kV doc pm cdv ct oc : Value} {an od : Option Addr} {osl : Array (Option Value)} {f : Addr} {args : Args} {binds : List (Str × Value)}
    {ns : List Str} {l₀ : List (Option Value)} {dn un : Nat} {h : Heap} {ρ : Rl} {own : List (Addr × Obj)} {Post : List (Addr × Obj) → Rl → Value → Prop}
    (ho : K.lookup f = some ⟨oc, od, .func (fnOf name qual params body scope dV kV doc pm an cdv ct), osl⟩) (hcd : codeIn K cdv qual = true)
    (hbind : ∀ s : Shared, K.In s.heap → BindsTo s (fnOf name qual params body scope dV kV doc pm an cdv ct) args binds)
    (hkind : (binds.all fun y => scope.names.lookup y.1 == some .local || scope.names.lookup y.1 == some .cell) = true)
    (hndc : ((cellsFrom 0 scope.names []).map (·.1)).Nodup)
    (hns : bindL (fun x => scope.names.lookup x) binds (fun _ => none) = lk ns l₀) (hnd : ns.Nodup) (hln : ns.length = l₀.length)
    (hco : scope.isCoroutine = false) (hgen : scope.isGenerator = false) (hk : scope.kind = .function)
    (hbody : ∀ A L h₁ G D O t cells E, CellsAre (bindC (fun x => scope.names.lookup x) binds fun _ => none) (cellsFrom (L + 1) scope.names []) cells → Bx K ⟨hide h (adr own), ρ, L, ns⟩ A (envOfC qual scope L f cdv) → A.depth + dn < recursionLimit → A.units + un < cLine → St ⟨hide h (adr own), ρ, L, ns⟩ l₀ (cells ++ own) ρ h₁ →
      ∀ QQ : Flow → Shared → Prop, (∀ fl s', FinM ⟨hide h (adr own), ρ, L, ns⟩ (adr own) G D O Post (match fl with | .ret v => v | _ => .none) s' → QQ fl s') → wpAny (model prog w) A (execs body (envOfC qual scope L f cdv)) QQ E ⟨h₁, G, D, t, O⟩) :
    CallMut prog w K (.ref f) args (dn + 1) (un + 3) own h ρ Post := by
  intro A R G D O t C hd hu hρ hown hnod hR
  have g := C.gl.keeps (hide_sub _ _)
  obtain ⟨p, loose, mg, mb, T⟩ := g.T
  refine codeAny_call_function (s := ⟨h, G, D, t, O⟩) (fd := fnOf name qual params body scope dV kV doc pm an cdv ct) (body := body) (by (first | lia | omega)) (g.X _ _ ho) rfl hco hgen rfl (codeRec_of g.X hcd) (hbind _ g.X _ _ _ _ ?_)
  refine wpAny_newFunctionEnv_cells hk (kindsX hkind _) fun env' he s' x => ?_
  subst he
  refine ⟨T.nolimit.keeps x.toInCall.keep, codeAny_func ?_⟩
  obtain ⟨h₁, tk, rfl, _⟩ := x.done
  have hk₁ : Sub h h₁ := x.toInCall.keep
  obtain ⟨cells, NC, Y⟩ := Cl.news (h₀ := h) (L := h.objs.size) (Nat.le_refl _) fun n c hm => ⟨x.cell n c (lookup_of_mem_nodup (cellsFrom_names scope.names 0 (h.objs.size + 1) [] [] rfl ▸ hndc) hm), x.above n c hm⟩
  have hmd : (cells.map (·.1)).Nodup := by
    rw [cellsAre_addrs Y]
    exact (List.pairwise_map.mpr x.apart)
  have S := start_own hρ hown hnod x.toInCall.ns hk₁ hns hnd hln
  have S' : St ⟨hide h (adr own), ρ, h.objs.size, ns⟩ l₀ (cells ++ own) ρ h₁ := {
    F := S.F, ln := S.ln, nd := S.nd
    N := fun p hp => by
      rcases List.mem_append.mp hp with q | q
      · refine ⟨(NC p q).1, (NC p q).2.1, ?_⟩
        rw [hide_get]; split
        · rfl
        · exact (NC p q).2.2
      · exact S.N p q
    md := by
      rw [List.map_append, List.nodup_append]
      refine ⟨hmd, hnod, fun a ha b hb e => ?_⟩
      obtain ⟨p, hp, rfl⟩ := List.mem_map.mp ha
      obtain ⟨q, hq, rfl⟩ := List.mem_map.mp hb
      have h1 := (NC p hp).2.2
      have h2 := hown q hq
      rw [e, h2] at h1; cases h1
    fz := fun a o e => ⟨(S.fz a o e).1, (S.fz a o e).2.1, fun q => by
      rw [List.map_append] at q
      rcases List.mem_append.mp q with q | q
      · obtain ⟨p, hp, rfl⟩ := List.mem_map.mp q
        have h1 := (NC p hp).2.2
        have h2 := (hρ _ o e).1
        rw [h2] at h1; cases h1
      · exact (S.fz a o e).2.2 q⟩
    ex := S.ex, le := S.le }
  refine wpAny_mono (hbody _ h.objs.size h₁ G D O tk cells _ Y ⟨start_cx C, rfl, rfl, hk, rfl, rfl, C.hh, C.gl⟩ (by show A.depth + 1 + dn < _; (first | lia | omega)) (by show A.units + 3 + un < _; (first | lia | omega)) S' _ fun _ _ x => x) (fun fl s' hf => end_own (c := ⟨h, ρ, 0, []⟩) hR hf) fun _ _ x => x
theorem CallMut.useC {f : Value} {ar : Args} {dn un : Nat} {own rest : List (Addr × Obj)} {h : Heap} {ρ : Rl} {Post : List (Addr × Obj) → Rl → Value → Prop} {c : FrC} {l : List (Option Value)} {A : Around} {env : Env} {R : Result → Shared → Prop} {G D t O}
    (x : CallMut prog w K f ar dn un own h ρ Post) (B : Bx K c A env) (S : St c l (own ++ rest) ρ h) {A' : Around} (hC : ∀ h', Cx K A h' → Cx K A' h') (hd : A'.depth + dn < recursionLimit) (hu : A'.units + un < cLine)
    (k : ∀ r h' t' ρ' own', adr own' = adr own → St c l (own' ++ rest) ρ' h' → ρ.le ρ' → Post own' ρ' r → R (.ok (.ret r)) ⟨h', G, D, t', O⟩) : codeAny (model prog w) A' (.call f ar) R ⟨h, G, D, t, O⟩ := by
  have hmd := S.md
  rw [List.map_append, List.nodup_append] at hmd
  have hL : c.L ∉ adr own := fun q => by
    obtain ⟨p, hp, e⟩ := List.mem_map.mp q
    exact (S.N p (List.mem_append_left _ hp)).2.1 e
  have h0 : ∀ b o, c.h₀.get? b = some o → b ∉ adr own := fun b o e q => by
    obtain ⟨p, hp, rfl⟩ := List.mem_map.mp q
    have := (S.N p (List.mem_append_left _ hp)).2.2
    rw [e] at this; cases this
  have hsub : Sub c.h₀ (hide h (adr own)) := fun b o e => hide_at (S.F.keep b o e) (h0 b o e)
  have F' : Fr c.h₀ c.L (hide h (adr own)) (lk c.ns l) := by
    refine ⟨?_, hsub, S.F.above⟩
    obtain ⟨oL, es, ep, hL', r⟩ := S.F.ns
    exact ⟨oL, es, ep, hide_at hL' hL, r⟩
  have C : Cx K A (hide h (adr own)) := ⟨let ⟨outer, A₀, base, a, b⟩ := B.fr; ⟨env, outer, A₀, base, c.h₀, c.L, _, a, B.hf, B.hk, b, F'⟩, B.hh, B.gl.keeps hsub⟩
  refine x A' _ G D O t (hC _ C) hd hu (fun a o e => ⟨S.get e, fun q => (S.fz a o e).2.2 (by rw [List.map_append]; exact List.mem_append_left _ q)⟩) (fun p hp => (S.N p (List.mem_append_left _ hp)).1) hmd.1 fun r h' t' ρ' own' ha ho hk hle hin hex P => ?_
  refine k r h' t' ρ' own' ha ?_ hle P
  have hrest : ∀ p ∈ rest, p.1 ∉ adr own := fun p hp q => hmd.2.2 _ q _ (List.mem_map_of_mem hp) rfl
  have hlive : ∀ a o, ρ' a o → a ≠ c.L ∧ ∀ p ∈ rest, p.1 ≠ a := fun a o e => by
    rcases hex a o e with q | q
    · exact ⟨(S.fz a o q).2.1, fun p hp e' => (S.fz a o q).2.2 (by rw [List.map_append, ← e']; exact List.mem_append_right _ (List.mem_map_of_mem hp))⟩
    · refine ⟨?_, fun p hp e' => ?_⟩
      · rintro rfl
        obtain ⟨oL, _, _, hL', _⟩ := S.F.ns
        rw [hL'] at q; cases q
      · have := (S.N p (List.mem_append_right _ hp)).1
        rw [e', q] at this; cases this
  refine ⟨⟨?_, fun b o e => hk b o (h0 b o e) (S.F.keep b o e), S.F.above⟩, S.ln, S.nd, fun p hp => ?_, ?_, fun a o e => ⟨(hin a o e).1, (hlive a o e).1, fun q => ?_⟩, fun a o e => ?_, S.le.trans hle⟩
  · obtain ⟨oL, es, ep, hL', r⟩ := S.F.ns
    exact ⟨oL, es, ep, hk _ _ hL hL', r⟩
  · rcases List.mem_append.mp hp with q | q
    · have hm : p.1 ∈ adr own := ha ▸ List.mem_map_of_mem q
      obtain ⟨p', hp', e'⟩ := List.mem_map.mp hm
      have hN := (S.N p' (List.mem_append_left _ hp')).2
      rw [e'] at hN
      exact ⟨ho p q, hN⟩
    · exact ⟨hk _ _ (hrest p q) (S.N p (List.mem_append_right _ q)).1, (S.N p (List.mem_append_right _ q)).2⟩
  · rw [List.map_append, List.nodup_append, show own'.map (·.1) = own.map (·.1) from ha]; exact hmd
  · rw [List.map_append] at q
    rcases List.mem_append.mp q with q | q
    · exact (hin a o e).2 (ha ▸ q)
    · obtain ⟨p, hp, e'⟩ := List.mem_map.mp q
      exact (hlive a o e).2 p hp e'
  · rcases hex a o e with q | q
    · exact S.ex a o q
    · refine .inr ?_
      cases q' : c.h₀.get? a with
      | none => rfl
      | some o' => rw [S.F.keep _ _ q'] at q; cases q
theorem CallMut.use {f : Value} {pos : List Value} {kw : List (Str × Value)} {dn un : Nat} {own rest : List (Addr × Obj)} {h : Heap} {ρ : Rl} {Post : List (Addr × Obj) → Rl → Value → Prop} {c : FrC} {l : List (Option Value)} {A : Around} {env : Env} {Q : Value → Shared → Prop} {E : Value → Shared → Prop} {G D t O}
    (x : CallMut prog w K f ⟨pos, kw⟩ dn un own h ρ Post) (B : Bx K c A env) (S : St c l (own ++ rest) ρ h) (hd : A.depth + dn < recursionLimit) (hu : A.units + un < cLine)
    (k : ∀ r h' t' ρ' own', adr own' = adr own → St c l (own' ++ rest) ρ' h' → ρ.le ρ' → Post own' ρ' r → Q r ⟨h', G, D, t', O⟩) : wpAny (model prog w) A (call f pos kw) Q E ⟨h, G, D, t, O⟩ :=
  wpAny_call (x.useC B S (fun _ C => C) hd hu k)
theorem Cx.under {A : Around} {h : Heap} {C : Addr} {pos : List Value} {kw : List (Str × Value)} (x : Cx K A h) : Cx K (A.under (.builtin "type.__call__" ⟨.ref C :: pos, kw⟩)) h := ⟨x.fr, x.hh, x.gl⟩
theorem make_ok {C fI : Addr} {pos : List Value} {kw : List (Str × Value)} {dn un : Nat} {h : Heap} {ρ : Rl} {Post : Obj → Rl → Addr → Addr → Prop} (hm : makesIn K C = true) (hi : findIn K (.ref C) "__init__" = some (some (.ref fI))) (hf : isFn K (.ref fI) = true)
    (init : ∀ dx x h', x ≠ dx → Sub h h' → CallMut prog w K (.ref fI) ⟨.ref x :: pos, kw⟩ dn un [(dx, dictOf [] 0)] h' (ρ.add x (instObj C dx)) (fun own ρ' r => r = .none ∧ ∃ o, own = [(dx, o)] ∧ Post o ρ' x dx))
    (hmono : ∀ o ρ₁ ρ₂ x dx, ρ₁.le ρ₂ → Post o ρ₁ x dx → Post o ρ₂ x dx) :
    CallOK prog w K (.ref C) ⟨pos, kw⟩ (dn + 1) (un + 1) h ρ (fun ρ' r => ∃ x dx o, r = .ref x ∧ ρ' x (instObj C dx) ∧ ρ' dx o ∧ Post o ρ' x dx) := by
  intro A R G D O t Cc hd hu hρ hR
  refine make_core (makes_of Cc.gl.X hm) (looks_findIn Cc.gl.X hi) (fun self => bind_fn Cc.gl.X self (beq_iff_eq.mp hf)) (.inl rfl) ?_
  have hs1 : Sub h (h.push emptyDict) := Sub.push _ _
  have hs2 : Sub h ((h.push emptyDict).push (instObj C h.objs.size)) := hs1.trans (Sub.push _ _)
  have hne : h.objs.size + 1 ≠ h.objs.size := by (first | lia | omega)
  have hx : ((h.push emptyDict).push (instObj C h.objs.size)).get? (h.objs.size + 1) = some (instObj C h.objs.size) := by
    have := Heap.get?_push_size (h.push emptyDict) (o := instObj C h.objs.size) rfl
    rwa [Heap.size_push] at this
  have hdx : ((h.push emptyDict).push (instObj C h.objs.size)).get? h.objs.size = some (dictOf [] 0) := Heap.get?_push_of_some _ (Heap.get?_push_size _ rfl)
  have hsubh : Sub h (hide ((h.push emptyDict).push (instObj C h.objs.size)) (adr [(h.objs.size, dictOf [] 0)])) := fun b o e => hide_at (hs2 b o e) (by
    simp only [adr, List.map_cons, List.map_nil, List.mem_singleton]
    exact Nat.ne_of_lt (Heap.lt_size e))
  refine init h.objs.size (h.objs.size + 1) _ hne hs2 _ _ G D O t (Cc.keeps hsubh).under ?_ ?_ (fun a o e => ?_) (fun p hp => ?_) (by simp [adr]) fun r h' t' ρ' own' ha ho hk hle hin hex P => ?_
  · have e : (A.under (.builtin "type.__call__" ⟨.ref C :: pos, kw⟩)).depth = A.depth + 1 := rfl
    rw [e]; (first | lia | omega)
  · have e : (A.under (.builtin "type.__call__" ⟨.ref C :: pos, kw⟩)).units = A.units + 1 := rfl
    rw [e]; (first | lia | omega)
  · simp only [adr, List.map_cons, List.map_nil, List.mem_singleton]
    rcases e with e | ⟨rfl, rfl⟩
    · exact ⟨hs2 _ _ (hρ a o e), Nat.ne_of_lt (Heap.lt_size (hρ a o e))⟩
    · exact ⟨hx, hne⟩
  · rw [List.mem_singleton.mp hp]; exact hdx
  · obtain ⟨rfl, o, rfl, P⟩ := P
    refine ⟨rfl, ?_⟩
    have hsz : ∀ b, ((h.push emptyDict).push (instObj C h.objs.size)).get? b = none → h.get? b = none := fun b e => by
      cases q : h.get? b with
      | none => rfl
      | some o => rw [hs2 _ _ q] at e; cases e
    refine hR _ h' t' (ρ'.add h.objs.size o) (fun b o' e => hk b o' ?_ (hs2 b o' e)) ((Rl.le_add _ _ _).trans (hle.trans (Rl.le_add _ _ _))) (fun a o' e => ?_) (fun a o' e => ?_) ⟨h.objs.size + 1, h.objs.size, o, rfl, .inl (hle _ _ (Rl.at_add _ _ _)), Rl.at_add _ _ _, hmono _ _ _ _ _ (Rl.le_add _ _ _) P⟩
    · simp only [adr, List.map_cons, List.map_nil, List.mem_singleton]
      exact Nat.ne_of_lt (Heap.lt_size e)
    · rcases e with e | ⟨rfl, rfl⟩
      · exact (hin a o' e).1
      · exact ho (h.objs.size, _) (by simp)
    · rcases e with e | ⟨rfl, rfl⟩
      · rcases hex a o' e with (q | ⟨rfl, rfl⟩) | q
        · exact .inl q
        · refine .inr ?_
          cases q : h.get? (h.objs.size + 1) with
          | none => rfl
          | some o => exact absurd (Heap.lt_size q) (Nat.not_lt.mpr (Nat.le_succ _))
        · exact .inr (hsz _ q)
      · exact .inr (fresh_size h)
end
theorem St.at0 {c : FrC} {l : List (Option Value)} {mu : List (Addr × Obj)} {ρ : Rl} {h : Heap} (S : St c l mu ρ h) {a : Addr} {o : Obj} (e : c.ρ₀ a o) : h.get? a = some o := S.get (S.le a o e)
theorem Rl.le.at {ρ ρ' : Rl} (hle : ρ.le ρ') {a : Addr} {o : Obj} (e : ρ a o) : ρ' a o := hle a o e
theorem putL_new {name : Str} {hsh : Int} {key v : Value} : ∀ {es : List DictEntry}, es.any (·.key.isStr name) = false → putL name hsh key v es = es ++ [⟨hsh, key, v⟩]
  | [], _ => rfl
  | e :: r, h => by
    rw [List.any_cons, Bool.or_eq_false_iff] at h
    unfold putL
    rw [h.1, if_neg (by decide), putL_new h.2]; rfl
section
variable {prog : Program} {w : World} {K : Frag} {A : Around} {E : Value → Shared → Prop} {env : Env} {c : FrC} {l : List (Option Value)} {mu : List (Addr × Obj)} {ρ : Rl} {h : Heap} {G : Array GenState} {D : Drawn} {O : OsState} {t : Nat}
theorem osa0 {x C dx : Addr} {es : List DictEntry} {n : Nat} {name : Str} {tk₀ : Tok} {v : Value} {s : Shared} {R : Result → Shared → Prop} (X : K.In s.heap) (hx : s.heap.get? x = some (instObj C dx)) (hd : s.heap.get? dx = some (dictOf es n))
    (hp : plainOver K C = true) (ht : takerIn K C name = some none) (hh : hasDictIn K C = true) (hl : (getL name es).isSome = true) (hz : es.length ≤ 900)
    (k : ∀ h' hsh tk t', Heap.SameBut dx s.heap h' → h'.get? dx = some (dictOf (putL name hsh (.str name tk) v es) (putN name es n)) → R (.ok (.ret .none)) { s with heap := h', toks := t' }) :
    codeAny (model prog w) A (.call (.builtin "object.__setattr__") ⟨[.ref x, .str name tk₀, v], []⟩) R s := by
  have I : InstAt s.heap x (instObj C dx) C (some (dictOf es n)) := ⟨hx, rfl, rfl, hd⟩
  refine osa_open X I hp ht fun b => ?_
  obtain ⟨cd, hc, hd'⟩ := any_some hh
  refine wpAny_bind (wpAny_pure (wpAny_bind (wpAny_bind (wpAny_loadPart hx (wpAny_bind ((looks_clsIn X hc).here ?_))))))
  rw [hd']
  refine wpAny_pure (a := some dx) (wpAny_bind (wpAny_pure (wpAny_bind ?_)))
  unfold nsSet
  refine wpAny_bind (wpAny_bind (wpAny_askSetting (wpAny_pure (wpAny_bind (wpAny_mkText (wpAny_bind (wpAny_loadPart hd ?_)))))))
  have cc : (!es.toArray.any (·.key.isStr name) && es.toArray.any (·.refKey)) = false := by
    rw [← Array.any_toList, ← Array.any_toList]
    unfold getL at hl
    split at hl
    · rename_i en he
      rw [List.any_eq_true.mpr ⟨en, List.mem_of_find?_eq_some he, List.find?_some he⟩]; rfl
    · split at hl
      · cases hl
      · rename_i z; rw [Bool.not_eq_true] at z; simp only at z ⊢; rw [z, Bool.and_false]
  dsimp only
  rw [aRefKeyMayBeTheName_at, cc]
  refine wpAny_updatePart hd ?_
  have e := putName_dict name (PyData.keyHash w.params name) (.str name s.toks) v es n
  have D' : (s.heap.update dx (Obj.putName name (PyData.keyHash w.params name) (.str name s.toks) v)).get? dx = some (dictOf (putL name (PyData.keyHash w.params name) (.str name s.toks) v es) (putN name es n)) := by
    rw [Heap.get?_update_self _ hd (by rw [e]; rfl), e]
  have hlen : ∀ (hsh : Int) (key : Value) (es : List DictEntry), (putL name hsh key v es).length ≤ es.length + 1 := by
    intro hsh key es
    induction es with
    | nil => simp [putL]
    | cons e r ih => unfold putL; split <;> simp <;> (first | lia | omega)
  refine wpAny_bind (wpAny_lookBehind D' (pastItsLine_dict (by
    have := hlen (PyData.keyHash w.params name) (.str name s.toks) es
    rw [List.size_toArray, sizeLine_eq]; (first | lia | omega))) ?_)
  exact wpAny_pure (k _ _ _ _ (Heap.SameBut.update ..) D')
theorem setattr0 {x C dx : Addr} {es : List DictEntry} {n : Nat} {name : Str} {v : Value} {s : Shared} {Q : Unit → Shared → Prop} (X : K.In s.heap) (hx : s.heap.get? x = some (instObj C dx)) (hd : s.heap.get? dx = some (dictOf es n))
    (hs : findIn K (.ref C) "__setattr__" = some (some (.builtin "object.__setattr__"))) (hp : plainOver K C = true) (ht : takerIn K C name = some none) (hh : hasDictIn K C = true) (hl : (getL name es).isSome = true) (hz : es.length ≤ 900)
    (k : ∀ h' hsh tk t', Heap.SameBut dx s.heap h' → h'.get? dx = some (dictOf (putL name hsh (.str name tk) v es) (putN name es n)) → Q () { s with heap := h', toks := t' }) :
    wpAny (model prog w) A (setAttr (.ref x) name v) Q E s := by
  have I : InstAt s.heap x (instObj C dx) C (some (dictOf es n)) := ⟨hx, rfl, rfl, hd⟩
  exact set_plain X I hs (osa0 (s := { s with toks := s.toks + 1 }) X hx hd hp ht hh hl hz k)
theorem R_setOwn {x C dx : Addr} {es : List DictEntry} {n j : Nat} {name : Str} {v : Value} {Q : Unit → Shared → Prop} (B : Bx K c A env) (S : St c l mu ρ h) (hx : ρ x (instObj C dx)) (hm : mu[j]? = some (dx, dictOf es n))
    (hs : findIn K (.ref C) "__setattr__" = some (some (.builtin "object.__setattr__"))) (hp : plainOver K C = true) (ht : takerIn K C name = some none) (hh : hasDictIn K C = true) (hl : (getL name es).isSome = true) (hz : es.length ≤ 900)
    (k : ∀ hsh tk h' t', St c l (mu.set j (dx, dictOf (putL name hsh (.str name tk) v es) (putN name es n))) ρ h' → Q () ⟨h', G, D, t', O⟩) : wpAny (model prog w) A (setAttr (.ref x) name v) Q E ⟨h, G, D, t, O⟩ :=
  setattr0 (s := ⟨h, G, D, t, O⟩) (B.gl' S).X (S.get hx) (S.muget hm) hs hp ht hh hl hz fun h' hsh tk t' hs' hd' => k hsh tk h' t' (S.mut hm hd' fun b z hb ez => (hs'.2 b hb).trans ez)
theorem R_getOwn {x C dx : Addr} {es : List DictEntry} {n : Nat} {name : Str} {v : Value} {expr : Bool} {attr : Option Value} {Q : Value → Shared → Prop} (X : K.In h) (hx : h.get? x = some (instObj C dx)) (hd : h.get? dx = some (dictOf es n))
    (hg : plainGet K C name = true) (hh : hasDictIn K C = true) (ha : findIn K (.ref C) name = some attr) (hn : noGet K attr = true) (hl : getL name es = some (some v)) (hv : handedIn v = true) (k : ∀ t', Q v ⟨h, G, D, t', O⟩) :
    wpAny (model prog w) A (getAttr (.ref x) name expr) Q E ⟨h, G, D, t, O⟩ :=
  get_value (s := ⟨h, G, D, t, O⟩) (od := some (dictOf es n)) X ⟨hx, rfl, rfl, hd⟩ (plainGet_of hg).1 (findObj_own (od := dictOf es n) hh ha hn hl) hv (k _)
theorem R_method {x C dx f : Addr} {es : List DictEntry} {n : Nat} {name : Str} {pl : Sem Bool} {Q : Value × List Value → Shared → Prop} {s : Shared} (X : K.In s.heap) (hx : s.heap.get? x = some (instObj C dx)) (hd : s.heap.get? dx = some (dictOf es n))
    (hg : plainGet K C name = true) (hf : findIn K (.ref C) name = some (some (.ref f))) (ht : isFn K (.ref f) = true) (hl : getL name es = some none) (k : Q (.ref f, [.ref x]) s) : wpAny (model prog w) A (getMethod (.ref x) name pl) Q E s :=
  method_fn (od := some (dictOf es n)) X ⟨hx, rfl, rfl, hd⟩ (plainGet_of hg).1 (plainGet_of hg).2 hf (beq_iff_eq.mp ht) (by show (lookIn name (dictOf es n)).map _ = _; rw [lookIn_dict, hl]; rfl) k
theorem R_clsVal {C : Addr} {name : Str} {v : Value} {expr : Bool} {Q : Value → Shared → Prop} (X : K.In h) (hr : readsIn K C (.type "type") = true) (e : findCls K (.ref C) (.type "type") name = some (.val v)) (hh : handedIn v = true)
    (k : ∀ t', Q v ⟨h, G, D, t', O⟩) : wpAny (model prog w) A (getAttr (.ref C) name expr) Q E ⟨h, G, D, t, O⟩ := cls_value (s := ⟨h, G, D, t, O⟩) X hr e hh (k _)
theorem R_unpackT {T : Addr} {vs : List Value} {m n : Nat} {Q : List Value → Shared → Prop} (hh : A.handled = none) (S : St c l mu ρ h) (hT : h.get? T = some (tupO vs m)) (hn : n = vs.length) (k : ∀ h', St c l mu ρ h' → Q vs ⟨h', G, D, t, O⟩) :
    wpAny (model prog w) A (unpackItems (.ref T) n none) Q E ⟨h, G, D, t, O⟩ := by
  subst hn
  have := unpackItems_tuple (prog := prog) (w := w) (A := A) (E := E) (s := ⟨h, G, D, t, O⟩) (items := vs.toArray) (Q := Q) hh ⟨_, hT, rfl, m, rfl⟩ fun h' hx => by
    simpa using k h' (S.sub fun b o e => hx b o (Nat.ne_of_lt (Heap.lt_size e)) e)
  simpa using this
theorem R_tupleOf {a : Addr} {vs : List Value} {n : Nat} {Q : Value → Shared → Prop} (S : St c l mu ρ h) (hl : h.get? a = some (lstO vs n)) (hz : vs.length ≤ 100000)
    (k : ∀ T h', St c l mu (ρ.add T (tupO vs 0)) h' → Q (.ref T) ⟨h', G, D, t, O⟩) : wpAny (model prog w) A (call (.type "tuple") [.ref a]) Q E ⟨h, G, D, t, O⟩ :=
  call_tuple_list (s := ⟨h, G, D, t, O⟩) (IsList.of_get hl) (fun h' hk => k _ _ ((S.sub hk).push _)) (by rw [sizeLine_eq]; simp; (first | lia | omega))
end
end Mine
end
section
open PySem PySem.W PyProof.Rows PySem.Calls
set_option maxRecDepth 100000
namespace Mine
noncomputable def RD (h : Heap) (v : Value) (d : Dat) : Prop := ∃ as, Reads h v (kqdP d) as
noncomputable def RDA (h : Heap) (vs : List Value) (ds : List Dat) : Prop := ∃ as, ReadsAll h vs (kqdPs ds) as
theorem RD.int {h : Heap} {v : Value} {i : Int} (x : IsI v i) : RD h v (.int i) := by obtain ⟨t, rfl⟩ := x; exact ⟨_, .int _ _⟩
theorem RD.nat {h : Heap} {v : Value} {i : Nat} (x : IsN v i) : RD h v (.int i) := by obtain ⟨t, rfl⟩ := x; exact ⟨_, .int _ _⟩
theorem RD.str {h : Heap} {v : Value} {i : Str} (x : IsS v i) : RD h v (.str i) := by obtain ⟨t, rfl⟩ := x; exact ⟨_, .str _ _⟩
theorem RDA.nil {h : Heap} : RDA h [] [] := ⟨_, .nil⟩
theorem RDA.cons {h : Heap} {v : Value} {vs : List Value} {d : Dat} {ds : List Dat} (x : RD h v d) (y : RDA h vs ds) : RDA h (v :: vs) (d :: ds) := let ⟨_, a⟩ := x; let ⟨_, b⟩ := y; ⟨_, .cons a b⟩
theorem RDA.of {α : Type} {h : Heap} {P : Value → α → Prop} {f : α → Dat} : ∀ {vs : List Value} {xs : List α}, Are P vs xs → (∀ v x, x ∈ xs → P v x → RD h v (f x)) → RDA h vs (xs.map f)
  | [], [], _, _ => .nil
  | [], _ :: _, e, _ => absurd e.1 (by simp)
  | _ :: _, [], e, _ => absurd e.1 (by simp)
  | v :: vs, x :: xs, e, q => by
    obtain ⟨y, ys, e', p, r⟩ := e.uncons
    cases e'
    exact .cons (q v x (by simp) p) (RDA.of r fun v z hz => q v z (by simp [hz]))
theorem RD.lst {h : Heap} {a : Addr} {vs : List Value} {n : Nat} {ds : List Dat} (e : h.get? a = some (lstO vs n)) (x : RDA h vs ds) : RD h (.ref a) (.list ds) := by
  obtain ⟨as, x⟩ := x
  exact ⟨a :: as, by rw [kqdP]; exact .list e rfl rfl (by simpa using x)⟩
theorem RD.tup {h : Heap} {a : Addr} {vs : List Value} {n : Nat} {ds : List Dat} (e : h.get? a = some (tupO vs n)) (x : RDA h vs ds) : RD h (.ref a) (.tuple ds) := by
  obtain ⟨as, x⟩ := x
  exact ⟨as, by rw [kqdP]; exact .tuple e rfl rfl (by simpa using x)⟩
theorem shaped_of {d : Dat} (h : kqdOk 8 d = true) : SeqAt.shaped (kqdP d) = true := by
  have l := kqd_lay 8 d h
  unfold SeqAt.shaped; rw [l.1, Bool.true_and]; exact decide_eq_true (Nat.le_trans l.2 (by decide))
section
variable {prog : Program} {w : World} {K : Frag} {A : Around} {E : Value → Shared → Prop} {env : Env} {c : FrC} {l : List (Option Value)} {mu : List (Addr × Obj)} {ρ : Rl} {h : Heap} {G : Array GenState} {D : Drawn} {O : OsState} {t : Nat}
theorem R_eqD {a b : Value} {d e : Dat} {Q : Value → Shared → Prop} (ra : RD h a d) (rb : RD h b e) (hd : kqdOk 8 d = true) (he : kqdOk 8 e = true) (hu : A.units + 64 < cLine) (k : ∀ r : Bool, (r = true ↔ d = e) → Q (.bool r) ⟨h, G, D, t, O⟩) :
    wpAny (model prog w) A (compareOp .Eq a b) Q E ⟨h, G, D, t, O⟩ := by
  obtain ⟨as, ra⟩ := ra
  obtain ⟨bs, rb⟩ := rb
  exact eq_dataH (s := ⟨h, G, D, t, O⟩) ra rb (shaped_of hd) (shaped_of he) hu (k _ (kqd_eqv 8 d e 8 hd he))
theorem R_neD {a b : Value} {d e : Dat} {Q : Value → Shared → Prop} (ra : RD h a d) (rb : RD h b e) (hd : kqdOk 8 d = true) (he : kqdOk 8 e = true) (hu : A.units + 64 < cLine) (k : ∀ r : Bool, (r = true ↔ d ≠ e) → Q (.bool r) ⟨h, G, D, t, O⟩) :
    wpAny (model prog w) A (compareOp .NotEq a b) Q E ⟨h, G, D, t, O⟩ := by
  obtain ⟨as, ra⟩ := ra
  obtain ⟨bs, rb⟩ := rb
  refine ne_dataH (s := ⟨h, G, D, t, O⟩) ra rb (shaped_of hd) (shaped_of he) hu (k _ ?_)
  have := kqd_eqv 8 d e 8 hd he
  cases q : PyData.eqv (kqdP d) (kqdP e) with
  | true => simp [this.mp q]
  | false =>
    simp only [Bool.not_false, true_iff]
    intro e'; rw [this.mpr e'] at q; cases q
end
noncomputable abbrev dN (n : Nat) : Dat := .int (n : Int)
noncomputable abbrev dI (n : Int) : Dat := .int n
theorem ok_ints {α : Type} (f : α → Int) (n : Nat) : ∀ xs : List α, (xs.map fun x => Dat.int (f x)).all (kqdOk n) = true := by
  intro xs; induction xs with
  | nil => rfl
  | cons x xs ih => rw [List.map_cons, List.all_cons, ih]; cases n <;> rfl
theorem map_inj {α β : Type} {f : α → β} (hf : ∀ x y, f x = f y → x = y) : ∀ {xs ys : List α}, xs.map f = ys.map f → xs = ys
  | [], [], _ => rfl
  | [], _ :: _, h => by simp at h
  | _ :: _, [], h => by simp at h
  | x :: xs, y :: ys, h => by
    simp only [List.map_cons, List.cons.injEq] at h
    rw [hf _ _ h.1, map_inj hf h.2]
theorem isS_of {x y : Str} {u : Tok} (h : x = y) : IsS (.str x u) y := ⟨u, by rw [h]⟩
theorem str_of {x : Str} {l : List Nat} (h : x.cps.toList = l) : x = ⟨l.toArray⟩ := by cases x with | mk cps => rw [← h]
theorem strs_of : ∀ {vs : List Value} {xs : List Str}, Are IsS vs xs → ∃ l : List (Str × Tok), vs = strValues l ∧ l.map (·.1) = xs
  | [], [], _ => ⟨[], rfl, rfl⟩
  | [], _ :: _, e => absurd e.1 (by simp)
  | _ :: _, [], e => absurd e.1 (by simp)
  | v :: vs, x :: xs, e => by
    obtain ⟨y, ys, e', ⟨t, rfl⟩, r⟩ := e.uncons
    cases e'
    obtain ⟨l, rfl, rfl⟩ := strs_of r
    exact ⟨(x, t) :: l, rfl, rfl⟩
theorem short {n : Nat} (h : n ≤ 1000) : Builtin.Str.tooLong n = false := by
  unfold Builtin.Str.tooLong
  simp [sizeLine_eq]; (first | lia | omega)
theorem join_cps (texts : List Str) : (Txt.join ⟨#[]⟩ texts).cps.toList = texts.flatMap (·.cps.toList) := by
  show (Builtin.Str.glued ⟨#[]⟩ texts).cps.toList = _
  unfold Builtin.Str.glued
  have h : ∀ (l : List Str) (a : Array Nat), (l.foldl (fun acc p => acc ++ (⟨#[]⟩ : Str).cps ++ p.cps) a).toList = a.toList ++ l.flatMap (·.cps.toList) := by
    intro l
    induction l with
    | nil => intro a; simp
    | cons p l ih => intro a; rw [List.foldl_cons, ih]; simp
  rw [h]
  cases texts with
  | nil => rfl
  | cons p l => simp
theorem joinOk_small {texts : List Str} (h : (texts.flatMap (·.cps.toList)).length ≤ 1000) : JoinOk ⟨#[]⟩ texts = true := by
  unfold JoinOk
  have e : ∀ (l : List Str) (a : Nat), l.foldl (fun x1 x2 => x1 + x2.length + (⟨#[]⟩ : Str).length) a = a + (l.flatMap (·.cps.toList)).length := by
    intro l
    induction l with
    | nil => intro a; simp
    | cons p l ih =>
      intro a
      rw [List.foldl_cons, ih, List.flatMap_cons, List.length_append]
      have h1 : p.length = p.cps.toList.length := by show p.cps.size = _; simp
      have h2 : (⟨#[]⟩ : Str).length = 0 := rfl
      (first | lia | omega)
  rw [List.foldl_toArray, e, short (by (first | lia | omega))]; rfl
theorem foldl_repN (a : Nat) : ∀ (k : Nat) (x : Array Nat), ((List.replicate k #[a]).foldl (· ++ ·) x).toList = x.toList ++ List.replicate k a
  | 0, x => by simp
  | k + 1, x => by
    rw [List.replicate_succ, List.foldl_cons, foldl_repN a k]
    simp [List.replicate_succ]
theorem mul_one_cps (a k : Nat) : (Txt.mul ⟨#[a]⟩ (k : Int)).cps.toList = List.replicate k a := by
  unfold Txt.mul
  split
  · have : k = 0 := by (first | lia | omega)
    subst this; rfl
  · split
    · rename_i h1 h2
      have hl : (⟨#[a]⟩ : Str).length = 1 := rfl
      rw [hl] at h2
      have : k = 1 := by have h3 : (k : Int) = 1 := by simpa using h2
                         (first | lia | omega)
      subst this; rfl
    · rw [Int.toNat_natCast, foldl_repN]; simp
section
variable {prog : Program} {w : World} {K : Frag} {A : Around} {E : Value → Shared → Prop} {env : Env} {c : FrC} {l : List (Option Value)} {mu : List (Addr × Obj)} {ρ : Rl} {h : Heap} {G : Array GenState} {D : Drawn} {O : OsState} {t : Nat}
theorem R_join {sep : Str} {a : Addr} {xs : List Str} {u : Tok} {Q : Value → Shared → Prop} (hs : sep = ⟨#[]⟩) (S : St c l mu ρ h) (hl : Lst IsS ρ a xs) (hz : (xs.flatMap (·.cps.toList)).length ≤ 1000)
    (k : ∀ x u' t', x.cps.toList = xs.flatMap (·.cps.toList) → Q (.str x u') ⟨h, G, D, t', O⟩) : wpAny (model prog w) A (call (.builtin "str.join") [.str sep u, .ref a]) Q E ⟨h, G, D, t, O⟩ := by
  subst hs
  obtain ⟨vs, n, e, r⟩ := hl
  obtain ⟨ll, rfl, rfl⟩ := strs_of r
  exact SC.join (s := ⟨h, G, D, t, O⟩) (IsList.of_get (S.get e)) rfl (joinOk_small hz) fun t' k' => k _ _ _ (join_cps _)
theorem R_smul {a n : Nat} {x₀ : Str} {u v : Tok} {Q : Value → Shared → Prop} (hs : x₀ = ⟨#[a]⟩) (hz : n ≤ 1000) (k : ∀ x u' t', x.cps.toList = List.replicate n a → Q (.str x u') ⟨h, G, D, t', O⟩) :
    wpAny (model prog w) A (binaryOp .Mult (.str x₀ u) (.int (n : Nat) v)) Q E ⟨h, G, D, t, O⟩ := by
  subst hs
  exact SB.mul (mulOk_of 1 1000 (Nat.le_of_eq rfl) (by (first | lia | omega)) (by (first | lia | omega)) (by decide) (by decide)) fun t' k' => k _ _ _ (mul_one_cps a n)
theorem R_sadd {x y : Str} {u v : Tok} {Q : Value → Shared → Prop} (hz : x.cps.toList.length + y.cps.toList.length ≤ 1000) (k : ∀ z u' t', z.cps.toList = x.cps.toList ++ y.cps.toList → Q (.str z u') ⟨h, G, D, t', O⟩) :
    wpAny (model prog w) A (binaryOp .Add (.str x u) (.str y v)) Q E ⟨h, G, D, t, O⟩ :=
  add_str (s := ⟨h, G, D, t, O⟩) (fun t' tk => k _ _ _ (by show (x.cps ++ y.cps).toList = _; simp)) (by
    have h1 : x.length = x.cps.toList.length := by show x.cps.size = _; simp
    have h2 : y.length = y.cps.toList.length := by show y.cps.size = _; simp
    rw [sizeLine_eq]; (first | lia | omega))
end
theorem ints_of : ∀ {vs : List Value} {xs : List Int}, Are IsI vs xs → IntsAre vs xs
  | [], [], _ => .nil
  | [], _ :: _, e => absurd e.1 (by simp)
  | _ :: _, [], e => absurd e.1 (by simp)
  | v :: vs, x :: xs, e => by
    obtain ⟨y, ys, e', ⟨t, rfl⟩, r⟩ := e.uncons
    cases e'
    exact .cons _ t (ints_of r)
theorem of_ints : ∀ {vs : List Value} {xs : List Int}, IntsAre vs xs → Are IsI vs xs
  | _, _, .nil => .nil
  | _, _, .cons n t r => .cons ⟨t, rfl⟩ (of_ints r)
theorem natsI : ∀ {vs : List Value} {xs : List Nat}, Are IsN vs xs → Are IsI vs (xs.map fun n : Nat => (n : Int))
  | [], [], _ => .nil
  | [], _ :: _, e => absurd e.1 (by simp)
  | _ :: _, [], e => absurd e.1 (by simp)
  | v :: vs, x :: xs, e => by
    obtain ⟨y, ys, e', p, r⟩ := e.uncons
    cases e'
    exact .cons p (natsI r)
section
variable {prog : Program} {w : World} {K : Frag} {A : Around} {E : Value → Shared → Prop} {env : Env} {c : FrC} {l : List (Option Value)} {mu : List (Addr × Obj)} {ρ : Rl} {h : Heap} {G : Array GenState} {D : Drawn} {O : OsState} {t : Nat}
theorem R_sorted {a : Addr} {vs : List Value} {n : Nat} {xs : List Int} {Q : Value → Shared → Prop} (S : St c l mu ρ h) (hl : h.get? a = some (lstO vs n)) (r : Are IsI vs xs) (hz : xs.length < 64)
    (k : ∀ d h' ρ' ys, St c l mu ρ' h' → ρ.le ρ' → Lst IsI ρ' d ys → ys.Perm xs → ys.Pairwise (· ≤ ·) → Q (.ref d) ⟨h', G, D, t, O⟩) :
    wpAny (model prog w) A (call (.builtin "sorted") [.ref a]) Q E ⟨h, G, D, t, O⟩ := by
  refine sorted_ints (s := ⟨h, G, D, t, O⟩) (IsList.of_get hl) (ints_of r) (by rw [r.len]; exact hz) fun out ns' a1 a2 a3 => ?_
  obtain ⟨e, he⟩ := sortedAll_at h vs out
  have he' : (sortedAll h vs out).get? (h.objs.size + 1) = some (lstO out.toList e) := by simpa using he
  refine k _ _ _ ns' (S.new (fun b o q => sortedAll_old q) ?_ he') (ρ.le_add _ _) ⟨_, _, ρ.at_add _ _, of_ints a1⟩ a2 a3
  cases q : h.get? (h.objs.size + 1) with
  | none => rfl
  | some o => exact absurd (Heap.lt_size q) (Nat.not_lt.mpr (Nat.le_succ _))
end
theorem sorted_uniq : ∀ {xs ys : List Int}, xs.Perm ys → xs.Pairwise (· ≤ ·) → ys.Pairwise (· ≤ ·) → xs = ys := fun h a b => h.eq_of_pairwise (fun _ _ _ _ p q => Int.le_antisymm p q) a b
section
variable {prog : Program} {w : World} {K : Frag} {A : Around} {E : Value → Shared → Prop} {env : Env} {c : FrC} {l : List (Option Value)} {mu : List (Addr × Obj)} {ρ : Rl} {h : Heap} {G : Array GenState} {D : Drawn} {O : OsState} {t : Nat}
theorem R_cKW {env' : Env} {pos : Pos} {f : Value} {first : List Value} {Q : Value → Shared → Prop} {s : Shared} {e : Expr} {rest : List Expr} {kws : List Keyword} (B : Bx K c A env') (hk : keepIn K f = true) (hall : (backToKw pos (keywordEach kws env)).all (·.1.isSome) = true)
    (h : wpAny (model prog w) A (spliced (backTo pos (starEach (e :: rest) env))) (fun vs s₁ => wpAny (model prog w) A (evalAll ((backToKw pos (keywordEach kws env)).map (·.2)))
      (fun ks s₂ => K.In s₂.heap ∧ wpAny (model prog w) A (call f (first ++ vs) (((backToKw pos (keywordEach kws env)).filterMap (·.1)).zip ks)) Q E s₂) E s₁) E s)
    (hplain : ((backTo pos (starEach (e :: rest) env)).any (·.1) || (backToKw pos (keywordEach kws env)).any (·.1.isNone)) = false) (he : starEach (e :: rest) env = (false, eval e env) :: starEach rest env) :
    wpAny (model prog w) A (callWith pos f first (backTo pos (starEach (e :: rest) env)) (backToKw pos (keywordEach kws env))) Q E s := callWith_KW B.gl.X hk hall h hplain he
theorem typeIs_get {h : Heap} {a : Addr} {o : Obj} {T : String} (e : h.get? a = some o) (hc : o.cls = .type T) : (⟨h, G, D, t, O⟩ : Shared).TypeIs (.ref a) T := ⟨o, e, hc⟩
theorem R_forEmpty {target : Expr} {body : List Stmt} {I : Addr} {fz : List Addr} {P : Nat → Value → Prop} {WS : Nat → Heap → Prop} {o : Obj} {R : Result → Shared → Prop}
    (T : Itr prog w A I fz 0 P WS) (hw : WS 0 h) (S : St c l ((I, o) :: mu) ρ h) (done : ∀ h t, St c l mu ρ h → R (.ok .next) ⟨h, G, D, t, O⟩) :
    codeAny (model prog w) A (.forLoop target (.ref I) body [] env) R ⟨h, G, D, t, O⟩ := by
  refine codeAny_forLoop_any (fun _ s => s = ⟨h, G, D, t, O⟩) (fun n s hs => ?_) 0 rfl
  subst hs
  refine T.W.done _ _ _ hw fun h' tk hk => wpAny_execs_nil ?_
  exact done h' tk (S.off fun b x hb e => hk b x (by simpa using hb) e)
end
theorem CallMut.mono {prog : Program} {w : World} {K : Frag} {f : Value} {ar : Args} {dn un : Nat} {own : List (Addr × Obj)} {h : Heap} {ρ : Rl} {Post Post' : List (Addr × Obj) → Rl → Value → Prop} (x : CallMut prog w K f ar dn un own h ρ Post)
    (hp : ∀ own' ρ' r, Post own' ρ' r → Post' own' ρ' r) : CallMut prog w K f ar dn un own h ρ Post' :=
  fun A R G D O t C h1 h2 h3 h4 h5 h6 => x A R G D O t C h1 h2 h3 h4 h5 fun r h' t' ρ' own' a b c d e g p => h6 r h' t' ρ' own' a b c d e g (hp _ _ _ p)
noncomputable def Rl.drop (ρ : Rl) (H : Addr) : Rl := fun a o => ρ a o ∧ a ≠ H
theorem St.thaw {c : FrC} {l l' : List (Option Value)} {mu mu' : List (Addr × Obj)} {ρ ρ' : Rl} {h h' : Heap} {H : Addr} {o : Obj} (S : St c l mu ρ h) (S' : St c l' mu' ρ' h') (hle : ρ.le ρ') (e : ρ' H o) (hn : h.get? H = none) :
    St c l' ((H, o) :: mu') (ρ'.drop H) h' ∧ ρ.le (ρ'.drop H) := by
  have hz := S'.fz _ _ e
  have hle' : ρ.le (ρ'.drop H) := fun a x q => ⟨hle _ _ q, fun r => by rw [r] at q; rw [S.get q] at hn; cases hn⟩
  refine ⟨⟨S'.F, S'.ln, S'.nd, fun p hp => ?_, ?_, fun a x q => ⟨(S'.fz a x q.1).1, (S'.fz a x q.1).2.1, ?_⟩, fun a x q => S'.ex a x q.1, S.le.trans hle'⟩, hle'⟩
  · rcases List.mem_cons.mp hp with rfl | hp
    · refine ⟨hz.1, hz.2.1, ?_⟩
      cases q : c.h₀.get? H with
      | none => rfl
      | some z => have := S.F.keep _ _ q; rw [hn] at this; cases this
    · exact S'.N p hp
  · rw [List.map_cons, List.nodup_cons]; exact ⟨hz.2.2, S'.md⟩
  · rw [List.map_cons, List.mem_cons]
    rintro (r | r)
    · exact q.2 r
    · exact (S'.fz a x q.1).2.2 r
end Mine
end
section
open PySem PySem.W PyProof.Rows PySem.Calls
set_option maxRecDepth 100000
namespace Mine
theorem slot_search : Slot "re.Pattern" "search" "re.Pattern.search" :=
  .of (owner := "re.Pattern") (n := "search") (by rw [typeLookup_type, builtinLookup_eq_fast]; kernel_rfl) (by decide +kernel) (by decide +kernel) (by decide +kernel)
    (by first | exact .inl (by decide +kernel) | exact .inr (by decide +kernel)) (by rw [isSubtype_type]; kernel_rfl)
theorem type_search : typeOf (.builtin "re.Pattern.search") = pure (.type "method_descriptor") := by show builtinType _ = _; rw [builtinType_eq_fast]; kernel_rfl
theorem entry_search : entryFor table "re.Pattern.search" = some Builtin.«re.Pattern.search» := entryFor_of_tree (by kernel_rfl)
theorem plainAttrs_pattern : PlainAttrs "re.Pattern" :=
  ⟨⟨"object.__getattribute__", by rw [typeLookup_type, builtinLookup_eq_fast]; kernel_rfl, by decide +kernel⟩, by rw [typeLookup_type, builtinLookup_eq_fast]; kernel_rfl⟩
theorem args_search (a b : Value) : argsOk "re.Pattern.search" ⟨[a, b], []⟩ := by
  unfold argsOk; kernel_rfl
noncomputable def codeN : Array Nat := #[14,10,4,1,1,22,0,31,16,127,0,13,7,22,0,31,16,127,0,1]
noncomputable def codeV : Array Nat := #[14,14,4,1,1,9,4294966783,0,0,2147483648,0,0,0,0,0,13,11,9,4294966783,0,0,2147483648,0,0,0,0,0,1]
theorem setN {c : Nat} (h : 65 ≤ c ∧ c ≤ 122) (sn : Sre.Seen) : ∃ sn', Sre.inSet codeN c codeN.size 5 true sn = .ok (false, sn') := by
  refine ⟨((sn.add 22).add 16).add 0, ?_⟩
  show Sre.inSet codeN c 20 5 true sn = _
  unfold Sre.inSet
  show (if (0 ≤ c && c ≤ 31) = true then _ else Sre.inSet codeN c 19 8 true (sn.add 22)) = _
  rw [if_neg (by simp; (first | lia | omega))]
  unfold Sre.inSet
  show (if (c == 127) = true then _ else Sre.inSet codeN c 18 10 true ((sn.add 22).add 16)) = _
  rw [if_neg (by simp; (first | lia | omega))]
  rfl
theorem setV {c : Nat} (h : 65 ≤ c ∧ c ≤ 122) (sn : Sre.Seen) : ∃ sn', Sre.inSet codeV c codeV.size 5 true sn = .ok (false, sn') := by
  refine ⟨(sn.add 9).add 0, ?_⟩
  show Sre.inSet codeV c 28 5 true sn = _
  unfold Sre.inSet
  show (if (decide (c < 256) && (codeV.getD (5 + (1 + c / 32)) 0).testBit (c % 32)) = true then _ else Sre.inSet codeV c 27 14 true (sn.add 9)) = _
  have hb : ∀ k : _root_.Fin 58, (codeV.getD (5 + (1 + (65 + k.val) / 32)) 0).testBit ((65 + k.val) % 32) = false := by decide +kernel
  have hc := hb ⟨c - 65, by (first | lia | omega)⟩
  simp only [show 65 + (c - 65) = c from by (first | lia | omega)] at hc
  rw [hc, Bool.and_false, if_neg (by decide)]
  rfl
theorem admitted_none {m : Sre.M} (h : ∀ s, s < m.lim → ∀ sn, ∃ sn', Sre.inSet m.code (m.text.getD s 0) m.code.size 5 true sn = .ok (false, sn')) : ∀ (fuel s : Nat) (sn : Sre.Seen), ∃ sn', Sre.M.admitted m fuel s sn = .ok (none, sn')
  | 0, s, sn => ⟨sn, rfl⟩
  | fuel + 1, s, sn => by
    unfold Sre.M.admitted
    by_cases q : s ≥ m.lim
    · rw [if_pos q]; exact ⟨_, rfl⟩
    · rw [if_neg q]
      obtain ⟨s', e⟩ := h s (by (first | lia | omega)) sn
      rw [e]
      exact admitted_none h fuel (s + 1) s'
structure No (m : Sre.M) : Prop where
  out : m.outcome.isNone = true
  ans : m.answer = some false
  fr : m.frames = []
theorem No.run {m : Sre.M} (x : No m) : ∃ sn, (m.runFor 4).outcome = some .failed ∧ (m.runFor 4).seen = sn := by
  refine ⟨_, ?_, rfl⟩
  obtain ⟨o, a, f⟩ := x
  have h0 : m.outcome = none := by cases q : m.outcome with | none => rfl | some _ => rw [q] at o; cases o
  have h1 : m.step = { m with outcome := some .failed } := by
    unfold Sre.M.step
    rw [h0, a, f]
    rfl
  have h2 : m.runFor 4 = { m with outcome := some .failed } := by
    unfold Sre.M.runFor
    rw [h0, h1]
    show Sre.M.runFor 3 { m with outcome := some .failed } = _
    unfold Sre.M.runFor
    rfl
  rw [h2]
theorem attempt_no {m : Sre.M} (hf : m.hasFirstSet = true) (ho : m.outcome.isNone = true) (hr : m.frames = []) (h : ∀ s, s < m.lim → ∀ sn, ∃ sn', Sre.inSet m.code (m.text.getD s 0) m.code.size 5 true sn = .ok (false, sn')) : No (m.attemptFrom 0 true) := by
  unfold Sre.M.attemptFrom
  rw [hf]
  obtain ⟨s', e⟩ := admitted_none h (m.lim + 1 - 0) 0 m.seen
  simp only [Bool.not_true, Bool.false_eq_true, if_false]
  rw [e]
  exact ⟨ho, rfl, hr⟩
theorem search_no {code text : Array Nat} (hc : code = codeN ∨ code = codeV) (ht : ∀ c ∈ text.toList, 65 ≤ c ∧ c ≤ 122) : No (Sre.forSearch code text 0 0 text.size false) := by
  unfold Sre.forSearch
  simp only
  split
  · exact ⟨rfl, rfl, rfl⟩
  · refine attempt_no ?_ rfl rfl ?_
    · rcases hc with rfl | rfl <;> rfl
    · intro s hs sn
      have hs' : s < text.size := hs
      have hm : 65 ≤ text.getD s 0 ∧ text.getD s 0 ≤ 122 := by
        have : text.getD s 0 = text[s] := by simp [Array.getD, hs']
        rw [this]; exact ht _ (by simp)
      rcases hc with rfl | rfl
      · exact setN hm sn
      · exact setV hm sn
end Mine
end
section
open PySem PySem.W PyProof.Rows PySem.Calls
open PySem.Builtin.Re
set_option maxRecDepth 100000
namespace Mine
theorem named_search (v : Value) : reNamed "re.Pattern.search" "search" ["string", "pos", "endpos"] 1 [v] [] = pure [some v, none, none] := by
  rfl
section
variable {M : Model} {A : Around} {E : Value → Shared → Prop} {s : Shared}
theorem wp_drive {m : Sre.M} (x : No m) : ∀ (n : Nat), n ≠ 0 → reDrive n m = pure (m.runFor 4)
  | 0, h => absurd rfl h
  | n + 1, _ => by
    obtain ⟨_, e, _⟩ := x.run
    unfold reDrive
    show (if ((m.runFor 4).outcome.isSome) = true then _ else _) = _
    rw [e]; rfl
theorem wp_runToEnd {m : Sre.M} (x : No m) {Q : Option Sre.M → Shared → Prop} (q : Q none s) : wpAny M A (reRunToEnd m) Q E s := by
  unfold reRunToEnd
  refine wpAny_bind (wpAny_of_eq (wp_drive x _ (by decide)) ?_)
  obtain ⟨_, e, _⟩ := x.run
  refine wpAny_bind (wpAny_forIn_list _ (fun _ _ s' => s' = s) _ (fun i rest b s' hs => ?_) (fun b s' hs => ?_) _ _ rfl)
  · subst hs
    split
    · exact wpAny_bind (wpAny_rule (wpAny_pure rfl))
    · exact wpAny_pure rfl
  · subst hs
    rw [e]
    exact wpAny_pure q
end
theorem search_meets {p q : Addr} {x : Str} {tx : Tok} {a b c d e : Value} {cs : Array Value} {n : Nat} {code : Array Nat} (hcode : (cs.map reRawOf).map Int.toNat = code) (hc : code = codeN ∨ code = codeV) (hx : ∀ c ∈ x.cps.toList, 65 ≤ c ∧ c ≤ 122) (h0 : reRawNat c = 0) (hz : x.cps.size ≤ 1000) :
    Meets (Builtin.«re.Pattern.search» ⟨[.ref p, .str x tx], []⟩) (fun _ R s => s.heap.get? p = some { cls := .type "re.Pattern", data := .fields #[a, b, c, d, e, .ref q, .int 0 0] } ∧ s.heap.get? q = some { cls := .type "tuple", data := .seq cs n } ∧ R (.ok (.ret .none)) s) :=
  .of_wp fun prog w A R s h => by
    obtain ⟨hp, hq, h⟩ := h
    unfold Builtin.«re.Pattern.search»
    refine wpAny_bind ?_
    unfold reTarget
    dsimp only
    refine wpAny_bind (wpAny_of_eq (named_search _) ?_)
    dsimp only
    refine wpAny_bind (wpAny_pure (wpAny_bind (wpAny_pure (wpAny_bind (wpAny_fieldsOf hp rfl ?_)))))
    refine wpAny_bind (wpAny_bind (wpAny_pure ?_))
    refine wpAny_pure ?_
    show wpAny _ _ (if ((0 : Nat) == 0 && (0 : Nat) == 1) = true then _ else (if ((0 : Nat) == 1 && (0 : Nat) == 0) = true then _ else _)) _ _ _
    rw [if_neg (by decide), if_neg (by decide)]
    refine wpAny_bind (wpAny_pure (wpAny_bind (wpAny_bind (wpAny_seqItems hq rfl (wpAny_pure (wpAny_pure ?_))))))
    have hl : min (2 ^ 63 - 1 : Int).toNat x.cps.size = x.cps.size := by (first | lia | omega)
    show wpAny (model prog w) A.in1 (reAnswer _ (Sre.forSearch ((cs.map reRawOf).map Int.toNat) x.cps (reRawNat c) (min (Int.toNat 0) x.cps.size) (min (2 ^ 63 - 1 : Int).toNat x.cps.size) false)) _ _ s
    rw [hl, h0, hcode, show min (Int.toNat 0) x.cps.size = 0 from by simp]
    refine wpAny_bind (wp_runToEnd (search_no hc hx) ?_)
    exact wpAny_pure ⟨_, rfl, h⟩
section
variable {prog : Program} {w : World} {K : Frag} {A : Around} {E : Value → Shared → Prop} {env : Env} {c : FrC} {l : List (Option Value)} {mu : List (Addr × Obj)} {ρ : Rl} {h : Heap} {G : Array GenState} {D : Drawn} {O : OsState} {t : Nat}
theorem R_gmSearch {p : Addr} {o : Obj} {pl : Sem Bool} {Q : Value × List Value → Shared → Prop} (ho : h.get? p = some o) (hc : o.cls = .type "re.Pattern") (hd : o.dict = none) (k : Q (.builtin "re.Pattern.search", [.ref p]) ⟨h, G, D, t, O⟩) :
    wpAny (model prog w) A (getMethod (.ref p) "search" pl) Q E ⟨h, G, D, t, O⟩ :=
  getMethod_builtin (s := ⟨h, G, D, t, O⟩) ⟨o, ho, hc⟩ plainAttrs_pattern slot_search type_search (fun a e => by cases e; exact ⟨o, ho, hd⟩) k
theorem R_search {p q : Addr} {x : Str} {tx : Tok} {a b c d e : Value} {cs : Array Value} {n : Nat} {code : Array Nat} {Q : Value → Shared → Prop} (hp : h.get? p = some { cls := .type "re.Pattern", data := .fields #[a, b, c, d, e, .ref q, .int 0 0] }) (hq : h.get? q = some { cls := .type "tuple", data := .seq cs n })
    (hcode : (cs.map reRawOf).map Int.toNat = code) (hc : code = codeN ∨ code = codeV) (h0 : reRawNat c = 0) (hx : ∀ c ∈ x.cps.toList, 65 ≤ c ∧ c ≤ 122) (hz : x.cps.size ≤ 1000) (k : Q .none ⟨h, G, D, t, O⟩) :
    wpAny (model prog w) A (call (.builtin "re.Pattern.search") [.ref p, .str x tx]) Q E ⟨h, G, D, t, O⟩ :=
  call_meets (s := ⟨h, G, D, t, O⟩) slot_search ⟨_, hp, rfl⟩ entry_search (args_search _ _) (search_meets hcode hc hx h0 hz) ⟨hp, hq, k⟩
end
end Mine
end
section
open PySem PySem.W PyProof.Rows PySem.Calls
set_option maxRecDepth 100000
namespace Mine
section
variable {prog : Program} {w : World} {K : Frag} {A : Around} {E : Value → Shared → Prop} {env : Env} {c : FrC} {l : List (Option Value)} {mu : List (Addr × Obj)} {ρ : Rl} {h : Heap} {G : Array GenState} {D : Drawn} {O : OsState} {t : Nat}
theorem mapSeq_lst {vs ws : List Value} {n : Nat} {f : Array Value → Array Value} (hf : f vs.toArray = ws.toArray) : ∃ k, Obj.mapSeq f (lstO vs n) = lstO ws k :=
  ⟨if (f vs.toArray).size == vs.toArray.size then n else n + 1, by
    show ({ cls := .type "list", data := .seq (f vs.toArray) _ } : Obj) = _
    rw [hf]⟩
theorem setAll_exact {a d sl : Addr} {vs ws : List Value} {n m : Nat} {s : Shared} {Q : Unit → Shared → Prop} (had : a ≠ d) (ho : s.heap.get? a = some (lstO vs n)) (hd : s.heap.get? d = some (lstO ws m))
    (hs : s.heap.get? sl = some { cls := .type "slice", data := .fields #[.none, .none, .none] }) (hz : vs.length + ws.length ≤ 100000)
    (hQ : ∀ h' k, h'.get? a = some (lstO ws k) → Heap.SameBut a s.heap h' → Q () { s with heap := h' }) :
    wpAny (model prog w) A (setItem (.ref a) (.ref sl) (.ref d)) Q E s := by
  have hl : s.heap.IsList a vs.toArray := IsList.of_get ho
  have hTs : s.TypeIs (.ref sl) "slice" := ⟨_, hs, rfl⟩
  have hTd : s.TypeIs (.ref d) "list" := ⟨_, hd, rfl⟩
  unfold setItem
  try with_reducible refine wpAny_holding ?_
  first | refine wpAny_bind (wpAny_pure ?_) | skip
  refine wpAny_bind (wpAny_sequenceKey hl.typeIs (by decide) ?_)
  refine wpAny_bind (wpAny_callSpecial?_slot (name := Str.ofString "__setitem__") hl.typeIs slot_list_setitem
    (wpAny_call_entry slot_list_setitem hl.typeIs entry_list_setitem ?_ (args_list_setitem _ _ _)))
  show wpAny _ _ (Builtin.List.listSubscript? (.ref sl) >>= _) _ _ s
  refine wpAny_bind ?_
  unfold Builtin.List.listSubscript?
  refine wpAny_bind (wpAny_specialOf hTs slice_no_index ?_)
  simp only [Option.isNone_none, if_true]
  refine wpAny_pure ?_
  show wpAny _ _ (typeOf (.ref sl) >>= _) _ _ s
  refine wpAny_bind (wpAny_typeOf hTs ?_)
  rw [if_neg (by decide)]
  rw [listSliceParts_eq]
  refine wpAny_bind (wpAny_bind (wpAny_field hs rfl (x := .none) rfl (wpAny_bind (wpAny_listPart .none ?_))))
  rw [if_neg (by decide)]
  refine wpAny_bind (wpAny_field hs rfl (x := .none) rfl (wpAny_bind (wpAny_listPart .none ?_)))
  refine wpAny_bind (wpAny_field hs rfl (x := .none) rfl (wpAny_bind (wpAny_listPart .none (wpAny_pure ?_))))
  have hne : Builtin.List.listSameRef (.ref a) (.ref d) = false := by
    show (a == d) = false
    simpa using had
  show wpAny _ _ (if Builtin.List.listSameRef (.ref a) (.ref d) = true then _ else _) _ _ s
  rw [hne, if_neg (by decide)]
  refine wpAny_bind ?_
  unfold Builtin.List.listAllItems
  refine wpAny_bind (wpAny_typeOf hTd ?_)
  rw [if_pos (by decide)]
  refine listItems_at hd rfl ?_
  refine wpAny_bind (listItems_at ho rfl ?_)
  refine wpAny_bind (wpAny_of_eq (sliceIndices_raw none none none vs.toArray.size (by simp)) ?_)
  have hb : sliceBounds none none none vs.toArray.size = (0, (vs.length : Int), 1) := by simp [sliceBounds]
  rw [hb]
  show wpAny _ _ (if ((1 : Int) == 1) = true then _ else _) _ _ s
  rw [if_pos (by decide)]
  refine wpAny_bind (wpAny_rule ?_)
  rw [if_neg (by simp only [Builtin.List.listTooLong, sizeLine_eq, decide_eq_true_eq, List.size_toArray]; (first | lia | omega))]
  have hf : (fun xs : Array Value => xs.extract 0 (0 : Int).toNat ++ ws.toArray ++ xs.extract (max (0 : Int) (vs.length : Int)).toNat xs.size) vs.toArray = ws.toArray := by
    have e : (max (0 : Int) (vs.length : Int)).toNat = vs.length := by (first | lia | omega)
    simp only [e]
    simp
  obtain ⟨k, hk⟩ := mapSeq_lst (n := n) (vs := vs) (f := fun xs : Array Value => xs.extract 0 (0 : Int).toNat ++ ws.toArray ++ xs.extract (max (0 : Int) (vs.length : Int)).toNat xs.size) hf
  refine wpAny_bind (listUpdate_at ho rfl ?_ (by rw [sizeLine_eq]; simp; (first | lia | omega)) (by rw [sizeLine_eq]; refine Nat.le_trans (Nat.le_of_eq (congrArg Array.size hf)) ?_; simp; (first | lia | omega)))
  have hfin : (s.heap.update a (Obj.mapSeq (fun xs : Array Value => xs.extract 0 (0 : Int).toNat ++ ws.toArray ++ xs.extract (max (0 : Int) (vs.length : Int)).toNat xs.size))).get? a = some (lstO ws k) := by
    rw [Heap.get?_update_self _ ho (by rw [hk]; rfl), hk]
  refine wpAny_bind (wpAny_letGo ?_)
  exact wpAny_pure ⟨.none, rfl, wpAny_pure (hQ _ _ hfin (Heap.SameBut.update ..))⟩
theorem R_setAll {a d sl : Addr} {vs ws : List Value} {n m k : Nat} {Q : Unit → Shared → Prop} (S : St c l mu ρ h) (hk : mu[k]? = some (a, lstO vs n)) (hd : ρ d (lstO ws m)) (hs : h.get? sl = some { cls := .type "slice", data := .fields #[.none, .none, .none] }) (hz : vs.length + ws.length ≤ 100000)
    (q : ∀ h' j, St c l (mu.set k (a, lstO ws j)) ρ h' → Q () ⟨h', G, D, t, O⟩) : wpAny (model prog w) A (setItem (.ref a) (.ref sl) (.ref d)) Q E ⟨h, G, D, t, O⟩ :=
  setAll_exact (s := ⟨h, G, D, t, O⟩) (fun e => (S.fz _ _ hd).2.2 (by rw [← e]; exact List.mem_map_of_mem (List.mem_of_getElem? hk))) (S.muget hk) (S.get hd) hs hz
    fun h' j e hs' => q h' j (S.mut hk e fun b z hb ez => (hs'.2 b hb).trans ez)
end
noncomputable def stL (l : Txs) : Str := ⟨l.toArray⟩
theorem stL_cps (l : Txs) : (stL l).cps.toList = l := by simp [stL]
theorem stL_inj {a b : Txs} (h : stL a = stL b) : a = b := by rw [← stL_cps a, h, stL_cps]
theorem low_st {l : Txs} (h : OkT l) : Txt.lower (stL l) = stL (lowL l) := by
  rw [lower_ascii fun c hc => by rw [stL_cps] at hc; have := h.1 c hc; (first | lia | omega)]
  show (⟨l.toArray.map lo1⟩ : Str) = ⟨(l.map lowC).toArray⟩
  rw [List.map_toArray]; rfl
theorem OkT.cps {l : Txs} (h : OkT l) : ∀ c ∈ (stL l).cps.toList, 65 ≤ c ∧ c ≤ 122 := by rw [stL_cps]; exact h.1
theorem OkT.sz {l : Txs} (h : OkT l) : (stL l).cps.size ≤ 1000 := by have := h.2; simp [stL]; (first | lia | omega)
theorem OkT.len {l : Txs} (h : OkT l) : (stL l).length ≤ 1000 := h.sz
noncomputable def PairIs (ρ : Rl) (v : Value) (p : Txs × Txs) : Prop := ∃ T a b m, v = .ref T ∧ ρ T (tupO [a, b] m) ∧ IsS a (stL p.1) ∧ IsS b (stL p.2)
theorem PairIs.le {ρ ρ' : Rl} {v : Value} {p : Txs × Txs} (x : PairIs ρ v p) (hle : ρ.le ρ') : PairIs ρ' v p := let ⟨T, a, b, m, e, f, g, i⟩ := x; ⟨T, a, b, m, e, hle _ _ f, g, i⟩
section
variable {prog : Program} {w : World} {K : Frag} {A : Around} {E : Value → Shared → Prop} {env : Env} {c : FrC} {l : List (Option Value)} {mu : List (Addr × Obj)} {ρ ρ' : Rl} {h h' : Heap} {G : Array GenState} {D : Drawn} {O : OsState} {t : Nat}
theorem St.thaw2 {l' : List (Option Value)} {mu' : List (Addr × Obj)} {H : Addr} {o : Obj} {k : Nat} (S : St c l mu ρ h) (hk : mu[k]? = some (H, o)) (S' : St c l' mu' ρ' h') (hle : ρ.le ρ') (e : ρ' H o) :
    St c l' ((H, o) :: mu') (ρ'.drop H) h' ∧ ρ.le (ρ'.drop H) := by
  have hm := List.mem_of_getElem? hk
  have hz := S'.fz _ _ e
  have hle' : ρ.le (ρ'.drop H) := fun a x q => ⟨hle _ _ q, fun r => (S.fz a x q).2.2 (by rw [r]; exact List.mem_map_of_mem hm)⟩
  refine ⟨⟨S'.F, S'.ln, S'.nd, fun p hp => ?_, ?_, fun a x q => ⟨(S'.fz a x q.1).1, (S'.fz a x q.1).2.1, ?_⟩, fun a x q => S'.ex a x q.1, S.le.trans hle'⟩, hle'⟩
  · rcases List.mem_cons.mp hp with rfl | hp
    · exact ⟨hz.1, (S.N _ hm).2⟩
    · exact S'.N p hp
  · rw [List.map_cons, List.nodup_cons]; exact ⟨hz.2.2, S'.md⟩
  · rw [List.map_cons, List.mem_cons]
    rintro (r | r)
    · exact q.2 r
    · exact (S'.fz a x q.1).2.2 r
theorem PairIs.drop {v : Value} {p : Txs × Txs} {H : Addr} {vs : List Value} {n : Nat} (S : St c l mu ρ h) (e : ρ H (lstO vs n)) (x : PairIs ρ v p) : PairIs (ρ.drop H) v p := by
  obtain ⟨T, a, b, m, e1, f, g, i⟩ := x
  refine ⟨T, a, b, m, e1, ⟨f, fun q => ?_⟩, g, i⟩
  have h1 := S.get f
  rw [q, S.get e] at h1
  simp at h1
theorem R_titem {value slice : Expr} {T : Addr} {vs : List Value} {n j : Nat} {i : Int} {u : Tok} {x : Value} {Q : Value → Shared → Prop} (hT : h.get? T = some (tupO vs n)) (h0 : -(2 ^ 63) ≤ i) (h1 : i < 2 ^ 63) (hj : seqIndex? i vs.length = some j) (hx : vs[j]? = some x) (k : Q x ⟨h, G, D, t, O⟩)
    (hs : subscripted slice false (.ref T) (.int i u) = operate [.ref T, .int i u] (getItem (.ref T) (.int i u))) (hg : ∀ r, letTemporaryGo value (.ref T) r = pure ()) :
    wpAny (model prog w) A (subscriptTail value slice (.ref T) (.int i u)) Q E ⟨h, G, D, t, O⟩ := item_tupleL (s := ⟨h, G, D, t, O⟩) ⟨_, hT, rfl, n, rfl⟩ h0 h1 hj hx k hs hg
theorem R_setItemI {x C dx f : Addr} {es : List DictEntry} {n : Nat} {i v : Value} {Q : Unit → Shared → Prop} (B : Bx K c A env) (S : St c l mu ρ h) (hx : h.get? x = some (instObj C dx)) (hd : h.get? dx = some (dictOf es n)) (hq : noSeq K C = true) (hs : findIn K (.ref C) "__setitem__" = some (some (.ref f))) (hf : isFn K (.ref f) = true)
    (k : wpAny (model prog w) A (call (.ref f) [.ref x, i, v]) (fun _ s' => Q () s') E ⟨h, G, D, t, O⟩) : wpAny (model prog w) A (setItem (.ref x) i v) Q E ⟨h, G, D, t, O⟩ :=
  ksp_setItem (s := ⟨h, G, D, t, O⟩) (od := some (dictOf es n)) S.F B.gl.X ⟨hx, rfl, rfl, hd⟩ hq hs hf k
theorem R_delItem {x C dx f : Addr} {es : List DictEntry} {n : Nat} {i : Value} {Q : Unit → Shared → Prop} (B : Bx K c A env) (S : St c l mu ρ h) (hx : h.get? x = some (instObj C dx)) (hd : h.get? dx = some (dictOf es n)) (hq : noSeq K C = true) (hs : findIn K (.ref C) "__delitem__" = some (some (.ref f))) (hf : isFn K (.ref f) = true)
    (k : wpAny (model prog w) A (call (.ref f) [.ref x, i]) (fun _ s' => Q () s') E ⟨h, G, D, t, O⟩) : wpAny (model prog w) A (delItem (.ref x) i) Q E ⟨h, G, D, t, O⟩ := by
  have X : K.In h := (B.gl' S).X
  have I : InstAt h x (instObj C dx) C (some (dictOf es n)) := ⟨hx, rfl, rfl, hd⟩
  unfold delItem sequenceKey
  refine wpAny_holding (wpAny_bind (wpAny_bind (Looks.here (s := ⟨h, G, D, t, O⟩) I.type ?_)))
  refine wpAny_bind (Looks.here (s := ⟨h, G, D, t, O⟩) (anyM_none X hq) ?_)
  rw [if_pos (show (!false) = true from rfl)]
  exact wpAny_pure (wpAny_bind (special_fn (s := ⟨h, G, D, t, O⟩) X I hs (beq_iff_eq.mp hf) (wpAny_mono k (fun _ _ z => wpAny_pure z) fun _ _ z => z)))
end
end Mine
end
section
open PySem PySem.W PyProof.Rows PySem.Calls
set_option maxRecDepth 100000
namespace Mine
theorem St.late {c : FrC} {l : List (Option Value)} {mu : List (Addr × Obj)} {ρ : Rl} {h : Heap} (S : St c l mu ρ h) {a : Addr} {o : Obj} (e : h.get? a = some o) (hL : a ≠ c.L) (hm : a ∉ mu.map (·.1)) (h0 : c.h₀.get? a = none) : St c l mu (ρ.add a o) h where
  F := S.F
  ln := S.ln
  nd := S.nd
  N := S.N
  md := S.md
  fz := by
    rintro b x (q | ⟨rfl, rfl⟩)
    · exact S.fz _ _ q
    · exact ⟨e, hL, hm⟩
  ex := by
    rintro b x (q | ⟨rfl, rfl⟩)
    · exact S.ex _ _ q
    · exact .inr h0
  le := S.le.trans (Rl.le_add _ _ _)
noncomputable def CodeIs (qual : Str) (ρ : Rl) (c' : Addr) : Prop := ∃ oc vs t, ρ c' oc ∧ oc.data = .fields vs ∧ vs[1]? = some (.str qual t)
theorem CodeIs.le {qual : Str} {ρ ρ' : Rl} {c' : Addr} (x : CodeIs qual ρ c') (h : ρ.le ρ') : CodeIs qual ρ' c' := let ⟨oc, vs, t, a, b⟩ := x; ⟨oc, vs, t, h _ _ a, b⟩
noncomputable def TabIs (pos : Pos) (qual : Str) (ρ : Rl) (ps : Array Value) : Prop := ps = #[] ∨ ∃ c', ps = #[rawInt pos.line, rawInt pos.col, .ref c'] ∧ CodeIs qual ρ c'
theorem TabIs.le {pos : Pos} {qual : Str} {ρ ρ' : Rl} {ps : Array Value} (x : TabIs pos qual ρ ps) (h : ρ.le ρ') : TabIs pos qual ρ' ps := x.imp id fun ⟨c', a, b⟩ => ⟨c', a, b.le h⟩
noncomputable def LamIs (qual : Str) (params : Arguments) (body : Expr) (scope : Scope) (clos : List (Str × Addr)) (ρ : Rl) (f : Addr) : Prop := ∃ pm c' ctv, ρ f (kla_obj "<lambda>" qual params body scope clos pm c' ctv) ∧ CodeIs qual ρ c'
theorem LamIs.le {qual : Str} {params : Arguments} {body : Expr} {scope : Scope} {clos : List (Str × Addr)} {ρ ρ' : Rl} {f : Addr} (x : LamIs qual params body scope clos ρ f) (h : ρ.le ρ') : LamIs qual params body scope clos ρ' f :=
  let ⟨pm, c', ctv, a, b⟩ := x; ⟨pm, c', ctv, h _ _ a, b.le h⟩
theorem set_same {α : Type} {l : List α} {k : Nat} {x : α} (h : l[k]? = some x) : l.set k x = l := by
  apply List.ext_getElem?
  intro i
  rw [List.getElem?_set]
  split
  · rename_i e; subst e; rw [h]; split
    · rfl
    · rename_i q; exact absurd (List.getElem?_eq_some_iff.mp h).1 q
  · rfl
section
variable {prog : Program} {w : World} {K : Frag} {A : Around} {E : Value → Shared → Prop} {env : Env} {c : FrC} {l : List (Option Value)} {mu : List (Addr × Obj)} {ρ : Rl} {h : Heap} {G : Array GenState} {D : Drawn} {O : OsState} {t : Nat}
theorem R_lambda {params : Arguments} {body : Expr} {scope : Scope} {pos : Pos} {P cA bm : Addr} {ob : Obj} {ps : Array Value} {k : Nat} {clos : List (Str × Addr)} {qual : Str} {Q : Value → Shared → Prop} (B : Bx K c A env) (S : St c l mu ρ h) (hk : mu[k]? = some (P, tabObj ps)) (hT : TabIs pos qual ρ ps)
    (hq : env.qual ++ "<lambda>" = qual) (hcode : env.code = .ref cA) (hcd : codeHdIn K cA P = true) (hcl : closureFor scope env = pure clos) (hdef : defaultsOf params env = ([], []))
    (hbm : nsIn K mainGlobals "__builtins__" = some (some (.ref bm))) (hne : bm ≠ builtinsNs) (hneG : bm ≠ mainGlobals) (hob : ρ bm ob) (hoc : ob.cls = .type "module") (hod : ob.dict = some builtinsNs) (hop : ob.data = .plain)
    (q : ∀ f h' t' ρ' ps', St c l (mu.set k (P, tabObj ps')) ρ' h' → ρ.le ρ' → TabIs pos qual ρ' ps' → LamIs qual params body scope clos ρ' f → Q (.ref f) ⟨h', G, D, t', O⟩) :
    wpAny (model prog w) A (eval (.Lambda params body scope pos) env) Q E ⟨h, G, D, t, O⟩ := by
  have g := B.gl' S
  obtain ⟨p, lo, mg, mb, T⟩ := g.T
  have C := codeHd_of_K g.X hcd
  have hP := S.muget hk
  have hmP : P ∈ mu.map (·.1) := List.mem_map_of_mem (List.mem_of_getElem? hk)
  have hbP : bm ≠ P := fun e => (S.fz _ _ hob).2.2 (by rw [e]; exact hmP)
  have hgP : mainGlobals ≠ P := fun e => by
    obtain ⟨o, es, ep, e', hd, _⟩ := T.g
    rw [e, hP] at e'; cases e'; cases hd
  have hbt : h.BuiltinsAt mg P := ⟨bm, ob, mg_of g.X T.g hbm, hne, hneG, hbP, S.get hob, hoc, hod, hop⟩
  have hLs : c.L < h.objs.size := S.F.ns.lt
  have fresh : ∀ b, c.L < b → c.h₀.get? b = none := fun b hb => Heap.get?_none_of_le (Nat.le_trans S.F.above (Nat.le_of_lt hb))
  refine kla_eval hdef ?_
  rw [hq]
  rcases hT with rfl | ⟨c', rfl, hc'⟩
  · refine kla_makeFunction (mg := mg) hcl B.hg T.g hcode C hP True.intro rfl hgP hbt fun c' ctv h' tk hx hge hlt hrec htb => ?_
    obtain ⟨c₂, oc, vs, tt, e2, hoc', hd', hv'⟩ := hrec
    cases e2
    have S1 := S.mut hk htb (fun b z hb e => hx b z hb e)
    have S2 := S1.late hoc' (Nat.ne_of_gt (Nat.lt_of_lt_of_le hLs hge)) (fun hm => by
      obtain ⟨pp, hpp, e⟩ := List.mem_map.mp (show c' ∈ mu.map (·.1) from by rw [nodup_set hk] at hm; exact hm)
      exact absurd (e ▸ Heap.lt_size (S.N pp hpp).1 : c' < h.objs.size) (Nat.not_lt.mpr hge)) (fresh _ (Nat.lt_of_lt_of_le hLs hge))
    have S3 := S2.push (kla_obj "<lambda>" qual params body scope clos ((mg "__name__").getD .none) c' ctv)
    exact q _ _ _ _ _ S3 ((Rl.le_add _ _ _).trans (Rl.le_add _ _ _)) (.inr ⟨c', rfl, oc, vs, tt, .inl (Rl.at_add _ _ _), hd', hv'⟩) ⟨_, c', ctv, Rl.at_add _ _ _, oc, vs, tt, .inl (Rl.at_add _ _ _), hd', hv'⟩
  · refine kla_makeFunctionHit (mg := mg) (cv := .ref c') hcl B.hg T.g hcode C hP (by simp [TriplesOk, rawInt]) (by simp [codeAmong, rawInt]) hbt fun ctv h' tk hkeep hsz => ?_
    have S1 := S.sub (h' := h') hkeep
    have S3 := S1.push (kla_obj "<lambda>" qual params body scope clos ((mg "__name__").getD .none) c' ctv)
    exact q _ _ _ _ #[rawInt pos.line, rawInt pos.col, .ref c'] (by rw [set_same hk]; exact S3) (Rl.le_add _ _ _) (.inr ⟨c', rfl, hc'.le (Rl.le_add _ _ _)⟩) ⟨_, c', ctv, Rl.at_add _ _ _, hc'.le (Rl.le_add _ _ _)⟩
end
section
variable {prog : Program} {w : World} {K : Frag}
theorem call_lam {qual : Str} {params : Arguments} {body : Expr} {scope : Scope} {clos : List (Str × Addr)} {f : Addr} {args : Args} {binds : List (Str × Value)}
    {ns : List Str} {l₀ : List (Option Value)} {dn un : Nat} {h : Heap} {ρ : Rl} {Post : Rl → Value → Prop} (hf : LamIs qual params body scope clos ρ f)
    (hbind : ∀ pm c' ctv, bindArgs (kla_fn "<lambda>" qual params body scope clos pm (.ref c') ctv) args = pure binds) (hloc : ∀ y ∈ binds, scope.names.lookup y.1 = some .local)
    (hns : (fun x => binds.reverse.lookup x) = lk ns l₀) (hnd : ns.Nodup) (hln : ns.length = l₀.length)
    (hco : scope.isCoroutine = false) (hgen : scope.isGenerator = false) (hk : scope.kind = .function) (hcell : ∀ x ∈ scope.names, x.2 ≠ .cell)
    (hbody : ∀ A L h₁ G D O t E cdv, Bx K ⟨h, ρ, L, ns⟩ A (envX qual scope L f cdv clos) → A.depth + dn < recursionLimit → A.units + un < cLine → St ⟨h, ρ, L, ns⟩ l₀ [] ρ h₁ →
      wpAny (model prog w) A (eval body (envX qual scope L f cdv clos)) (fun v s' => Fin ⟨h, ρ, L, ns⟩ G D O Post v s') E ⟨h₁, G, D, t, O⟩) :
    CallOK prog w K (.ref f) args (dn + 1) (un + 3) h ρ Post := by
  intro A R G D O t C hd hu hρ hR
  obtain ⟨p, loose, mg, mb, T⟩ := C.gl.T
  obtain ⟨pm, c', ctv, ho, oc, vs, tt, hc', hdc, hvc⟩ := hf
  refine kla_callFunE (s := ⟨h, G, D, t, O⟩) (by (first | lia | omega)) (hρ _ _ ho) rfl hco hgen rfl ⟨c', oc, vs, tt, rfl, hρ _ _ hc', hdc, hvc⟩ ?_
  rw [hbind]
  refine wpAny_pure (wpAny_newFunctionEnv hcell hloc (fun h₁ hns₁ hsb => ⟨T.nolimit.fresh _ hsb, ?_⟩) hk)
  have hk₁ : Sub h h₁ := fun b o e => hsb.extBut b o (Nat.ne_of_lt (Heap.lt_size e)) (Heap.get?_push_of_some _ e)
  refine kla_codeExpr (wpAny_mono (hbody _ h.objs.size h₁ G D O _ _ (.ref c') ⟨start_cx C, rfl, rfl, hk, rfl, rfl, C.hh, C.gl⟩ (by show A.depth + 1 + dn < _; (first | lia | omega)) (by show A.units + 3 + un < _; (first | lia | omega)) (start_st hρ hns₁ hk₁ hns hnd hln)) (fun v s' hf => ?_) fun _ _ x => x)
  obtain ⟨l, mu, ρ', h', t', rfl, S, P⟩ := hf
  exact hR _ h' t' ρ' S.F.keep S.le (fun a o e => S.get e) (fun a o e => S.ex a o e) P
end
end Mine
end
section
open PySem PySem.W PyProof.Rows PySem.Calls
set_option maxRecDepth 100000
namespace Mine
noncomputable def ltK (k : Nat → Int × Int) (i j : Nat) : Bool := decide ((k i).1 < (k j).1 ∨ ((k i).1 = (k j).1 ∧ (k i).2 < (k j).2))
noncomputable def runT {α : Type} (lt : Nat → Nat → Bool) : KasT α → α
  | .ret a => a
  | .ask i j f => runT lt (f (lt i j))
noncomputable def okT (n : Nat) : KasT (Array Nat) → Bool
  | .ret p => p.toList.all (· < n)
  | .ask i j f => decide (i < n) && decide (j < n) && okT n (f true) && okT n (f false)
theorem okT_run {n : Nat} {lt : Nat → Nat → Bool} : ∀ {t : KasT (Array Nat)}, okT n t = true → ∀ x ∈ (runT lt t).toList, x < n
  | .ret p, h, x, hx => by simpa using List.all_eq_true.mp h x hx
  | .ask i j f, h, x, hx => by
    simp only [okT, Bool.and_eq_true] at h
    cases q : lt i j with
    | true => exact okT_run h.1.2 x (by simpa [runT, q] using hx)
    | false => exact okT_run h.2 x (by simpa [runT, q] using hx)
theorem runT_wp {n : Nat} {lt : Nat → Nat → Bool} {cmp : Nat → Nat → (Bool → Shared → Prop) → Shared → Prop} {s : Shared} {Q : Array Nat → Shared → Prop} (hc : ∀ i j C, i < n → j < n → C (lt i j) s → cmp i j C s) :
    ∀ {t : KasT (Array Nat)}, okT n t = true → Q (runT lt t) s → t.kasWp cmp Q s
  | .ret p, _, hq => hq
  | .ask i j f, h, hq => by
    simp only [okT, Bool.and_eq_true, decide_eq_true_eq] at h
    refine hc i j _ h.1.1.1 h.1.1.2 ?_
    show (f (lt i j)).kasWp cmp Q s
    have hq' : Q (runT lt (f (lt i j))) s := hq
    cases q : lt i j with
    | true => rw [q] at hq'; exact runT_wp hc h.1.2 hq'
    | false => rw [q] at hq'; exact runT_wp hc h.2 hq'
noncomputable def KeyIs (ρ : Rl) (v : Value) (p : Int × Int) : Prop := ∃ T a b m, v = .ref T ∧ ρ T (tupO [a, b] m) ∧ IsI a p.1 ∧ IsI b p.2
theorem KeyIs.le {ρ ρ' : Rl} {v : Value} {p : Int × Int} (x : KeyIs ρ v p) (h : ρ.le ρ') : KeyIs ρ' v p := let ⟨T, a, b, m, e, f, g, i⟩ := x; ⟨T, a, b, m, e, h _ _ f, g, i⟩
noncomputable def Rfr (c : FrC) (fr : List (Addr × Obj)) : Rl := fun a o => c.ρ₀ a o ∨ (a, o) ∈ fr
theorem St.re {c : FrC} {l : List (Option Value)} {mu fr : List (Addr × Obj)} {h : Heap} (hρ : ∀ a o, c.ρ₀ a o → c.h₀.get? a = some o) (F : Fr c.h₀ c.L h (lk c.ns l)) (N : News c.h₀ c.L h (mu ++ fr)) (ln : c.ns.length = l.length) (nd : c.ns.Nodup)
    (md : (mu.map (·.1)).Nodup) (hd : ∀ p ∈ fr, p.1 ∉ mu.map (·.1)) : St c l mu (Rfr c fr) h where
  F := F
  ln := ln
  nd := nd
  N := fun p hp => N p (List.mem_append_left _ hp)
  md := md
  fz := by
    rintro a o (e | e)
    · refine ⟨F.keep _ _ (hρ a o e), Nat.ne_of_lt (Nat.lt_of_lt_of_le (Heap.lt_size (hρ a o e)) F.above), fun q => ?_⟩
      obtain ⟨p, hp, rfl⟩ := List.mem_map.mp q
      have := (N p (List.mem_append_left _ hp)).2.2
      rw [hρ _ o e] at this; cases this
    · have := N (a, o) (List.mem_append_right _ e)
      exact ⟨this.1, this.2.1, hd _ e⟩
  ex := by
    rintro a o (e | e)
    · exact .inl e
    · exact .inr (N (a, o) (List.mem_append_right _ e)).2.2
  le := fun a o e => .inl e
theorem Bx.in1 {K : Frag} {c : FrC} {A : Around} {env : Env} (B : Bx K c A env) : Bx K c A.in1 env := ⟨B.fr, B.hf, B.hl, B.hk, B.hg, B.hb, B.hh, B.gl⟩
section
variable {prog : Program} {w : World} {K : Frag} {A : Around} {E : Value → Shared → Prop} {env : Env} {c : FrC} {l : List (Option Value)} {mu : List (Addr × Obj)} {ρ : Rl} {h : Heap} {G : Array GenState} {D : Drawn} {O : OsState} {t : Nat}
theorem collect_range {s : Shared} {r : Addr} {n : Nat} {t1 t2 t3 : Tok} {Q : List Value → Shared → Prop} (hh : A.handled = none) (hr : IsRange s.heap r 0 (n : Int) 1 t1 t2 t3) (hn : n ≤ 1000)
    (hQ : ∀ h' tk vs, (∀ b o, s.heap.get? b = some o → h'.get? b = some o) → Are IsN vs (List.range n) → Q vs { s with heap := h', toks := tk }) : wpAny (model prog w) A (collect (.ref r)) Q E s := by
  have key : ∀ (R : Result → Shared → Prop), (∀ h' tk acc c', (∀ b o, s.heap.get? b = some o → h'.get? b = some o) → h'.get? s.heap.objs.size = some { cls := .type "list", dict := none, data := .seq acc c', slots := #[] } → ItemsOf (fun i v => ∃ t, v = .int (0 + i * 1) t) acc n →
      R (.ok (.ret (.ref s.heap.objs.size))) { s with heap := h', toks := tk }) → codeAny (model prog w) A (.builtin "proto.collect" ⟨[.ref r], []⟩) R s := by
    intro R hR
    refine codeAny_builtin F.entry_proto_collect ?_
    rw [Around.under_plainId F.plain_proto_collect _]
    show wpAny _ A.in1 (newList [] >>= fun l => again (.builtin "list.__iadd__" ⟨[l, .ref r], []⟩)) _ _ s
    refine wpAny_bind (wpAny_newObj_type ?_)
    refine wpAny_pure ⟨plainId_quiet F.plain_list_iadd _, codeAny_builtin F.entry_list_iadd ?_⟩
    rw [Around.under_plainId F.plain_list_iadd _]
    show wpAny _ A.in1 (Builtin.List.listExtendWith (.ref s.heap.objs.size) (.ref r) (.ref s.heap.objs.size)) _ _ _
    have hS : (s.heap.push { cls := .type "list", data := .seq ([] : List Value).toArray }).get? s.heap.objs.size = some { cls := .type "list", data := .seq #[] 0 } := Heap.get?_push_size _ rfl
    exact wpAny_extend_range (s := { s with heap := s.heap.push { cls := .type "list", data := .seq ([] : List Value).toArray } }) hh (Heap.get?_push_of_some _ hr) (small_one (by (first | lia | omega)) (by (first | lia | omega)) (by (first | lia | omega)) (by (first | lia | omega))) (n := n) (by rw [rangeSize_nat]; simp) (by (first | lia | omega)) _ _ 0 hS
      fun h' tk acc c' hk hS' hacc => hR h' tk acc c' (fun b o e => hk b o (Nat.ne_of_lt (Heap.lt_size e)) (Heap.get?_push_of_some _ e)) hS' hacc
  unfold collect
  refine wpAny_bind (wpAny_runValue (key _ fun h' tk acc c' hk hS' hacc => ?_))
  show wpAny _ A (load s.heap.objs.size >>= _) _ _ _
  refine wpAny_bind (wpAny_load hS' ?_)
  refine wpAny_pure (hQ h' tk acc.toList hk ⟨by simpa using hacc.1, fun i v x hv hx => ?_⟩)
  obtain ⟨tt, rfl⟩ := hacc.2 i v (by simpa using hv)
  have : x = i := by
    rw [List.getElem?_range] at hx
    · simpa using hx.symm
    · have := (List.getElem?_eq_some_iff.mp hx).1; simpa using this
  exact ⟨tt, by subst this; simp⟩
theorem ask_ok {bb : Bool} {key : Nat → Int × Int} {ks : List Value} {n : Nat} {s : Shared} {R : Rl} (hR : ∀ a o, R a o → s.heap.get? a = some o) (hk : Are (KeyIs R) ks ((List.range n).map key)) {i j : Nat} (hi : i < n) (hj : j < n) {C : Bool → Shared → Prop} (hC : C (ltK key i j) s) :
    kas_ask prog w A (tuples' bb) ks i j C s := by
  have at' : ∀ i, i < n → ∃ T a b m, ks.getD i Value.none = .ref T ∧ s.heap.get? T = some (tupO [a, b] m) ∧ IsI a (key i).1 ∧ IsI b (key i).2 := by
    intro i hi
    obtain ⟨v, hv, T, a, b, m, rfl, hT, ha, hb⟩ := hk.of (i := i) (x := key i) (by rw [List.getElem?_map, List.getElem?_range hi]; rfl)
    exact ⟨T, a, b, m, by rw [List.getD_eq_getElem?_getD, hv]; rfl, hR _ _ hT, ha, hb⟩
  obtain ⟨T, a, b, m, e1, g1, ⟨ta, rfl⟩, ⟨tb, rfl⟩⟩ := at' i hi
  obtain ⟨T', a', b', m', e2, g2, ⟨ta', rfl⟩, ⟨tb', rfl⟩⟩ := at' j hj
  unfold kas_ask
  rw [e1, e2]
  have less : ∀ (q : Bool) (x y : Int) (u v : Tok), C (decide (x < y)) s → wpAny (model prog w) A (oneLt' q (.int x u) (.int y v)) C (fun _ _ => False) s := by
    intro q x y u v hc
    cases q with
    | true => exact oneLt_int hc
    | false => exact kat_one _ _ (PyProof.Rows.lt_int hc)
  refine kat_lt g1 rfl g2 rfl ?_
  refine kat_cons (wpAny_eqBool_int ?_)
  by_cases h1 : (key i).1 = (key j).1
  · rw [show ((key i).1 == (key j).1) = true from by simpa using h1]
    refine kat_yes (kat_cons (wpAny_eqBool_int ?_))
    by_cases h2 : (key i).2 = (key j).2
    · rw [show ((key i).2 == (key j).2) = true from by simpa using h2]
      refine kat_yes (kat_nil ?_)
      have : ltK key i j = false := by unfold ltK; simp [h1, h2]
      rw [this] at hC
      simpa using hC
    · rw [show ((key i).2 == (key j).2) = false from by simpa using h2]
      refine kat_no (less _ _ _ _ _ ?_)
      have : ltK key i j = decide ((key i).2 < (key j).2) := by unfold ltK; simp [h1]
      rw [this] at hC; exact hC
  · rw [show ((key i).1 == (key j).1) = false from by simpa using h1]
    refine kat_no (less _ _ _ _ _ ?_)
    have : ltK key i j = decide ((key i).1 < (key j).1) := by unfold ltK; simp [h1]
    rw [this] at hC; exact hC
theorem keys_run {f : Addr} {key : Nat → Int × Int} {n dn un : Nat} {kS Dd : Addr} {e1 : Nat} {fr₀ : List (Addr × Obj)} {Fn : List Value → Nat → Shared → Prop} (B : Bx K c A env) (hρ : ∀ a o, c.ρ₀ a o → c.h₀.get? a = some o) (ln : c.ns.length = l.length) (nd : c.ns.Nodup)
    (hcall : ∀ h ρ i v, (∀ p ∈ fr₀, ρ p.1 p.2) → c.ρ₀.le ρ → i < n → IsN v i → CallOK prog w K (.ref f) ⟨[v], []⟩ dn un h ρ (fun ρ' r => KeyIs ρ' r (key i))) (hdn : A.depth + dn < recursionLimit) (hun : A.units + un < cLine)
    (md : (kS :: Dd :: mu.map (·.1)).Nodup) (fin : ∀ ks' e' fr' h' tk', (∀ p ∈ fr₀, p ∈ fr') → (∀ p ∈ fr', p.1 ∉ kS :: Dd :: mu.map (·.1)) → Fr c.h₀ c.L h' (lk c.ns l) → News c.h₀ c.L h' (((kS, seqObj "list" (List.toArray ks') e') :: (Dd, seqObj "list" #[] e1) :: mu) ++ fr') → Are (KeyIs (Rfr c fr')) ks' ((List.range n).map key) → Fn ks' e' ⟨h', G, D, tk', O⟩) :
    ∀ (r : List Value) (is done : List Nat) (ks : List Value) (e : Nat) (fr : List (Addr × Obj)) (h : Heap) (tk : Nat), Are IsN r is → done ++ is = List.range n → (∀ p ∈ fr₀, p ∈ fr) → (∀ p ∈ fr, p.1 ∉ kS :: Dd :: mu.map (·.1)) → Fr c.h₀ c.L h (lk c.ns l) →
      News c.h₀ c.L h (((kS, seqObj "list" (List.toArray ks) e) :: (Dd, seqObj "list" #[] e1) :: mu) ++ fr) → Are (KeyIs (Rfr c fr)) ks (done.map key) → KatKeys prog w A c.h₀ c.L (lk c.ns l) kS (.ref f) Fn r ks e ⟨h, G, D, tk, O⟩ := by
  intro r
  induction r with
  | nil =>
    intro is done ks e fr h tk hr hdi hsub hfr F N hks
    have : is = [] := List.length_eq_zero_iff.mp hr.1.symm
    subst this
    rw [List.append_nil] at hdi
    subst hdi
    exact KatKeys.nil (fin ks e fr h tk hsub hfr F N hks)
  | cons v r ih =>
    intro is done ks e fr h tk hr hdi hsub hfr F N hks
    obtain ⟨i, is', rfl, hv, hr'⟩ := hr.uncons
    have hi : i < n := List.mem_range.mp (by rw [← hdi]; simp)
    have S := St.re hρ F N ln nd md hfr
    refine KatKeys.cons ((hcall h (Rfr c fr) i v (fun p hp => .inr (hsub p hp)) (fun a o q => .inl q) hi hv).use B S hdn hun ?_)
    rintro k h' t' ρ' S' hle' ⟨T, a, b, m, rfl, hT, ha, hb⟩
    obtain ⟨fr', hs', hT', hN', hf'⟩ : ∃ fr', (∀ p ∈ fr, p ∈ fr') ∧ Rfr c fr' T (tupO [a, b] m) ∧ News c.h₀ c.L h' (((kS, seqObj "list" (List.toArray ks) e) :: (Dd, seqObj "list" #[] e1) :: mu) ++ fr') ∧ (∀ p ∈ fr', p.1 ∉ kS :: Dd :: mu.map (·.1)) := by
      have hNf : ∀ p ∈ fr, h'.get? p.1 = some p.2 ∧ p.1 ≠ c.L ∧ c.h₀.get? p.1 = none := fun p hp => by
        have := S'.fz p.1 p.2 (hle' _ _ (.inr hp))
        exact ⟨this.1, this.2.1, (N p (List.mem_append_right _ hp)).2.2⟩
      rcases S'.ex _ _ hT with q | q
      · refine ⟨fr, fun p hp => hp, .inl q, fun p hp => ?_, hfr⟩
        rcases List.mem_append.mp hp with hp | hp
        · exact S'.N p hp
        · exact hNf p hp
      · refine ⟨fr ++ [(T, tupO [a, b] m)], fun p hp => List.mem_append_left _ hp, .inr (List.mem_append_right _ (List.mem_singleton.mpr rfl)), fun p hp => ?_, fun p hp => ?_⟩
        · rcases List.mem_append.mp hp with hp | hp
          · exact S'.N p hp
          · rcases List.mem_append.mp hp with hp | hp
            · exact hNf p hp
            · rw [List.mem_singleton.mp hp]
              exact ⟨S'.get hT, (S'.fz _ _ hT).2.1, q⟩
        · rcases List.mem_append.mp hp with hp | hp
          · exact hfr p hp
          · rw [List.mem_singleton.mp hp]
            exact (S'.fz _ _ hT).2.2
    have hne : ∀ p ∈ ((Dd, seqObj "list" #[] e1) :: mu) ++ fr', p.1 ≠ kS := fun p hp e => by
      rcases List.mem_append.mp hp with hp | hp
      · rw [List.nodup_cons] at md
        refine md.1 ?_
        rw [← e]
        exact List.mem_map_of_mem (f := (·.1)) hp
      · exact hf' p hp (by rw [e]; simp)
    refine KatBack.intro (g := fun o => (kS, o) :: (((Dd, seqObj "list" #[] e1) :: mu) ++ fr')) S'.F hN' (.head hne) fun h2 c2 F2 N2 => ?_
    refine ih is' (done ++ [i]) (ks ++ [Value.ref T]) c2 fr' h2 t' hr' (by rw [← hdi]; simp) (fun p hp => hs' p (hsub p hp)) hf' F2 N2 ?_
    rw [List.map_append]
    exact (hks.mono fun v p q => q.le fun a o x => x.imp id (hs' _)).append (.cons ⟨T, a, b, m, rfl, hT', ha, hb⟩ .nil)
theorem R_sortKey {f r : Addr} {key : Nat → Int × Int} {n dn un : Nat} {t1 t2 t3 : Tok} {fr : List (Addr × Obj)} {Q : Value → Shared → Prop} (B : Bx K c A env) (hρ : ∀ a o, c.ρ₀ a o → c.h₀.get? a = some o) (S : St c l mu ρ h) (hr : IsRange h r 0 (n : Int) 1 t1 t2 t3)
    (h2 : 2 ≤ n) (h64 : n < 64) (hok : okT n (kas_sort n) = true) (hfr : ∀ p ∈ fr, ρ p.1 p.2 ∧ c.h₀.get? p.1 = none)
    (hcall : ∀ h ρ i v, (∀ p ∈ fr, ρ p.1 p.2) → c.ρ₀.le ρ → i < n → IsN v i → CallOK prog w K (.ref f) ⟨[v], []⟩ dn un h ρ (fun ρ' r => KeyIs ρ' r (key i))) (hdn : A.depth + dn < recursionLimit) (hun : A.units + 2 + un < cLine)
    (q : ∀ d h' t' ρ', St c l mu ρ' h' → c.ρ₀.le ρ' → (∀ p ∈ fr, ρ' p.1 p.2) → Lst IsN ρ' d (runT (ltK key) (kas_sort n)).toList → Q (.ref d) ⟨h', G, D, t', O⟩) :
    wpAny (model prog w) A (call (.builtin "sorted") [.ref r] [(Str.ofString "key", .ref f)]) Q E ⟨h, G, D, t, O⟩ := by
  refine call_function_entry_kw kind_sorted plain_sorted entry_sorted (ksk_s1 _ _) ?_
  unfold Builtin.«sorted»
  refine wpAny_bind (m := checkCount "sorted" 1 1 _) (wpAny_pure ?_)
  refine wpAny_bind (collect_range B.hh hr (by (first | lia | omega)) fun h1 tk1 vs hk1 hvs => ?_)
  have hvl : vs.length = n := by rw [hvs.1, List.length_range]
  refine wpAny_bind (wpAny_newList ?_ (by rw [sizeLine_eq]; (first | lia | omega)))
  have S1 : St c l mu ρ h1 := S.sub hk1
  have S2 := S1.sub (Sub.push h1 (seqObj "list" vs.toArray 0))
  have hoL : (h1.push (seqObj "list" vs.toArray 0)).get? h1.objs.size = some (seqObj "list" vs.toArray 0) := Heap.get?_push_size _ rfl
  have hLs : c.L < h1.objs.size := S1.F.ns.lt
  have N2 : News c.h₀ c.L (h1.push (seqObj "list" vs.toArray 0)) (mu ++ fr) := fun p hp => by
    rcases List.mem_append.mp hp with hp | hp
    · exact S2.N p hp
    · exact ⟨S2.get (hfr p hp).1, (S2.fz _ _ (hfr p hp).1).2.1, (hfr p hp).2⟩
  have hlt : ∀ p ∈ mu ++ fr, p.1 < h1.objs.size := fun p hp => by
    rcases List.mem_append.mp hp with hp | hp
    · exact Heap.lt_size (S1.N p hp).1
    · exact Heap.lt_size (S1.get (hfr p hp).1)
  refine wpAny_bind (wpAny_holding (wpAny_call_entry_kw slot_list_sort ⟨_, hoL, rfl⟩ entry_list_sort ?body (ksk_l1 _ _)))
  case body =>
    show wpAny (model prog w) A.in1.in1 (Builtin.«list.sort» ⟨[.ref h1.objs.size], [(Str.ofString "key", .ref f)]⟩) _ _ _
    rw [ksk_t1]
    refine kat_keyed (s := ⟨h1.push (seqObj "list" vs.toArray 0), G, D, tk1, O⟩) S2.F N2 hoL (Nat.ne_of_gt hLs) (Heap.get?_none_of_le (Nat.le_trans S.F.above (Nat.le_of_lt hLs))) (fun p hp => Nat.ne_of_lt (hlt p hp)) (by (first | lia | omega)) (by (first | lia | omega)) fun kS e1 h' F' N' l0 l1 => ?_
    generalize h1.objs.size = Dd at *
    have md : (kS :: Dd :: mu.map (·.1)).Nodup := by
      rw [List.nodup_cons, List.nodup_cons]
      refine ⟨fun hm => ?_, fun hm => ?_, S.md⟩
      · rcases List.mem_cons.mp hm with e | hm
        · exact Nat.ne_of_gt l0 e
        · obtain ⟨p, hp, e⟩ := List.mem_map.mp hm
          exact Nat.ne_of_lt (l1 p (List.mem_append_left _ hp)) e
      · obtain ⟨p, hp, e⟩ := List.mem_map.mp hm
        exact Nat.ne_of_lt (hlt p (List.mem_append_left _ hp)) e
    refine keys_run (A := A.in1.in1) (mu := mu) (Dd := Dd) (e1 := e1) (fr₀ := fr) B.in1.in1 hρ S.ln S.nd hcall hdn (by show A.units + 1 + 1 + un < _; (first | lia | omega)) md ?fin vs (List.range n) [] [] 0 fr h' tk1 hvs rfl (fun _ hp => hp) ?hfr F' ?N' .nil
    case hfr =>
      intro p hp hm
      have h1 := hlt p (List.mem_append_right _ hp)
      have h2 := l1 p (List.mem_append_right _ hp)
      rcases List.mem_cons.mp hm with e | hm
      · exact Nat.ne_of_lt h2 e
      · rcases List.mem_cons.mp hm with e | hm
        · exact Nat.ne_of_lt h1 e
        · exact (S.fz _ _ (hfr p hp).1).2.2 hm
    case N' => exact fun p hp => N' p (by simpa using hp)
    case fin =>
      intro ks e fr' h3 tk3 hsub hf3 F3 N3 hks
      have hkl : ks.length = n := by rw [hks.1]; simp
      have hst := St.re hρ F3 N3 S.ln S.nd md hf3
      obtain ⟨fs, hfs, hT⟩ : ∃ fs : List Value, fs.length = ks.length ∧ KatTups h3 ks fs ∧ ∀ v ∈ fs, ∃ i u, v = .int i u := by
        have : ∀ (ks : List Value) (ps : List (Int × Int)), Are (KeyIs (Rfr c fr')) ks ps → ∃ fs : List Value, fs.length = ks.length ∧ KatTups h3 ks fs ∧ ∀ v ∈ fs, ∃ i u, v = .int i u := by
          intro ks
          induction ks with
          | nil => exact fun ps _ => ⟨[], rfl, .nil, fun _ h => nomatch h⟩
          | cons k ks ih =>
            intro ps hp
            obtain ⟨p, ps', rfl, ⟨T, a, b, m, rfl, hT, ⟨ta, rfl⟩, hb⟩, hp'⟩ := hp.uncons
            obtain ⟨fs, q1, q2, q3⟩ := ih ps' hp'
            refine ⟨.int p.1 ta :: fs, by simp [q1], KatTups.cons (hst.get hT) rfl rfl rfl q2, fun v hv => ?_⟩
            rcases List.mem_cons.mp hv with rfl | hv
            · exact ⟨_, _, rfl⟩
            · exact q3 v hv
        exact this ks _ hks
      refine kat_kind (T := .type "int") hT.1 (by (first | lia | omega)) (fun v hv => ?_) (by decide) ?_
      · obtain ⟨i, u, rfl⟩ := hT.2 v hv
        exact .now
      have hrev : ∀ x : List Value, katRev false x = x := fun x => by unfold katRev; simp
      rw [hrev, hvl]
      refine runT_wp (lt := ltK key) (n := n) (fun i j C hi hj hC => ask_ok (fun a o q => hst.get q) hks hi hj hC) hok ?_
      have hpn := okT_run (lt := ltK key) hok
      generalize hpe : runT (ltK key) (kas_sort n) = p at hpn
      rw [hrev, hrev]
      have hne : ∀ p ∈ ((Dd, seqObj "list" #[] e1) :: mu) ++ fr', p.1 ≠ kS := fun p hp e => by
        rcases List.mem_append.mp hp with hp | hp
        · rw [List.nodup_cons] at md
          refine md.1 ?_
          rw [← e]
          exact List.mem_map_of_mem (f := (·.1)) hp
        · exact hf3 p hp (by rw [e]; simp)
      have hne2 : ∀ p ∈ mu ++ fr', p.1 ≠ Dd := fun p hp e => by
        rcases List.mem_append.mp hp with hp | hp
        · rw [List.nodup_cons, List.nodup_cons] at md
          refine md.2.1 ?_
          rw [← e]
          exact List.mem_map_of_mem (f := (·.1)) hp
        · exact hf3 p hp (by rw [e]; simp)
      refine KatFin.intro (g := fun o => (kS, o) :: (((Dd, seqObj "list" #[] e1) :: mu) ++ fr')) F3 N3 (.head hne) fun h4 c4 F4 N4 => ?_
      refine KasFin.intro (g := fun o => (kS, seqObj "list" #[] c4) :: (Dd, o) :: (mu ++ fr')) F4 N4 (.tail (fun e => hne (Dd, seqObj "list" #[] e1) (by simp) e.symm) (.head hne2)) fun h5 c5 F5 N5 => ?_
      refine ⟨_, rfl, wpAny_pure ⟨_, rfl, ?_⟩⟩
      rw [List.nodup_cons] at md
      have S5 : St c l ((Dd, PySem.W.listOf (List.toArray (p.toList.map fun i => vs.getD i Value.none)) c5) :: mu) (Rfr c fr') h5 := St.re hρ F5 (fun p hp => N5 p (.tail _ hp)) S.ln S.nd md.2 fun p hp q => hf3 p hp (.tail _ q)
      have S6 := S5.freeze (k := 0) rfl
      refine q Dd h5 _ _ S6 (fun a o e => .inl (.inl e)) (fun p hp => .inl (.inr (hsub p hp))) ?_
      rw [hpe]
      refine ⟨_, _, Rl.at_add _ _ _, ⟨by simp, fun i v x hv hx => ?_⟩⟩
      rw [List.getElem?_map, hx] at hv
      simp only [Option.map_some, Option.some.injEq] at hv
      subst hv
      have hxn := hpn x (List.mem_of_getElem? hx)
      obtain ⟨v, hv, hvn⟩ := hvs.of (i := x) (x := x) (by rw [List.getElem?_range hxn])
      rw [List.getD_eq_getElem?_getD, hv]
      exact hvn
end
end Mine
end
section
open PySem PySem.W PyProof.Rows PySem.Calls
set_option maxRecDepth 100000
namespace Mine
theorem slot_si_next : Slot "set_iterator" "__next__" "set_iterator.__next__" :=
  .of (owner := "set_iterator") (n := "__next__") (by rw [typeLookup_type, builtinLookup_eq_fast]; kernel_rfl) (by decide +kernel) (by decide +kernel) (by decide +kernel)
    (by first | exact .inl (by decide +kernel) | exact .inr (by decide +kernel)) (by rw [isSubtype_type]; kernel_rfl)
theorem entry_si_next : entryFor table "set_iterator.__next__" = some Builtin.«set_iterator.__next__» := entryFor_of_tree (by kernel_rfl)
theorem args_si_next (a : Value) : argsOk "set_iterator.__next__" ⟨[a], []⟩ := by unfold argsOk; kernel_rfl
theorem slot_si_iter : Slot "set_iterator" "__iter__" "set_iterator.__iter__" :=
  .of (owner := "set_iterator") (n := "__iter__") (by rw [typeLookup_type, builtinLookup_eq_fast]; kernel_rfl) (by decide +kernel) (by decide +kernel) (by decide +kernel)
    (by first | exact .inl (by decide +kernel) | exact .inr (by decide +kernel)) (by rw [isSubtype_type]; kernel_rfl)
theorem entry_set_iter : entryFor table "set.__iter__" = some Builtin.«frozenset.__iter__» := entryFor_alias (id' := "frozenset.__iter__") (by kernel_rfl) rfl (by decide +kernel) (by kernel_rfl)
noncomputable abbrev setO (es : Array (Int × Value)) (ep : Nat) (t : SetTable) : Obj := { cls := .type "set", dict := none, data := .set es ep t }
noncomputable def byTxt (w : World) : Bool := w.params.followText "set-order"
noncomputable def tab0 (led : Bool) : SetTable := .fresh 0 0 led
noncomputable def tab1 (led : Bool) (p : Nat) : SetTable := { SetTable.fresh 0 0 led with place := #[p] }
noncomputable def tab2 (led : Bool) (lo hi : Nat) : SetTable := { SetTable.fresh 0 0 led with place := #[lo, hi] }
theorem hash_small : ∀ a : _root_.Fin 32, hashInt (a.val : Int) = (a.val : Int) := by decide +kernel
theorem free0 : ∀ (led : Bool) (a : _root_.Fin 32), (tab0 led).freeSlot (a.val : Int) = some (a.val % 8, false) := by decide +kernel
theorem lay0 {led : Bool} {a : Nat} (ha : a < 32) (x : Value) : layNew (tab0 led) #[] (a : Int) x = (#[((a : Int), x)], tab1 led (a % 8), false, false) := by
  unfold layNew
  rw [free0 led ⟨a, ha⟩]
  rfl
noncomputable def chk1 (led : Bool) (p b : Nat) : Bool := match (tab1 led p).freeSlot (b : Int) with
  | some (j, false) => decide (j ≠ p) && decide (j < 8) && decide ((tab1 led p).put j = (if j < p then tab2 led j p else tab2 led p j, if j < p then 0 else 1))
  | _ => false
theorem chk1_all : ∀ (led : Bool) (p : _root_.Fin 8) (b : _root_.Fin 32), chk1 led p.val b.val = true := by decide +kernel
theorem lay1 {led : Bool} {p b : Nat} (hp : p < 8) (hb : b < 32) (e : Int × Value) (y : Value) : ∃ lo hi, lo < hi ∧ hi < 8 ∧
    (layNew (tab1 led p) #[e] (b : Int) y = (#[((b : Int), y), e], tab2 led lo hi, false, false) ∨ layNew (tab1 led p) #[e] (b : Int) y = (#[e, ((b : Int), y)], tab2 led lo hi, false, false)) := by
  have h := chk1_all led ⟨p, hp⟩ ⟨b, hb⟩
  unfold chk1 at h
  split at h
  · rename_i j hj
    simp only [Bool.and_eq_true, decide_eq_true_eq] at h
    obtain ⟨⟨h1, h2⟩, h3⟩ := h
    by_cases q : j < p
    · rw [if_pos q, if_pos q] at h3
      refine ⟨j, p, q, hp, .inl ?_⟩
      unfold layNew
      rw [hj]; dsimp only
      rw [h3]; rfl
    · rw [if_neg q, if_neg q] at h3
      refine ⟨p, j, by (first | lia | omega), h2, .inr ?_⟩
      unfold layNew
      rw [hj]; dsimp only
      rw [h3]; rfl
  · cases h
section
variable {prog : Program} {w : World} {A : Around} {E : Value → Shared → Prop} {s : Shared}
theorem ints_elems {es : Array (Int × Value)} (h : ∀ e ∈ es.toList, ∃ (i : Int) (u : Tok), e = (hashInt i, Value.int i u)) : ElemsOf (intKind prog w) es.toList := by
  intro e he
  obtain ⟨i, u, rfl⟩ := h e he
  exact ⟨⟨i, intKind_is _ _ _ _, rfl⟩, rfl⟩
theorem setAdd_new {D : Addr} {es es' : Array (Int × Value)} {ep : Nat} {t t' : SetTable} {k : Int} {u : Tok} {Q : Bool → Shared → Prop} (ho : s.heap.get? D = some (setO es ep t)) (hf : t.fits es.size = true) (hel : ElemsOf (intKind prog w) es.toList) (hb : es'.size < 100) (hb0 : es.size < 100)
    (hfind : es.toList.findIdx? (fun e => (intKind prog w).is k e.2) = none) (hL : layNew t es (hashInt k) (.int k u) = (es', t', false, false)) (hp : t'.plain = true) (htf : t'.tooFull = false)
    (hQ : Q true { s with heap := s.heap.update D (Obj.putSet es' t'), toks := s.toks + 1 }) : wpAny (model prog w) A (setAdd D (.int k u)) Q E s := by
  unfold setAdd
  refine wpAny_holding (wpAny_bind ((intKind prog w).pyHash (intKind_is _ _ _ _) ?_))
  unfold setAddHashed setAddHashedIn
  refine wpAny_holding (wpAny_bind (wpAny_setState_of (s := { s with toks := s.toks + 1 }) ho rfl hf ?_))
  dsimp only
  rw [byScan_of (knd := intKind prog w) rfl (Nat.lt_of_lt_of_le hb0 (by decide)) hel]
  simp only [↓reduceIte]
  unfold setAddByScan
  refine wpAny_bind ?_
  refine wpAny_bind (wpAny_rule ?_)
  refine wpAny_bind (wpAny_setScan_of (knd := intKind prog w) (intKind_is _ _ _ _) ho rfl hf hel ?_)
  rw [hfind]
  dsimp only
  rw [show (intKind prog w).hash k = hashInt k from rfl, hL]
  refine wpAny_bind (wpAny_pure ?_)
  dsimp only
  rw [if_pos hp]
  refine wpAny_bind ?_
  rw [hashByValue_scannable 8 rfl]
  refine wpAny_pure ?_
  simp only [plainKind, ↓reduceIte]
  refine wpAny_bind (wpAny_storeSet_of ho rfl ?_ (by rw [sizeLine_eq]; (first | lia | omega)))
  rw [htf]
  simp only [Bool.and_false, Bool.false_eq_true, ↓reduceIte]
  exact wpAny_pure (wpAny_pure hQ)
theorem setAdd_old {D : Addr} {es : Array (Int × Value)} {ep j : Nat} {t : SetTable} {k : Int} {u : Tok} {Q : Bool → Shared → Prop} (ho : s.heap.get? D = some (setO es ep t)) (hf : t.fits es.size = true) (hel : ElemsOf (intKind prog w) es.toList) (hb0 : es.size < 100)
    (hfind : es.toList.findIdx? (fun e => (intKind prog w).is k e.2) = some j)
    (hQ : Q false { s with toks := s.toks + 1 }) : wpAny (model prog w) A (setAdd D (.int k u)) Q E s := by
  unfold setAdd
  refine wpAny_holding (wpAny_bind ((intKind prog w).pyHash (intKind_is _ _ _ _) ?_))
  unfold setAddHashed setAddHashedIn
  refine wpAny_holding (wpAny_bind (wpAny_setState_of (s := { s with toks := s.toks + 1 }) ho rfl hf ?_))
  dsimp only
  rw [byScan_of (knd := intKind prog w) rfl (Nat.lt_of_lt_of_le hb0 (by decide)) hel]
  simp only [↓reduceIte]
  unfold setAddByScan
  refine wpAny_bind ?_
  refine wpAny_bind (wpAny_rule ?_)
  refine wpAny_bind (wpAny_setScan_of (knd := intKind prog w) (intKind_is _ _ _ _) ho rfl hf hel ?_)
  rw [hfind]
  exact wpAny_pure (wpAny_pure hQ)
end
structure SetOk (bt : Bool) (es : Array (Int × Value)) (t : SetTable) : Prop where
  fit : t.fits es.size = true
  plain : t.plain = true
  led : t.led = !bt
  at' : ∀ i, i < es.size → SetTable.below t.place (if i = 0 then 0 else t.place.getD (i - 1) 0 + 1) = i ∧ t.place[i]? = some (t.place.getD i 0)
  end' : SetTable.below t.place (if es.size = 0 then 0 else t.place.getD (es.size - 1) 0 + 1) = es.size
theorem below2 : ∀ (lo hi : _root_.Fin 8), lo.val < hi.val → SetTable.below #[lo.val, hi.val] 0 = 0 ∧ SetTable.below #[lo.val, hi.val] (lo.val + 1) = 1 ∧ SetTable.below #[lo.val, hi.val] (hi.val + 1) = 2 := by decide +kernel
theorem below1 : ∀ (p : _root_.Fin 8), SetTable.below #[p.val] 0 = 0 ∧ SetTable.below #[p.val] (p.val + 1) = 1 := by decide +kernel
theorem setOk1 {bt : Bool} {p : Nat} (hp : p < 8) (e : Int × Value) : SetOk bt #[e] (tab1 (!bt) p) := by
  have hb := below1 ⟨p, hp⟩
  refine ⟨rfl, rfl, rfl, fun i hi => ?_, hb.2⟩
  have : i = 0 := by simp at hi; (first | lia | omega)
  subst this
  exact ⟨hb.1, rfl⟩
theorem setOk2 {bt : Bool} {lo hi : Nat} (hl : lo < hi) (hh : hi < 8) (e f : Int × Value) : SetOk bt #[e, f] (tab2 (!bt) lo hi) := by
  have hb := below2 ⟨lo, by (first | lia | omega)⟩ ⟨hi, hh⟩ hl
  refine ⟨rfl, rfl, rfl, fun i hi => ?_, hb.2.2⟩
  have : i = 0 ∨ i = 1 := by simp at hi; (first | lia | omega)
  rcases this with rfl | rfl
  · exact ⟨hb.1, rfl⟩
  · exact ⟨hb.2.1, rfl⟩
noncomputable def valsOf (w : World) (D : Addr) (ep : Nat) (es : Array (Int × Value)) : Array (Int × Value) := if byTxt w = true then pickOrder (w.params.setOrder D ep) es else es
noncomputable def slotOf (w : World) (t : SetTable) (i : Nat) : Nat := if byTxt w = true then 0 else if i = 0 then 0 else t.place.getD (i - 1) 0 + 1
noncomputable abbrev sIter (w : World) (D : Addr) (ep : Nat) (es : Array (Int × Value)) (t : SetTable) (i : Nat) : Obj := { cls := .type "set_iterator", data := .fields #[rawInt (slotOf w t i : Nat), rawInt (i : Nat), .ref D, rawInt (es.size : Nat), rawInt (ep : Nat)] }
theorem pick1 (f : Nat → Nat) (x : Int × Value) : pickOrder f #[x] = #[x] := by
  unfold pickOrder pickOrder.go
  simp [Nat.mod_one, pickOrder.go]
theorem pick2 (f : Nat → Nat) (x y : Int × Value) : pickOrder f #[x, y] = #[x, y] ∨ pickOrder f #[x, y] = #[y, x] := by
  have h : f 0 % 2 = 0 ∨ f 0 % 2 = 1 := by (first | lia | omega)
  unfold pickOrder
  rcases h with h | h
  · left; simp [pickOrder.go, h, Nat.mod_one]
  · right; simp [pickOrder.go, h, Nat.mod_one]
section
variable {prog : Program} {w : World} {A : Around} {E : Value → Shared → Prop} {s : Shared}
theorem byText_ok {Q : Bool → Shared → Prop} (h : Q (byTxt w) s) : wpAny (model prog w) A setsByText Q E s := by
  unfold setsByText
  exact wpAny_bind (wpAny_askSetting (wpAny_pure h))
theorem setDrawn_ok {D : Addr} {es : Array (Int × Value)} {ep : Nat} {t : SetTable} {Q : Bool → Shared → Prop} (ok : SetOk (byTxt w) es t) (ho : s.heap.get? D = some (setO es ep t)) (h : Q false s) : wpAny (model prog w) A (setDrawn D) Q E s := by
  unfold setDrawn
  refine wpAny_bind (wpAny_setState_of ho rfl ok.fit ?_)
  dsimp only
  refine wpAny_bind (byText_ok (wpAny_pure ?_))
  show Q (!byTxt w && (!t.plain && decide (es.size > 1))) s
  rw [ok.plain]
  simpa using h
theorem setNext_item {D : Addr} {es : Array (Int × Value)} {ep i : Nat} {t : SetTable} {e : Int × Value} {Q : Option (Value × Nat) → Shared → Prop} (ok : SetOk (byTxt w) es t) (ho : s.heap.get? D = some (setO es ep t)) (hv : (valsOf w D ep es)[i]? = some e) (hi : i < es.size)
    (h : Q (some (e.2, slotOf w t (i + 1))) s) : wpAny (model prog w) A (setNext D (slotOf w t i) i ep) Q E s := by
  unfold setNext
  refine wpAny_bind (wpAny_setState_of ho rfl ok.fit ?_)
  dsimp only
  refine wpAny_bind (byText_ok ?_)
  unfold valsOf at hv
  unfold slotOf at h ⊢
  have hled := ok.led
  cases hb : byTxt w with
  | true =>
    rw [hb] at hv h
    simp only [↓reduceIte] at hv h ⊢
    rw [if_neg (by simp)]
    refine wpAny_bind ?_
    unfold setWalk
    refine wpAny_bind (wpAny_setState_of ho rfl ok.fit ?_)
    dsimp only
    refine wpAny_bind (byText_ok ?_)
    rw [hb]
    simp only [↓reduceIte]
    refine wpAny_bind (wpAny_askSetting (wpAny_pure ?_))
    refine wpAny_pure ?_
    show Q (((pickOrder (w.params.setOrder D ep) es)[i]?).map fun e => (e.2, 0)) s
    rw [hv]; exact h
  | false =>
    rw [hb] at hv h hled
    simp only [Bool.false_eq_true, ↓reduceIte] at hv h ⊢
    have hd : (!t.plain && decide (es.size > 1)) = false := by rw [ok.plain]; rfl
    have hat := ok.at' i hi
    refine wpAny_ite_split (fun q => absurd (show (!t.plain && decide (es.size > 1)) = true from q) (by rw [hd]; decide)) fun _ => ?_
    refine wpAny_bind ?_
    show wpAny _ _ (if (!t.led && !es.isEmpty) = true then _ else pure ()) _ _ _
    rw [if_neg (by rw [hled]; simp)]
    refine wpAny_pure (wpAny_pure ?_)
    rw [hat.1, hv, hat.2]
    simpa using h
theorem setNext_end {D : Addr} {es : Array (Int × Value)} {ep : Nat} {t : SetTable} {Q : Option (Value × Nat) → Shared → Prop} (ok : SetOk (byTxt w) es t) (ho : s.heap.get? D = some (setO es ep t)) (hz : (valsOf w D ep es).size = es.size)
    (h : Q none s) : wpAny (model prog w) A (setNext D (slotOf w t es.size) es.size ep) Q E s := by
  have hv : (valsOf w D ep es)[es.size]? = none := by rw [← hz]; simp
  unfold setNext
  refine wpAny_bind (wpAny_setState_of ho rfl ok.fit ?_)
  dsimp only
  refine wpAny_bind (byText_ok ?_)
  unfold valsOf at hv
  unfold slotOf
  have hled := ok.led
  cases hb : byTxt w with
  | true =>
    rw [hb] at hv
    simp only [↓reduceIte] at hv ⊢
    rw [if_neg (by simp)]
    refine wpAny_bind ?_
    unfold setWalk
    refine wpAny_bind (wpAny_setState_of ho rfl ok.fit ?_)
    dsimp only
    refine wpAny_bind (byText_ok ?_)
    rw [hb]
    simp only [↓reduceIte]
    refine wpAny_bind (wpAny_askSetting (wpAny_pure ?_))
    refine wpAny_pure ?_
    show Q (((pickOrder (w.params.setOrder D ep) es)[es.size]?).map fun e => (e.2, 0)) s
    rw [hv]; exact h
  | false =>
    rw [hb] at hv hled
    simp only [Bool.false_eq_true, ↓reduceIte] at hv ⊢
    have hd : (!t.plain && decide (es.size > 1)) = false := by rw [ok.plain]; rfl
    refine wpAny_ite_split (fun q => absurd (show (!t.plain && decide (es.size > 1)) = true from q) (by rw [hd]; decide)) fun _ => ?_
    refine wpAny_bind ?_
    show wpAny _ _ (if (!t.led && !es.isEmpty) = true then _ else pure ()) _ _ _
    rw [if_neg (by rw [hled]; simp)]
    refine wpAny_pure (wpAny_pure ?_)
    rw [ok.end', hv]
    exact h
end
end Mine
end
section
open PySem PySem.W PyProof.Rows PySem.Calls
set_option maxRecDepth 100000
namespace Mine
theorem slotOf0 (w : World) (t : SetTable) : slotOf w t 0 = 0 := by unfold slotOf; split <;> rfl
section
variable {prog : Program} {w : World} {A : Around} {E : Value → Shared → Prop} {s : Shared} {D I : Addr} {es : Array (Int × Value)} {ep : Nat} {t : SetTable}
theorem pyIter_set {Q : Value → Shared → Prop} (ok : SetOk (byTxt w) es t) (ho : s.heap.get? D = some (setO es ep t)) (hQ : Q (.ref s.heap.objs.size) { s with heap := s.heap.push (sIter w D ep es t 0) }) :
    wpAny (model prog w) A (pyIter (.ref D)) Q E s := by
  have hT : s.TypeIs (.ref D) "set" := ⟨_, ho, rfl⟩
  refine wpAny_pyIter_slot hT F.slot_set_iter (wpAny_call_entry F.slot_set_iter hT entry_set_iter ?_ (F.args_set_iter_1 _))
  unfold Builtin.«frozenset.__iter__» Builtin.Frozenset.slot0 slotArgs
  simp only [List.isEmpty_nil, Bool.not_true, Bool.false_eq_true, ↓reduceIte, bind_assoc, List.length_nil, bne_self_eq_false]
  unfold Builtin.Frozenset.addrOf Builtin.Frozenset.sizeOf
  refine wpAny_bind (wpAny_pure ?_)
  try dsimp only
  refine wpAny_bind (wpAny_pure ?_)
  refine wpAny_bind (wpAny_bind (wpAny_setEntries_of ho rfl ok.fit (wpAny_pure ?_)))
  refine wpAny_bind (setDrawn_ok ok ho ?_)
  simp only [Bool.false_eq_true, ↓reduceIte]
  refine wpAny_bind (wpAny_pure ?_)
  refine wpAny_bind (wpAny_setEpoch_of ho rfl ok.fit ?_)
  unfold newFields
  refine wpAny_bind (wpAny_newObj_type ?_ (by size_fits))
  refine wpAny_pure ⟨_, rfl, "set_iterator", _, ⟨_, Heap.get?_push_size _ rfl, rfl⟩, slot_si_next.lookup, ?_⟩
  have e : sIter w D ep es t 0 = { cls := .type "set_iterator", data := .fields [rawInt 0, rawInt 0, .ref D, rawInt (es.size : Nat), rawInt (ep : Nat)].toArray } := by
    unfold sIter; rw [slotOf0]; rfl
  rw [e] at hQ
  exact hQ
theorem pyNext_item {i : Nat} {e : Int × Value} {Q : Option Value → Shared → Prop} (ok : SetOk (byTxt w) es t) (ho : s.heap.get? D = some (setO es ep t)) (hit : s.heap.get? I = some (sIter w D ep es t i)) (hne : D ≠ I) (hi : i < es.size) (hv : (valsOf w D ep es)[i]? = some e)
    (hQ : ∀ h', h'.get? I = some (sIter w D ep es t (i + 1)) → Heap.SameBut I s.heap h' → Q (some e.2) { s with heap := h' }) : wpAny (model prog w) A (pyNext (.ref I)) Q E s := by
  have hT : s.TypeIs (.ref I) "set_iterator" := ⟨_, hit, rfl⟩
  unfold pyNext
  refine wpAny_bind (wpAny_attempt (wpAny_callSpecial?_slot (name := Str.ofString "__next__") hT slot_si_next
    (wpAny_call_entry slot_si_next hT entry_si_next ?_ (args_si_next _))))
  unfold Builtin.«set_iterator.__next__» slotArgs
  simp only [List.isEmpty_nil, Bool.not_true, Bool.false_eq_true, ↓reduceIte, bind_assoc, List.length_nil, bne_self_eq_false]
  refine wpAny_bind (wpAny_pure ?_)
  refine wpAny_bind (wpAny_fieldsOf hit rfl ?_)
  simp only [rawInt]
  refine wpAny_bind (wpAny_setEntries_of ho rfl ok.fit ?_)
  rw [if_neg (by simp)]
  simp only [Int.toNat_natCast]
  refine wpAny_bind (setNext_item ok ho hv hi ?_)
  dsimp only
  refine wpAny_bind (wpAny_setField_rec hit (by simp) fun h1 g1 s1 => ?_)
  refine wpAny_bind (wpAny_setField_rec (s := { s with heap := h1 }) g1 (by simp) fun h2 g2 s2 => ?_)
  exact wpAny_pure ⟨_, rfl, wpAny_pure (hQ h2 g2 (s1.trans s2))⟩
theorem pyNext_end {Q : Option Value → Shared → Prop} (hh : A.handled = none) (ok : SetOk (byTxt w) es t) (ho : s.heap.get? D = some (setO es ep t)) (hit : s.heap.get? I = some (sIter w D ep es t es.size)) (hz : (valsOf w D ep es).size = es.size)
    (hQ : ∀ h', Heap.ExtBut I s.heap h' → Q none { s with heap := h' }) : wpAny (model prog w) A (pyNext (.ref I)) Q E s := by
  have hT : s.TypeIs (.ref I) "set_iterator" := ⟨_, hit, rfl⟩
  unfold pyNext
  refine wpAny_bind (wpAny_attempt (wpAny_callSpecial?_slot (name := Str.ofString "__next__") hT slot_si_next
    (wpAny_call_entry slot_si_next hT entry_si_next ?_ (args_si_next _))))
  unfold Builtin.«set_iterator.__next__» slotArgs
  simp only [List.isEmpty_nil, Bool.not_true, Bool.false_eq_true, ↓reduceIte, bind_assoc, List.length_nil, bne_self_eq_false]
  refine wpAny_bind (wpAny_pure ?_)
  refine wpAny_bind (wpAny_fieldsOf hit rfl ?_)
  simp only [rawInt]
  refine wpAny_bind (wpAny_setEntries_of ho rfl ok.fit ?_)
  rw [if_neg (by simp)]
  simp only [Int.toNat_natCast]
  refine wpAny_bind (setNext_end ok ho hz ?_)
  dsimp only
  refine wpAny_bind (wpAny_setField hit rfl (by simp) ?_)
  show wpAny _ _ (newExc (.type "StopIteration") [] >>= _) _ _ _
  refine wpAny_bind ?_
  simp only [newExc, newTuple]
  refine wpAny_bind (wpAny_newObj_type ?_ (by size_fits))
  refine wpAny_bind (m := firstArgMember _ _) (wpAny_of_eq (a := Value.none) (by first | rfl | (simp only [firstArgMember]; rfl)) ?_)
  refine wpAny_newObj_type ?_ (by size_fits)
  simp only [raiseNew]
  refine wpAny_bind (wpAny_handled ?_)
  first | rw [show A.in1.handled = none from hh] | rw [hh]
  refine wpAny_bind (wpAny_pure (wpAny_throw ?_))
  refine wpAny_bind (wpAny_isInstance (T := "StopIteration") (b := true) ⟨_, Heap.get?_push_size _ rfl, rfl⟩ isSubtype_stop ?_)
  exact wpAny_pure (hQ _ (((Heap.SameBut.update ..).extBut.push _).push _))
end
end Mine
end
section
open PySem PySem.W PyProof.Rows PySem.Calls
set_option maxRecDepth 100000
namespace Mine
theorem entry_si_iter : entryFor table "set_iterator.__iter__" = some Builtin.«dict_keyiterator.__iter__» := entryFor_alias (id' := "dict_keyiterator.__iter__") (by kernel_rfl) rfl (by decide +kernel) (by kernel_rfl)
theorem args_si_iter (a : Value) : argsOk "set_iterator.__iter__" ⟨[a], []⟩ := by unfold argsOk; kernel_rfl
section
variable {prog : Program} {w : World} {A : Around} {E : Value → Shared → Prop} {s : Shared} {D I : Addr} {es : Array (Int × Value)} {ep : Nat} {t : SetTable}
theorem walks_set (hh : A.handled = none) (hne : D ≠ I) (ok : SetOk (byTxt w) es t) (hz : (valsOf w D ep es).size = es.size) :
    Walks prog w A I [I, D] [I] es.size (fun i v => ∃ e, (valsOf w D ep es)[i]? = some e ∧ v = e.2) (fun i h => h.get? I = some (sIter w D ep es t i) ∧ h.get? D = some (setO es ep t)) where
  sub := fun b hb => by simp at hb; simp [hb]
  frame := fun i h h' st hk => ⟨hk I (by simp) _ st.1, hk D (by simp) _ st.2⟩
  item := fun i s Q E hi st hQ => by
    have hv : (valsOf w D ep es)[i]? = some (valsOf w D ep es)[i] := Array.getElem?_eq_getElem (by (first | lia | omega))
    refine pyNext_item ok st.2 st.1 hne hi hv fun h' hit hsb => ?_
    exact hQ _ h' s.toks ⟨_, hv, rfl⟩ ⟨hit, (hsb.2 D hne).trans st.2⟩ fun b o hb e => (hsb.2 b (fun q => hb (by simp [q]))).trans e
  done := fun s Q E st hQ => pyNext_end hh ok st.2 st.1 hz fun h' he => hQ h' s.toks fun b o hb e => he b o (fun q => hb (by simp [q])) e
  self := fun i s Q E st hQ => by
    have hT : s.TypeIs (.ref I) "set_iterator" := ⟨_, st.1, rfl⟩
    refine wpAny_pyIter_slot hT slot_si_iter (wpAny_call_entry slot_si_iter hT entry_si_iter ?_ (args_si_iter _))
    show wpAny _ _ (ret (.ref I)) _ _ s
    exact wpAny_pure ⟨_, rfl, "set_iterator", _, hT, slot_si_next.lookup, hQ⟩
theorem hint_set {Q : Bool → Shared → Prop} (ho : s.heap.get? D = some (setO es ep t)) (h : Q false s) : wpAny (model prog w) A (Builtin.List.listLengthHint (.ref D)) Q E s := by
  have hT : s.TypeIs (.ref D) "set" := ⟨_, ho, rfl⟩
  unfold Builtin.List.listLengthHint
  refine wpAny_bind (wpAny_specialOf hT F.slot_set_len.lookup ?_)
  generalize hid : ("set.__len__" : String) = id0
  wp_delta
  rw [show splitId id0 = some ("set", "__len__") from by subst hid; decide +kernel]
  subst hid
  refine wpAny_bind (wpAny_isInstance (T := "set") (b := true) hT (by rw [isSubtype_type]; kernel_rfl) ?_)
  refine wpAny_ite_split (fun hab => absurd hab (by decide)) (fun _ => ?_)
  refine wpAny_ite_split (fun _ => ?_) (fun hab => absurd (by decide +kernel) hab)
  refine wpAny_bind (wpAny_typeOf hT ?_)
  exact wpAny_pure h
theorem collect_set {Q : List Value → Shared → Prop} (hh : A.handled = none) (ok : SetOk (byTxt w) es t) (ho : s.heap.get? D = some (setO es ep t)) (hz : (valsOf w D ep es).size = es.size) (hs : es.size ≤ 100)
    (hQ : ∀ h' tk vs, (∀ b o, s.heap.get? b = some o → h'.get? b = some o) → vs = (valsOf w D ep es).toList.map (·.2) → Q vs { s with heap := h', toks := tk }) : wpAny (model prog w) A (collect (.ref D)) Q E s := by
  have hDlt : D < s.heap.objs.size := Heap.lt_size ho
  have key : ∀ (R : Result → Shared → Prop), (∀ h' tk acc c', (∀ b o, s.heap.get? b = some o → h'.get? b = some o) → h'.get? s.heap.objs.size = some { cls := .type "list", dict := none, data := .seq acc c', slots := #[] } → ItemsOf (fun i v => ∃ e, (valsOf w D ep es)[i]? = some e ∧ v = e.2) acc es.size →
      R (.ok (.ret (.ref s.heap.objs.size))) { s with heap := h', toks := tk }) → codeAny (model prog w) A (.builtin "proto.collect" ⟨[.ref D], []⟩) R s := by
    intro R hR
    refine codeAny_builtin F.entry_proto_collect ?_
    rw [Around.under_plainId F.plain_proto_collect _]
    show wpAny _ A.in1 (newList [] >>= fun l => again (.builtin "list.__iadd__" ⟨[l, .ref D], []⟩)) _ _ s
    refine wpAny_bind (wpAny_newObj_type ?_)
    refine wpAny_pure ⟨plainId_quiet F.plain_list_iadd _, codeAny_builtin F.entry_list_iadd ?_⟩
    rw [Around.under_plainId F.plain_list_iadd _]
    show wpAny _ A.in1 (Builtin.List.listExtendWith (.ref s.heap.objs.size) (.ref D) (.ref s.heap.objs.size)) _ _ _
    have hS : (s.heap.push { cls := .type "list", data := .seq ([] : List Value).toArray }).get? s.heap.objs.size = some { cls := .type "list", data := .seq #[] 0 } := Heap.get?_push_size _ rfl
    have hD1 : (s.heap.push { cls := .type "list", data := .seq ([] : List Value).toArray }).get? D = some (setO es ep t) := Heap.get?_push_of_some _ ho
    generalize hH : s.heap.push { cls := .type "list", data := .seq ([] : List Value).toArray } = H at hS hD1 ⊢
    have hHs : H.objs.size = s.heap.objs.size + 1 := by rw [← hH]; exact size_push' _ _
    generalize hSe : s.heap.objs.size = S at hS hR hDlt hHs ⊢
    have hold : ∀ b o, s.heap.get? b = some o → H.get? b = some o := fun b o e => by rw [← hH]; exact Heap.get?_push_of_some _ e
    have hSr : S ≠ D := Nat.ne_of_gt hDlt
    have hDI : D ≠ H.objs.size := by rw [hHs]; exact Nat.ne_of_lt (Nat.lt_succ_of_lt hDlt)
    have hSI : S ≠ H.objs.size := by rw [hHs]; exact Nat.ne_of_lt (Nat.lt_succ_self _)
    have W := (walks_set (prog := prog) (A := A.in1) (ep := ep) hh hDI ok hz).toS
    have hSf : S ∉ [H.objs.size, D] := by simp [hSI, hSr]
    have loop : ∀ (h : Heap) (c₁ tk : Nat), h.get? H.objs.size = some (sIter w D ep es t 0) → h.get? D = some (setO es ep t) → (∀ b o, b ≠ S → H.get? b = some o → h.get? b = some o) →
        h.get? S = some { cls := .type "list", data := .seq #[] c₁ } → codeAny (model prog w) A (.builtin "list.extend.loop" ⟨[.ref S, .ref H.objs.size, .ref S], []⟩) R { s with heap := h, toks := tk } := by
      intro h c₁ tk hit hd hk hS₁
      refine codeAny_extend_loopS W (by rw [sizeLine_eq]; (first | lia | omega)) S hSf (.ref S) es.size 0 _ #[] c₁ rfl (Nat.zero_le _) ⟨hit, hd⟩ hS₁ (ItemsOf.nil _) fun s' acc' c' hm hS' hacc => ?_
      rw [Moved.eq_with hm]
      refine hR s'.heap s'.toks acc' c' (fun b o e => ?_) hS' hacc
      have hb : b < S := by rw [← hSe]; exact Heap.lt_size e
      refine hm.heap b o (fun hmem => ?_) (hk b o (Nat.ne_of_lt hb) (hold b o e))
      rcases List.mem_cons.mp hmem with e' | hmem
      · exact Nat.ne_of_lt hb e'
      · rw [List.mem_singleton.mp hmem, hHs] at hb; exact absurd hb (Nat.not_lt.mpr (Nat.le_succ _))
    unfold Builtin.List.listExtendWith
    refine wpAny_bind (wpAny_typeOf (T := "set") ⟨_, hD1, rfl⟩ ?_)
    have h1 : Builtin.List.listSameRef (.ref S) (.ref D) = false := by simp [Builtin.List.listSameRef, hSr]
    have h2 : (Value.type "set" == Value.type "list") = false := by decide
    have h3 : (Value.type "set" == Value.type "tuple") = false := by decide
    simp only [h1, h2, h3, Bool.or_false, Bool.false_eq_true, if_false]
    refine wpAny_bind (pyIter_set ok hD1 ?_)
    refine wpAny_bind (wpAny_holding (hint_set (Heap.get?_push_of_some _ hD1) ?_))
    have hS₁ := Heap.get?_push_of_some (sIter w D ep es t 0) hS
    have hit₁ : (H.push (sIter w D ep es t 0)).get? H.objs.size = some (sIter w D ep es t 0) := Heap.get?_push_size _ rfl
    have hd₁ : (H.push (sIter w D ep es t 0)).get? D = some (setO es ep t) := Heap.get?_push_of_some _ hD1
    refine wpAny_ite_split (fun _ => ?_) (fun _ => wpAny_pure ⟨plainId_quiet F.plain_extend_loop _, loop _ 0 _ hit₁ hd₁ (fun b o _ e => Heap.get?_push_of_some _ e) hS₁⟩)
    refine wpAny_bind (wpAny_rule ?_)
    refine wpAny_bind ?_
    show wpAny _ _ (updateSeq S (·.push .none) >>= fun _ => updateSeq S (·.pop)) _ _ _
    refine wpAny_bind (wpAny_updateSeq hS₁ rfl ?_)
    have hS₂ := Heap.get?_update_self (Obj.mapSeq (·.push Value.none)) hS₁ rfl
    refine wpAny_updateSeq (hz := by seq_fits) hS₂ rfl ?_
    have hS₃ := Heap.get?_update_self (Obj.mapSeq (·.pop)) hS₂ rfl
    refine wpAny_pure ⟨plainId_quiet F.plain_extend_loop _, loop _ _ _ ?_ ?_ (fun b o hb e => ?_) hS₃⟩
    · exact (Heap.get?_update_other _ _ hSI).trans ((Heap.get?_update_other _ _ hSI).trans hit₁)
    · exact (Heap.get?_update_other _ _ hSr).trans ((Heap.get?_update_other _ _ hSr).trans hd₁)
    · exact (Heap.get?_update_other _ _ (Ne.symm hb)).trans ((Heap.get?_update_other _ _ (Ne.symm hb)).trans (Heap.get?_push_of_some _ e))
  unfold collect
  refine wpAny_bind (wpAny_runValue (key _ fun h' tk acc c' hk hS' hacc => ?_))
  show wpAny _ A (load s.heap.objs.size >>= _) _ _ _
  refine wpAny_bind (wpAny_load hS' ?_)
  refine wpAny_pure (hQ h' tk acc.toList hk ?_)
  apply List.ext_getElem?
  intro i
  rw [List.getElem?_map, Array.getElem?_toList, Array.getElem?_toList]
  cases hi : acc[i]? with
  | none =>
    have : es.size ≤ i := by rw [← hacc.1]; simpa using hi
    rw [Array.getElem?_eq_none (by (first | lia | omega))]; rfl
  | some v =>
    obtain ⟨e, he, rfl⟩ := hacc.2 i v hi
    rw [he]; rfl
end
section
variable {prog : Program} {w : World} {K : Frag} {A : Around} {E : Value → Shared → Prop} {env : Env} {c : FrC} {l : List (Option Value)} {mu : List (Addr × Obj)} {ρ : Rl} {h : Heap} {G : Array GenState} {D : Drawn} {O : OsState} {t : Nat}
theorem R_sortedSet {a : Addr} {es : Array (Int × Value)} {ep : Nat} {tb : SetTable} {xs : List Int} {Q : Value → Shared → Prop} (hh : A.handled = none) (S : St c l mu ρ h) (ok : SetOk (byTxt w) es tb) (ho : h.get? a = some (setO es ep tb)) (hz : (valsOf w a ep es).size = es.size) (hs : es.size ≤ 10)
    (r : Are IsI ((valsOf w a ep es).toList.map (·.2)) xs)
    (k : ∀ d h' t' ρ' ys, St c l mu ρ' h' → ρ.le ρ' → Lst IsI ρ' d ys → ys.Perm xs → ys.Pairwise (· ≤ ·) → Q (.ref d) ⟨h', G, D, t', O⟩) :
    wpAny (model prog w) A (call (.builtin "sorted") [.ref a]) Q E ⟨h, G, D, t, O⟩ := by
  refine Calls.call_function_entry kind_sorted plain_sorted entry_sorted (args_sorted1 _) ?_
  unfold Builtin.«sorted»
  refine wpAny_bind (m := checkCount "sorted" 1 1 _) (wpAny_pure ?_)
  refine wpAny_bind (collect_set (s := ⟨h, G, D, t, O⟩) hh ok ho hz (by (first | lia | omega)) fun h1 tk vs hk hvs => ?_)
  subst hvs
  have hlen : ((valsOf w a ep es).toList.map (·.2)).length ≤ 10 := by rw [List.length_map, Array.length_toList, hz]; exact hs
  generalize (valsOf w a ep es).toList.map (·.2) = vs at r hlen
  refine wpAny_bind (wpAny_newList ?_ (by rw [sizeLine_eq]; (first | lia | omega)))
  have S1 : St c l mu ρ h1 := S.sub hk
  have hoL : (h1.push (seqObj "list" vs.toArray 0)).get? h1.objs.size = some (seqObj "list" vs.toArray 0) := Heap.get?_push_size _ rfl
  refine wpAny_bind (wpAny_holding (wpAny_call_entry slot_list_sort ⟨_, hoL, rfl⟩ entry_list_sort (list_sort_tree hoL (ints_of r) (by (first | lia | omega)) fun out ns' a1 a2 a3 => ⟨_, rfl, ?_⟩) (args_list_sort _)))
  refine wpAny_pure ⟨_, rfl, ?_⟩
  have hH : ∀ b o, h1.get? b = some o → (sortedHeap (h1.push (seqObj "list" vs.toArray 0)) h1.objs.size vs out).get? b = some o := fun b o e => by
    have hb : b < h1.objs.size := Heap.lt_size e
    unfold sortedHeap
    rw [Heap.get?_update_ne _ _ _ _ (Nat.ne_of_lt hb), Heap.get?_push_ne, Heap.get?_push_ne, Heap.get?_update_ne _ _ _ _ (Nat.ne_of_lt hb)]
    · exact Heap.get?_push_of_some _ e
    · rw [Heap.size_update, size_push']; exact Nat.ne_of_lt (Nat.lt_succ_of_lt hb)
    · rw [size_push', Heap.size_update, size_push']; exact Nat.ne_of_lt (Nat.lt_succ_of_lt (Nat.lt_succ_of_lt hb))
  obtain ⟨e, he⟩ : ∃ e, (sortedHeap (h1.push (seqObj "list" vs.toArray 0)) h1.objs.size vs out).get? h1.objs.size = some (seqObj "list" out e) := by
    unfold sortedHeap
    obtain ⟨e1, ho1⟩ : ∃ e1, ((h1.push (seqObj "list" vs.toArray 0)).update h1.objs.size (Obj.mapSeq fun _ => #[])).get? h1.objs.size = some (seqObj "list" #[] e1) := ⟨_, get?_update_seq hoL (fun _ => #[])⟩
    have ho3 : ((((h1.push (seqObj "list" vs.toArray 0)).update h1.objs.size (Obj.mapSeq fun _ => #[])).push (seqObj "tuple" vs.toArray 0)).push (seqObj "list" #[] 0)).get? h1.objs.size = some (seqObj "list" #[] e1) := Heap.get?_push_of_some _ (Heap.get?_push_of_some _ ho1)
    exact ⟨_, get?_update_seq ho3 (fun _ => out)⟩
  have he' : (sortedHeap (h1.push (seqObj "list" vs.toArray 0)) h1.objs.size vs out).get? h1.objs.size = some (lstO out.toList e) := by simpa using he
  exact k _ _ _ _ ns' (S1.new hH (fresh_size h1) he') (ρ.le_add _ _) ⟨_, _, ρ.at_add _ _, of_ints a1⟩ a2 a3
end
end Mine
end
section
open PySem PySem.W PyProof.Rows PySem.Calls
set_option maxRecDepth 100000
namespace Mine
section
variable {prog : Program} {w : World} {A : Around} {E : Value → Shared → Prop} {s : Shared}
theorem newSet_led {Q : Value → Shared → Prop} (h : Q (.ref s.heap.objs.size) { s with heap := s.heap.push (setO #[] 0 (tab0 (!byTxt w))) }) : wpAny (model prog w) A (newSet (.type "set")) Q E s := by
  unfold newSet
  refine wpAny_bind (byText_ok ?_)
  dsimp only
  simp only [newObj]
  exact wpAny_bind (wpAny_alloc (wpAny_pure h))
theorem set_core {road : DisplayRoad} {b : Bool} {elts : List (Bool × Sem Value)} {ts : List (Sem Value)} {Q : Value → Shared → Prop} (hroad : (road == .constants) = false) (hun : (road == .unsure) = false) (hs : elts.findIdx? (·.1) = none) (hlen : elts.length ≤ 30) (hm : elts.map (·.2) = ts)
    (h : wpAny (model prog w) A (evalAll ts) (fun vs s' => KdsFill (model prog w) A E false s.heap.objs.size Q vs s') E { s with heap := s.heap.push (setO #[] 0 (tab0 (!byTxt w))) }) :
    wpAny (model prog w) A (setDisplay road b elts) Q E s := by
  have hn : (if elts.length > 30 then 0 else (elts.findIdx? (·.1)).getD elts.length) = elts.length := by rw [if_neg (by (first | lia | omega)), hs]; rfl
  unfold setDisplay
  try dsimp only
  rw [if_neg (by rw [hroad]; exact Bool.false_ne_true)]
  refine wpAny_bind (newSet_led ?_)
  dsimp only
  rw [hn, List.take_length, List.drop_length, hm]
  refine wpAny_bind (wpAny_holding ?_)
  refine wpAny_bind (wpAny_mono h (fun vs s' h' => ?_) fun _ _ x => x)
  refine wpAny_bind (wpAny_holding ?_)
  refine wpAny_bind (wpAny_mono (kds_for (fun x P s hx => ?_) vs s' h') (fun _ s1 h1 => ?_) fun _ _ x => x)
  · refine wpAny_bind (wpAny_mono hx (fun _ s2 h2 => ?_) fun _ _ x => x)
    first | exact wpAny_pure ⟨rfl, h2⟩ | exact wpAny_bind (wpAny_pure (wpAny_pure ⟨rfl, h2⟩))
  · have h2 : Q (.ref s.heap.objs.size) s1 := by simpa [KdsFill] using h1
    rw [hun, if_neg Bool.false_ne_true]
    refine wpAny_pure ?_
    rw [List.forIn_nil]
    exact wpAny_pure (wpAny_pure h2)
end
section
variable {prog : Program} {w : World} {K : Frag} {A : Around} {E : Value → Shared → Prop} {env : Env} {c : FrC} {l : List (Option Value)} {mu : List (Addr × Obj)} {ρ : Rl} {h : Heap} {G : Array GenState} {D : Drawn} {O : OsState} {t : Nat}
noncomputable def SetFill (prog : Program) (w : World) (A : Around) (E : Value → Shared → Prop) (a : Addr) (Q : Value → Shared → Prop) (v1 v2 : Value) (s : Shared) : Prop := KdsFill (model prog w) A E false a Q [v1, v2] s
theorem R_Set2 {e1 e2 : Expr} {pos : Pos} {Q : Value → Shared → Prop} (B : Bx K c A env) (S : St c l mu ρ h) (hc : kdsCode K env.code = true) (hp : [e1, e2].all kdsPlain = true)
    (k : ∀ a h', St c l ((a, setO #[] 0 (tab0 (!byTxt w))) :: mu) ρ h' → wpAny (model prog w) A (eval e1 env) (fun v1 s1 => wpAny (model prog w) A (eval e2 env) (fun v2 s2 => SetFill prog w A E a Q v1 v2 s2) E s1) E ⟨h', G, D, t, O⟩) :
    wpAny (model prog w) A (eval (.Set [e1, e2] 0 pos) env) Q E ⟨h, G, D, t, O⟩ := by
  rw [arm_eval_Set]
  refine wpAny_bind (wpAny_standAt ?_)
  refine wpAny_bind (kds_main (B.gl' S).X hc fun b => ?_)
  rw [kds_star _ hp, List.map_map]
  refine set_core (ts := (evalEach [e1, e2] env).map fun t => do let v ← t; standAt pos; pure v) rfl rfl rfl (by rw [List.length_map, kds_len]; simp) rfl ?_
  refine kds_all pos [e1, e2] _ _ ?_
  exact k _ _ (S.pushMu _)
theorem R_fill2 {a : Addr} {x y : Nat} {u v : Tok} {Q : Value → Shared → Prop} (S : St c l ((a, setO #[] 0 (tab0 (!byTxt w))) :: mu) ρ h) (hx : x < 32) (hy : y < 32)
    (k : ∀ h' t' es ep tb xs, St c l mu ρ h' → h'.get? a = some (setO es ep tb) → SetOk (byTxt w) es tb → es.size ≤ 10 → (valsOf w a ep es).size = es.size → Are IsI ((valsOf w a ep es).toList.map (·.2)) xs → xs.Perm (if x = y then [(x : Int)] else [(x : Int), (y : Int)]) → Q (.ref a) ⟨h', G, D, t', O⟩) :
    SetFill prog w A E a Q (.int (x : Nat) u) (.int (y : Nat) v) ⟨h, G, D, t, O⟩ := by
  unfold SetFill
  have hxs := hash_small ⟨x, hx⟩
  have hys := hash_small ⟨y, hy⟩
  dsimp only at hxs hys
  have ho := S.muget (k := 0) rfl
  refine kds_fill_cons (setAdd_new (s := ⟨h, G, D, t, O⟩) (es := #[]) (ep := 0) (t := tab0 (!byTxt w)) (es' := #[((x : Int), .int (x : Nat) u)]) (t' := tab1 (!byTxt w) (x % 8)) ho rfl (ints_elems (by simp)) (by simp) (by simp) rfl (by rw [hxs]; exact lay0 hx _) rfl rfl ?_)
  have hg : (h.update a (Obj.putSet #[((x : Int), .int (x : Nat) u)] (tab1 (!byTxt w) (x % 8)))).get? a = some (setO #[((x : Int), .int (x : Nat) u)] 1 (tab1 (!byTxt w) (x % 8))) := Heap.get?_update_self _ ho rfl
  have hsb := Heap.SameBut.update h a (Obj.putSet #[((x : Int), .int (x : Nat) u)] (tab1 (!byTxt w) (x % 8)))
  have S1 := S.mut (k := 0) rfl hg fun b z hb e => (hsb.2 b hb).trans e
  dsimp only [List.set] at S1
  have hel : ElemsOf (intKind prog w) (#[((x : Int), Value.int (x : Nat) u)] : Array (Int × Value)).toList := ints_elems (by
    intro e he
    simp at he
    exact ⟨(x : Int), u, by rw [he, hxs]⟩)
  have h8 : x % 8 < 8 := Nat.mod_lt _ (by decide)
  by_cases hxy : x = y
  · subst hxy
    refine kds_fill_cons (setAdd_old (s := ⟨_, G, D, _, O⟩) (es := #[((x : Int), .int (x : Nat) u)]) (j := 0) hg rfl hel (by simp) (by simp [intKind, Value.isInt]) ?_)
    refine kds_fill_nil rfl ?_
    have e : valsOf w a 1 #[((x : Int), Value.int (x : Nat) u)] = #[((x : Int), Value.int (x : Nat) u)] := by
      unfold valsOf; split
      · exact pick1 _ _
      · rfl
    refine k _ _ _ _ _ [(x : Int)] (S1.drop (List.sublist_cons_self _ _)) hg (setOk1 h8 _) (by simp) (by rw [e]) (by rw [e]; exact .cons ⟨u, rfl⟩ .nil) (by rw [if_pos rfl])
  · obtain ⟨lo, hi, hlt, hhi, hL⟩ := lay1 (led := !byTxt w) h8 hy ((x : Int), Value.int (x : Nat) u) (.int (y : Nat) v)
    have hfind : (#[((x : Int), Value.int (x : Nat) u)] : Array (Int × Value)).toList.findIdx? (fun e => (intKind prog w).is (y : Int) e.2) = none := by
      have : ¬ (x : Int) = (y : Int) := by (first | lia | omega)
      simp [intKind, Value.isInt, this]
    have fin : ∀ (es : Array (Int × Value)), (es = #[((y : Int), Value.int (y : Nat) v), ((x : Int), Value.int (x : Nat) u)] ∨ es = #[((x : Int), Value.int (x : Nat) u), ((y : Int), Value.int (y : Nat) v)]) → layNew (tab1 (!byTxt w) (x % 8)) #[((x : Int), Value.int (x : Nat) u)] (y : Int) (.int (y : Nat) v) = (es, tab2 (!byTxt w) lo hi, false, false) →
        KdsFill (model prog w) A E false a Q [.int (y : Nat) v] ⟨h.update a (Obj.putSet #[((x : Int), .int (x : Nat) u)] (tab1 (!byTxt w) (x % 8))), G, D, t + 1, O⟩ := by
      intro es hes hLe
      have hsz : es.size = 2 := by rcases hes with rfl | rfl <;> rfl
      refine kds_fill_cons (setAdd_new (s := ⟨_, G, D, t + 1, O⟩) (es := #[((x : Int), .int (x : Nat) u)]) (ep := 1) (es' := es) (t' := tab2 (!byTxt w) lo hi) hg rfl hel (by (first | lia | omega)) (by simp) hfind (by rw [hys]; exact hLe) rfl rfl ?_)
      refine kds_fill_nil rfl ?_
      have hg2 := Heap.get?_update_self (Obj.putSet es (tab2 (!byTxt w) lo hi)) hg rfl
      have hsb2 := Heap.SameBut.update (h.update a (Obj.putSet #[((x : Int), .int (x : Nat) u)] (tab1 (!byTxt w) (x % 8)))) a (Obj.putSet es (tab2 (!byTxt w) lo hi))
      have S2 := S1.mut (k := 0) rfl hg2 fun b z hb e => (hsb2.2 b hb).trans e
      have hv : ∃ p q, ((p = (x, u) ∧ q = (y, v)) ∨ (p = (y, v) ∧ q = (x, u))) ∧ valsOf w a 2 es = #[((p.1 : Int), Value.int (p.1 : Nat) p.2), ((q.1 : Int), Value.int (q.1 : Nat) q.2)] := by
        unfold valsOf
        rcases hes with rfl | rfl
        · split
          · rcases pick2 (w.params.setOrder a 2) ((y : Int), Value.int (y : Nat) v) ((x : Int), Value.int (x : Nat) u) with e | e
            · exact ⟨(y, v), (x, u), .inr ⟨rfl, rfl⟩, e⟩
            · exact ⟨(x, u), (y, v), .inl ⟨rfl, rfl⟩, e⟩
          · exact ⟨(y, v), (x, u), .inr ⟨rfl, rfl⟩, rfl⟩
        · split
          · rcases pick2 (w.params.setOrder a 2) ((x : Int), Value.int (x : Nat) u) ((y : Int), Value.int (y : Nat) v) with e | e
            · exact ⟨(x, u), (y, v), .inl ⟨rfl, rfl⟩, e⟩
            · exact ⟨(y, v), (x, u), .inr ⟨rfl, rfl⟩, e⟩
          · exact ⟨(x, u), (y, v), .inl ⟨rfl, rfl⟩, rfl⟩
      obtain ⟨p, q, hpq, hv⟩ := hv
      have ok : SetOk (byTxt w) es (tab2 (!byTxt w) lo hi) := by
        rcases hes with rfl | rfl <;> exact setOk2 hlt hhi _ _
      refine k _ _ es 2 _ [(p.1 : Int), (q.1 : Int)] (S2.drop (List.sublist_cons_self _ _)) hg2 ok (by (first | lia | omega)) (by rw [hv, hsz]; rfl) (by rw [hv]; exact .cons ⟨p.2, rfl⟩ (.cons ⟨q.2, rfl⟩ .nil)) ?_
      rw [if_neg hxy]
      rcases hpq with ⟨rfl, rfl⟩ | ⟨rfl, rfl⟩
      · exact .refl _
      · exact .swap _ _ _
    rcases hL with hL | hL
    · exact fin _ (.inl rfl) hL
    · exact fin _ (.inr rfl) hL
end
end Mine
end
section
open PySem PySem.W PyProof.Rows PySem.Calls PySem.Builtin
set_option maxRecDepth 100000
namespace Mine
theorem run1 {id : String} {c : UInt8} (hc : c.toNat < 128) : _codecs.runDecoder id _codecs.asciiDecoder none true #[c] 0 [] = pure (#[c.toNat], 1) := by
  unfold _codecs.runDecoder
  simp [_codecs.asciiDecoder, hc, Std.Legacy.Range.forIn_eq_forIn_range', Std.Legacy.Range.size, _codecs.Found.char]
theorem run2 {id : String} {c d : UInt8} (hc : c.toNat < 128) (hd : d.toNat < 128) : _codecs.runDecoder id _codecs.asciiDecoder none true #[c, d] 0 [] = pure (#[c.toNat, d.toNat], 2) := by
  have hs : ¬ sizeLine = 0 := by rw [sizeLine_eq]; decide
  unfold _codecs.runDecoder
  simp [_codecs.asciiDecoder, hc, hd, hs, Std.Legacy.Range.forIn_eq_forIn_range', Std.Legacy.Range.size, List.range'_succ, _codecs.Found.char]
theorem road_ascii {id : String} {b : Array UInt8} : _codecs.decodeRoad id b (PySem.Str.ofString "ascii") none [] = (_codecs.runDecoder id _codecs.asciiDecoder none true b 0 [] >>= fun r => mkStr ⟨r.1⟩) := by kernel_rfl
theorem entry_ascii {c : UInt8} {cs : List UInt8} {t u : Tok} : «bytes.decode» ⟨[.bytes (c :: cs).toArray t, .str (PySem.Str.ofString "ascii") u], []⟩ = (mkStr (PySem.Str.ofString "utf-8") >>= fun _ => mkStr (PySem.Str.ofString "ascii") >>= fun e => mkStr (PySem.Str.ofString "bytes.decode") >>= fun d =>
    call (.builtin "_codecs.decode.text") [.bytes (c :: cs).toArray t, e, .none, d] >>= fun v => ret v) := by kernel_rfl
theorem args_decode2 (a b : Value) : argsOk "bytes.decode" ⟨[a, b], []⟩ := by unfold argsOk; kernel_rfl
theorem meets_text {b : Array UInt8} {t t1 t2 : Tok} {d x : PySem.Str} {n : Nat} (hd : ∀ id, _codecs.runDecoder id _codecs.asciiDecoder none true b 0 [] = pure (x.cps, n)) :
    Meets («_codecs.decode.text» ⟨[.bytes b t, .str (PySem.Str.ofString "ascii") t1, .none, .str d t2], []⟩) (fun _ R s => x.length ≤ sizeLine ∧ R (.ok (.ret (.str x s.toks))) { s with toks := s.toks + 1 }) := by
  refine .of_wp fun prog w A R s hS => ?_
  obtain ⟨hsz, h⟩ := hS
  show wpAny _ _ (Bytes.bytesLike _ (.bytes b t) >>= fun r => _) _ _ s
  refine wpAny_bind (wpAny_of_eq KBd.like_eq ?_)
  refine wpAny_bind (wpAny_of_eq KBd.held_eq ?_)
  show wpAny _ _ (_codecs.decodeRoad _ b (PySem.Str.ofString "ascii") none [] >>= fun v => _) _ _ s
  rw [road_ascii, hd]
  refine wpAny_bind (wpAny_bind (wpAny_pure ?_))
  exact wpAny_mkStr (wpAny_pure ⟨_, rfl, h⟩) hsz
section
variable {prog : Program} {w : World} {K : Frag} {A : Around} {E : Value → Shared → Prop} {h : Heap} {G : Array GenState} {D : Drawn} {O : OsState} {t : Nat}
theorem R_gmDecode {b : Array UInt8} {u : Tok} {pl : Sem Bool} {Q : Value × List Value → Shared → Prop} {s : Shared} (k : Q (.builtin "bytes.decode", [.bytes b u]) s) : wpAny (model prog w) A (getMethod (.bytes b u) "decode" pl) Q E s := KBd.method k
theorem R_decode {b : List UInt8} {ls : Txs} {u v : Tok} {Q : Value → Shared → Prop} (hb : b.map (·.toNat) = ls) (h1 : 1 ≤ b.length) (h2 : b.length ≤ 2) (hlt : ∀ c ∈ ls, c < 128) (k : ∀ u' t', Q (.str (stL ls) u') ⟨h, G, D, t', O⟩) :
    wpAny (model prog w) A (call (.builtin "bytes.decode") [.bytes b.toArray u, .str (PySem.Str.ofString "ascii") v]) Q E ⟨h, G, D, t, O⟩ := by
  subst hb
  obtain ⟨c, cs, rfl⟩ : ∃ c cs, b = c :: cs := by
    match b, h1 with
    | c :: cs, _ => exact ⟨c, cs, rfl⟩
  have hd : ∀ id, ∃ n, _codecs.runDecoder id _codecs.asciiDecoder none true (c :: cs).toArray 0 [] = pure ((stL ((c :: cs).map (·.toNat))).cps, n) := by
    intro id
    have hc : c.toNat < 128 := hlt _ (by simp)
    match cs, h2, hlt with
    | [], _, _ => exact ⟨1, run1 hc⟩
    | [d], _, hlt => exact ⟨2, run2 hc (hlt _ (by simp))⟩
  have hsz : (stL ((c :: cs).map (·.toNat))).length ≤ sizeLine := by
    rw [sizeLine_eq]
    show ((c :: cs).map (·.toNat)).toArray.size ≤ _
    simp only [List.size_toArray, List.length_map]; (first | lia | omega)
  refine call_meets (s := ⟨h, G, D, t, O⟩) FB.slot_bytes_decode (typeIs_bytes _ _ _) FB.entry_bytes_decode (args_decode2 _ _) (S := fun _ R s => ∀ t' k, R (.ok (.ret (.str (stL ((c :: cs).map (·.toNat))) t'))) { s with toks := k }) ?_ (fun t' k' => k t' k')
  refine .of_wp fun prog w A R s h => ?_
  rw [entry_ascii]
  refine wpAny_bind (wpAny_mkStr ?_ (by decide))
  refine wpAny_bind (wpAny_mkStr ?_ (by decide))
  refine wpAny_bind (wpAny_mkStr ?_ (by decide))
  have hd' : ∀ id, _codecs.runDecoder id _codecs.asciiDecoder none true (c :: cs).toArray 0 [] = pure ((stL ((c :: cs).map (·.toNat))).cps, (c :: cs).length) := by
    intro id
    have hc : c.toNat < 128 := hlt _ (by simp)
    match cs, h2, hlt with
    | [], _, _ => exact run1 hc
    | [d], _, hlt => exact run2 hc (hlt _ (by simp))
  exact wpAny_bind (call_function_meets KBd.kind_text KBd.plain_text KBd.entry_text (KBd.args_text _ _ _ _) (meets_text hd') ⟨hsz, wpAny_pure ⟨_, rfl, h _ _⟩⟩)
end
end Mine
end
section
open PySem PySem.W PyProof.Rows PySem.Calls
set_option maxRecDepth 100000
set_option maxHeartbeats 8000000
namespace Mine
local macro_rules | `(tactic| walk_at "ix") => `(tactic| first | exact ix0 | exact ix1 | exact ix2 | exact ix3 | exact ix4 | exact ix5 | exact ix6 | exact ix7 | exact ix8)
local macro_rules | `(tactic| walk_at "st") => `(tactic| ((with_reducible refine' R_sl ?B ?S ?hi ?k ?hx); (case S => with_reducible assumption); (case hi => with_reducible first | exact ix0 | exact ix1 | exact ix2 | exact ix3 | exact ix4 | exact ix5 | exact ix6 | exact ix7 | exact ix8 | exact ix9 | exact ix10 | exact ix11 | exact ix12 | exact ix13 | exact ix14 | exact ix15); (case B => with_reducible assumption); (case hx => exact rfl); intro _ _ _))
local macro_rules | `(tactic| walk_at "stc") => `(tactic| ((with_reducible refine' R_sc ?B ?S ?hc ?hm ?hd ?q ?hx); (case S => with_reducible assumption); (case B => with_reducible assumption); (case hx => exact rfl); (case hc => exact rfl); (case hm => walk_at "ix"); (case hd => with_reducible assumption); intro _ _ _ _ _))
local macro_rules | `(tactic| walk_at "nmz") => `(tactic| ((with_reducible refine' R_nc ?V ?S ?hc ?hm ?hd ?q ?hx ?hb); (case hx => exact rfl); (case S => with_reducible assumption); (case V => exact rfl); (case hc => exact rfl); (case hm => walk_at "ix"); (case hd => with_reducible assumption); (case hb => decide)))
local macro_rules | `(tactic| walk_at "nmc") => `(tactic| first
  | ((with_reducible refine' R_cv ?S ?hx ?k ?hk ?hl ?hd); (case S => with_reducible assumption); (case hx => with_reducible assumption); (case hk => exact rfl); (case hl => exact rfl); (case hd => decide))
  | ((with_reducible refine' R_nk' ?V ?g ?e ?k ?hx ?hd); (case V => exact compEv (Bx.ev (by with_reducible assumption)) rfl); (case g => exact Bx.gl' (by with_reducible assumption) (by with_reducible assumption)); (case e => k_is); (case hx => exact rfl); (case hd => decide))
  | walk_at "nmz"
  | ((with_reducible refine' R_nb' ?V ?g ?e ?hv ?hn ?k ?hx ?hd); (case V => exact compEv (Bx.ev (by with_reducible assumption)) rfl); (case g => exact Bx.gl' (by with_reducible assumption) (by with_reducible assumption)); (case e => k_is); (case hv => boot_fast); (case hn => decide); (case hx => exact rfl); (case hd => decide)))
local macro_rules | `(tactic| walk_at "nm") => `(tactic| first
  | ((with_reducible show wpAny _ _ (eval _ (compEnvC _ _ _ _)) _ _ _); walk_at "nmc")
  | ((with_reducible refine' R_nl ?B ?S ?hv ?k ?hx ?hd); (case hx => exact rfl); (case S => with_reducible assumption); (case B => with_reducible assumption); (case hv => exact rfl); (case hd => decide))
  | walk_at "nmz"
  | ((with_reducible refine' R_nk ?B ?S ?e ?k ?hx ?hd); (case hx => exact rfl); (case B => with_reducible assumption); (case S => with_reducible assumption); (case e => k_is); (case hd => decide))
  | ((with_reducible refine' R_nb ?B ?S ?e ?hv ?hn ?k ?hx ?hd); (case hx => exact rfl); (case B => with_reducible assumption); (case S => with_reducible assumption); (case e => k_is); (case hv => boot_fast); (case hn => decide); (case hd => decide)))
local macro_rules | `(tactic| walk_at "w") => `(tactic| first
  | ((with_reducible show wpAny _ _ (eval (Expr.Name _ _) _) _ _ _); walk_at "nm")
  | ((with_reducible show wpAny _ _ (storeName _ _ _) _ _ _); first | walk_at "st" | walk_at "stc")
  | with_reducible first | refine Z_int ?_ | refine Z_add ?_ | refine Z_sub ?_ | refine Z_neg ?_ | refine Z_str ?_ | refine Z_bytes ?_ | refine Z_subb ?_ | refine wpAny_execs_cons ?_ | refine wpAny_execs_nil ?_ | refine wpAny_Return_some ?_ | refine wpAny_BinOp ?_ | refine wpAny_UnaryOp ?_ | refine wpAny_truthy_bool ?_ | refine wpAny_If ?_ | refine wpAny_IfExp ?_ | refine wpAny_assign_Name ?_ | refine wpAny_Delete ?_ | refine wpAny_deleteEach_cons ?_ | refine wpAny_deleteEach_nil ?_ | refine wpAny_delete_Subscript ?_ | refine PyProof.Rows.BoolOp_one ?_ | refine PyProof.Rows.truthy_none ?_ | refine PyProof.Rows.kwAll_cons ?_ | refine PyProof.Rows.kwAll_nil ?_ | refine PyProof.Rows.BoolOp_and ?_ | refine PyProof.Rows.BoolOp_or ?_ | refine PyProof.Rows.is_bool ?_ | refine args_nil ?_ | refine wpAny_Constant_none ?_ | refine wpAny_Constant_bool ?_ | refine PyProof.Rows.lt_str ?_ | refine P.gt_str ?_ | refine PyProof.Rows.eq_str ?_ | refine PyProof.Rows.ne_str ?_ | refine PyProof.Rows.lt_int ?_ | refine PyProof.Rows.ge_int ?_ | refine PyProof.Rows.le_int ?_ | refine PyProof.Rows.eq_int ?_ | refine PyProof.Rows.truthy_int ?_ | refine R_cm0 ?_ | refine call_int_int ?_ | refine Subscript_ ?_ | refine R_Slice ?_ | refine R_sliceGo ?_ | refine evalPart_some_step ?_ | refine evalPart_none_step ?_ | refine R_Tuple ?_ | refine R_List ?_ | refine GM.index ?_ | refine GM.join ?_ | refine GM.lower ?_ | refine GM.upper ?_
  | ((with_reducible first | refine' wpAny_Assign_Name ?_ ?he | refine' wpAny_Compare1 ?_ ?he | refine' wpAny_isTrue_Compare1 ?_ ?he | refine' args_cons ?_ ?he | refine' wpAny_Assign_Subscript ?_ ?he | refine' Attribute_Name_ ?_ ?he | refine' plainObj_wpAny_Assign_Attribute ?_ ?he); (case he => exact rfl))
  | ((with_reducible refine' callWith_K0 ?X ?hk ?_); (case X => exact (Gl.X (Bx.gl' (by with_reducible assumption) (by with_reducible assumption)))); (case hk => k_is))
  | ((with_reducible show wpAny _ _ (call (Value.type "type") [Value.str _ _]) _ _ _); refine call_type_of (Tx := "str") rfl (by decide +kernel) ?_)
  | ((with_reducible refine' wpAny_is_self ?h ?_); (case h => exact rfl))
  | ((with_reducible refine' wpAny_isNot_self ?h ?_); (case h => exact rfl))
  | ((with_reducible show wpAny _ _ (eval (Expr.Call (Expr.Attribute _ _ _) _ (_ :: _) _) _) _ _ _); (with_reducible refine' methodCall_KW ?_ ?he); (case he => exact rfl))
  | ((with_reducible refine' R_cKW ?B ?hk ?hall ?_ ?hplain ?he); (case hplain => exact rfl); (case he => exact rfl); (case hall => exact rfl); (case B => with_reducible assumption); (case hk => k_is))
  | ((with_reducible refine' MethodCall_ ?_ ?he); (case he => exact rfl))
  | ((with_reducible show wpAny _ _ (eval (Expr.Call (Expr.Name _ _) _ [] _) _) _ _ _); (with_reducible refine' Call_ ?_ ?he); (case he => exact rfl))
  | ((with_reducible refine' Z_mul ?hm ?_); (case hm => exact IntMulOk.of_left (by decide)))
  | ((with_reducible refine' PyProof.Rows.callWith_builtin1 ?_ ?he ?hf); (case he => exact rfl); (case hf => exact rfl))
  | ((with_reducible refine' PyProof.Rows.callWith_type1 ?_ ?he ?hf); (case he => exact rfl); (case hf => exact rfl))
  | ((with_reducible refine' R_cm1 ?_ ?he ?hf); (case he => exact rfl); (case hf => exact rfl))
  | ((with_reducible refine' R_cK' ?B ?k ?_ ?he ?hf); (case he => exact rfl); (case hf => exact rfl); (case B => with_reducible assumption); (case k => k_is))
  | ((with_reducible refine' R_cKm ?B ?k ?_ ?he ?hf); (case he => exact rfl); (case hf => exact rfl); (case B => with_reducible assumption); (case k => k_is))
  | ((with_reducible show (Frag.In _ _ ∧ _)); refine And.intro (Gl.X (Bx.gl' (by with_reducible assumption) (by with_reducible assumption))) ?_)
  | ((with_reducible refine' wpAny_For ?_ ?hs); (case hs => intro _; exact rfl))
  | ((with_reducible refine' R_AssignComp ?hsw ?hclos ?hkind ?hnames ?_ ?hs); (case hsw => exact rfl); (case hclos => exact rfl); (case hkind => exact rfl); (case hnames => decide); (case hs => intro _; exact rfl))
  | ((with_reducible refine' wpAny_Expr_any ?_ ?hi ?hs); (case hi => exact rfl); (case hs => exact rfl))
  | ((with_reducible refine' Assign_Tuple_swapped ?_ ?hs ?hw); (case hs => exact rfl); (case hw => exact rfl))
  | ((with_reducible refine' wpAny_Assign_three ?_ ?hs ?hw); (case hs => exact rfl); (case hw => exact rfl))
  | ((with_reducible show wpAny _ _ (getMethod _ (Str.ofString "append") _) _ _ _); walk_at "app")
  | ((with_reducible refine' R_ListComp ?hclos ?hkind ?hnames ?_ ?hs); (case hclos => exact rfl); (case hkind => exact rfl); (case hnames => decide); (case hs => intro _; exact rfl))
  | ((with_reducible refine' Assign_Tuple ?_ ?he ?hf); (case he => exact rfl); (case hf => exact rfl))
  | ((with_reducible refine R_abs ?_); intro _ _)
  | ((with_reducible first | show wpAny _ _ (PySem.isTrue (Expr.Name _ _) _ _) _ _ _ | show wpAny _ _ (PySem.isTrue (Expr.BinOp _ _ _ _) _ _) _ _ _ | show wpAny _ _ (PySem.isTrue (Expr.Constant _ _ _) _ _) _ _ _ | show wpAny _ _ (PySem.isTrue (Expr.Call _ _ _ _) _ _) _ _ _); (with_reducible refine' isTrue_plain ?_ ?he); (case he => exact rfl)))
local macro_rules | `(tactic| walk_at "app") => `(tactic| ((with_reducible refine' R_gmAppend ?S ?hk ?q); (case S => with_reducible assumption); (case hk => walk_at "ix")))
example : (hd.heap_1 = hd.heap_1) ∧ PySem.Challenge.rw_wk0045_01 = PySem.Challenge.rw_wk0045_01 := by
  k_fill
  exact ⟨rfl, rfl⟩
noncomputable abbrev PG : Program := PySem.Challenge.rw_wk0045_01.row.prog
section
variable {prog : Program} {w : World} {K : Frag} {A : Around} {E : Value → Shared → Prop} {env : Env} {c : FrC} {l : List (Option Value)} {mu : List (Addr × Obj)} {ρ : Rl} {h : Heap} {G : Array GenState} {D : Drawn} {O : OsState} {t : Nat}
theorem binds1 {a : Str} {u : Value} (ns : List Str) : (fun x => ([(a, u)] : List (Str × Value)).reverse.lookup x) = lk (a :: ns) (some u :: ns.map fun _ => none) := by
  have hn : ∀ (ns : List Str) x, lk ns (ns.map fun _ => none) x = none := by
    intro ns x; induction ns with
    | nil => rfl
    | cons n r ih => simp only [List.map_cons, lk]; split <;> first | rfl | exact ih
  funext x
  simp only [List.reverse_cons, List.reverse_nil, List.nil_append, List.lookup, lk, hn]
  by_cases h1 : x = a
  · simp [h1]
  · have : (x == a) = false := by simpa using h1
    simp [h1, this]
theorem lk_none (ns : List Str) (x : Str) : lk ns (ns.map fun _ => none) x = none := by
  induction ns with
  | nil => rfl
  | cons n r ih => simp only [List.map_cons, lk]; split <;> first | rfl | exact ih
theorem binds2 {a b : Str} {u v : Value} (ns : List Str) (hb : b ≠ a) : (fun x => ([(a, u), (b, v)] : List (Str × Value)).reverse.lookup x) = lk (a :: b :: ns) (some u :: some v :: ns.map fun _ => none) := by
  funext x
  simp only [List.reverse_cons, List.reverse_nil, List.nil_append, List.cons_append, List.lookup, lk, lk_none]
  by_cases h1 : x = a
  · subst h1
    have : (x == b) = false := by simpa using (Ne.symm hb)
    simp [this]
  · have h1' : (x == a) = false := by simpa using h1
    by_cases h2 : x = b
    · simp [h2, hb]
    · have h2' : (x == b) = false := by simpa using h2
      simp [h1, h2, h1', h2']
theorem binds3 {a b d : Str} {u v z : Value} (ns : List Str) (hb : b ≠ a) (hd : d ≠ a) (hd' : d ≠ b) : (fun x => ([(a, u), (b, v), (d, z)] : List (Str × Value)).reverse.lookup x) = lk (a :: b :: d :: ns) (some u :: some v :: some z :: ns.map fun _ => none) := by
  funext x
  simp only [List.reverse_cons, List.reverse_nil, List.nil_append, List.cons_append, List.lookup, lk, lk_none]
  by_cases h1 : x = a
  · subst h1
    have e1 : (x == b) = false := by simpa using (Ne.symm hb)
    have e2 : (x == d) = false := by simpa using (Ne.symm hd)
    simp [e1, e2]
  · have h1' : (x == a) = false := by simpa using h1
    by_cases h2 : x = b
    · subst h2
      have e2 : (x == d) = false := by simpa using (Ne.symm hd')
      simp [e2, h1]
    · have h2' : (x == b) = false := by simpa using h2
      by_cases h3 : x = d
      · simp [h3, hd, hd']
      · have h3' : (x == d) = false := by simpa using h3
        simp [h1, h2, h3, h1', h2', h3']
theorem R_bslice {value slice : Expr} {b : Array UInt8} {tb : Tok} {x y : Value} {lo hi : Option Int} {Q : Value → Shared → Prop} (S : St c l mu ρ h) (hl : IsPart x lo) (hu : IsPart y hi) (hz : b.size ≤ 1000)
    (k : ∀ h' t' u', St c l mu ρ h' → Q (.bytes (KBy.picked b lo hi) u') ⟨h', G, D, t', O⟩)
    (hs : subscripted slice false (.bytes b tb) (.ref h.objs.size) = operate [.ref h.objs.size, .bytes b tb] (getItem (.bytes b tb) (.ref h.objs.size)) := by with_unfolding_all rfl)
    (ht : ∀ r, letTemporaryGo value (.bytes b tb) r = pure () := by intro _; with_unfolding_all rfl) :
    wpAny (model prog w) A (subscriptTail value slice (.bytes b tb) (.ref h.objs.size)) Q E ⟨h.push { cls := .type "slice", data := .fields #[x, y, .none] }, G, D, t, O⟩ :=
  tail_of_ItemOn ⟨"bytes", _, FB.slot_bytes_getitem.lookup, typeIs_bytes _ _ _, getItem_meets (typeIs_bytes _ _ _) (by decide) FB.slot_bytes_getitem FB.entry_bytes_getitem (FB.args_bytes_getitem_2 _ _) (KBc.meets_slice2 b tb _ hl hu)
    ⟨Heap.IsSliceOf.new _ _ _ _, Nat.le_trans (KBc.size_picked_le b lo hi) (by rw [sizeLine_eq]; (first | lia | omega)), fun t' k' => k _ _ _ (S.sub (Sub.push _ _))⟩⟩ hs ht
theorem R_badd {b d : Array UInt8} {u v : Tok} {Q : Value → Shared → Prop} (hz : b.size + d.size ≤ 16777216) (k : ∀ u' t', Q (.bytes (b ++ d) u') ⟨h, G, D, t', O⟩) :
    wpAny (model prog w) A (binaryOp .Add (.bytes b u) (.bytes d v)) Q E ⟨h, G, D, t, O⟩ := KBy.add_bytes hz fun u' t' => k u' t'
theorem R_divmod {a b : Int} {u v : Tok} {Q : Value → Shared → Prop} (S : St c l mu ρ h) (hb : b ≠ 0) (hp : Builtin.divisionGoesByPylong a b = false)
    (k : ∀ T h' t' u' v', h'.IsTuple T #[.int (a.fdiv b) u', .int (a.fmod b) v'] → St c l mu ρ h' → Q (.ref T) ⟨h', G, D, t', O⟩) :
    wpAny (model prog w) A (call (.builtin "divmod") [.int a u, .int b v]) Q E ⟨h, G, D, t, O⟩ :=
  divmod_int hb (k _ _ _ _ _ ⟨_, Heap.get?_push_size _ rfl, rfl, _, rfl⟩ (S.sub (Sub.push _ _))) (.inl hp)
theorem R_unpack {elts : List Expr} {n : Nat} {pos : Pos} {T : Addr} {items : Array Value} {Q : Unit → Shared → Prop} (B : Bx K c A env) (S : St c l mu ρ h) (hT : h.IsTuple T items)
    (hn : (assignEach elts env).length = items.size) (hs : (assignEach elts env).findIdx? (·.1) = none)
    (k : ∀ h', St c l mu ρ h' → wpAny (model prog w) A (assignInOrder ((assignEach elts env).map (·.2)) items.toList) Q E ⟨h', G, D, t, O⟩) :
    wpAny (model prog w) A (assign (.Tuple elts n pos) env (.ref T)) Q E ⟨h, G, D, t, O⟩ :=
  wpAny_assign_Tuple B.hh hT hn hs fun h' hx => k h' (S.sub fun b o e => hx b o (Nat.ne_of_lt (Heap.lt_size e)) e)
theorem R_unpack2 {x y : Str} {px py : Pos} {n : Nat} {pos : Pos} {T : Addr} {u v : Value} {Q : Unit → Shared → Prop} (B : Bx K c A env) (S : St c l mu ρ h) (hT : h.IsTuple T #[u, v])
    (k : ∀ h', St c l mu ρ h' → wpAny (model prog w) A (storeName env x u) (fun _ s₁ => wpAny (model prog w) A (storeName env y v) Q E s₁) E ⟨h', G, D, t, O⟩) :
    wpAny (model prog w) A (assign (.Tuple [.Name x px, .Name y py] n pos) env (.ref T)) Q E ⟨h, G, D, t, O⟩ :=
  R_unpack B S hT rfl rfl fun h' S' => wpAny_assignInOrder_more (wpAny_assign_Name (wpAny_mono (k h' S') (fun _ _ h1 => wpAny_assignInOrder_more (wpAny_assign_Name (wpAny_mono h1 (fun _ _ q => wpAny_assignInOrder_none q) fun _ _ e => e))) fun _ _ e => e))
end
theorem strcoll_ok (w : World) (a b : Str) (ta tb : Tok) (h : Heap) (ρ : Rl) :
    CallOK PG w (hd.heap_1 w.params) (.ref 200) ⟨[.str a ta, .str b tb], []⟩ 1 3 h ρ (fun _ r => ∃ t, r = .int (b2i (decide (b.cps.toList < a.cps.toList)) - b2i (decide (a.cps.toList < b.cps.toList))) t) := by
  refine' call_def0 (ns := ["a", "b"]) (l₀ := [some (.str a ta), some (.str b tb)]) (dn := 0) (un := 0) ?ho ?hcd ?hb ?hl ?hns ?hnd ?hln ?h1 ?h2 ?h3 ?h4 ?body
  case ho => k_is
  case hcd => k_is
  case hb => intro s _; exact BindsTo.of_eq rfl
  case hl => exact locs rfl
  case hns => exact binds2 [] (by decide)
  case hnd => decide
  case hln => rfl
  case h1 => rfl
  case h2 => rfl
  case h3 => rfl
  case h4 => decide
  case body =>
    intro A L h₁ G D O t E B hd hu S Q0 hQ0
    repeat (walk_at "w")
    refine hQ0 _ _ ?_; exact Fin.intro S ⟨_, rfl⟩
noncomputable def apF : Nat → Nat → List UInt8 → List UInt8
  | 0, _, acc => acc
  | f + 1, n, acc => if n = 0 then acc else apF f (n / 16) ((65 + n % 16).toUInt8 :: acc)
noncomputable def apL (n : Nat) : List UInt8 := apF 2 n []
theorem apF_zero (f : Nat) (x : List UInt8) : apF f 0 x = x := by cases f <;> simp [apF]
theorem apF_len : ∀ (f n : Nat) (x : List UInt8), x.length ≤ (apF f n x).length ∧ (n ≠ 0 → f ≠ 0 → x.length < (apF f n x).length)
  | 0, n, x => ⟨Nat.le_refl _, fun _ h => absurd rfl h⟩
  | f + 1, n, x => by
    unfold apF
    split
    · exact ⟨Nat.le_refl _, fun h => by (first | lia | omega)⟩
    · have := (apF_len f (n / 16) ((65 + n % 16).toUInt8 :: x)).1
      simp only [List.length_cons] at this
      exact ⟨by (first | lia | omega), fun _ _ => by (first | lia | omega)⟩
theorem apL_len (n : Nat) : (apL n).length ≤ 2 := by
  unfold apL apF apF apF
  (repeat' split) <;> simp
theorem picked16 : ∀ k : _root_.Fin 16, KBy.picked #[65, 66, 67, 68, 69, 70, 71, 72, 73, 74, 75, 76, 77, 78, 79, 80] (some (k.val : Int)) (some ((k.val : Int) + 1)) = #[(65 + k.val).toUInt8] := by decide +kernel
theorem int2ap_ok (w : World) (a : Int) (ta : Tok) (h : Heap) (ρ : Rl) (ha : a.natAbs < 256) :
    CallOK PG w (hd.heap_1 w.params) (.ref 193) ⟨[.int a ta], []⟩ 1 10 h ρ (fun _ r => ∃ t, r = .bytes (apL a.natAbs).toArray t) := by
  refine' call_def0 (ns := ["num", "val", "AP", "mod"]) (l₀ := [some (.int a ta), none, none, none]) (dn := 0) (un := 7) ?ho ?hcd ?hb ?hl ?hns ?hnd ?hln ?h1 ?h2 ?h3 ?h4 ?body
  case ho => k_is
  case hcd => k_is
  case hb => intro s _; exact BindsTo.of_eq rfl
  case hl => exact locs rfl
  case hns => exact binds1 ["val", "AP", "mod"]
  case hnd => decide
  case hln => rfl
  case h1 => rfl
  case h2 => rfl
  case h3 => rfl
  case h4 => decide
  case body =>
    intro A L h₁ G D O t E B hd hu S Q0 hQ0
    repeat (walk_at "w")
    rename_i S1
    have hn : (if a < 0 then -a else a) = (a.natAbs : Int) := by (first | lia | omega)
    rw [hn] at S1
    refine R_while (fun f l mu ρ' => ∃ n x, n < 16 ^ f ∧ (∃ t1 t2 t3 m, l = [some (.int (n : Nat) t1), some (.bytes x.toArray t2), some (.bytes (List.toArray [65, 66, 67, 68, 69, 70, 71, 72, 73, 74, 75, 76, 77, 78, 79, 80]) t3), m]) ∧ apF f n x = apL a.natAbs) S1 (n := 2) ⟨a.natAbs, [], by (first | lia | omega), ⟨_, _, _, _, rfl⟩, rfl⟩ ?_
    intro f l mu ρ' h t E' QW hQW S2 z136k10; refine cps fun X hX => ?_; obtain ⟨n, x, hf, ⟨t1, t2, t3, m, rfl⟩, hx⟩ := z136k10; refine hX ?_; clear hX X
    repeat (walk_at "w")
    refine R_ite (fun hz => ?_) (fun hz => ?_)
    · have hz' : n ≠ 0 := by simpa using hz
      have hf0 : f ≠ 0 := by rintro rfl; simp at hf; (first | lia | omega)
      repeat (walk_at "w")
      with_reducible refine' R_divmod ?S1 ?h0 ?hp ?_
      case S1 => assumption
      case h0 => decide
      case hp => exact PyProof.noPylong_small (by decide)
      intro T h3 t3' u3 v3 hT S3
      have e1 : ((n : Nat) : Int).fdiv 16 = ((n / 16 : Nat) : Int) := by rw [Int.fdiv_eq_ediv_of_nonneg _ (by decide)]; (first | lia | omega)
      have e2 : ((n : Nat) : Int).fmod 16 = ((n % 16 : Nat) : Int) := by rw [Int.fmod_eq_emod_of_nonneg _ (by decide)]; (first | lia | omega)
      rw [e1, e2] at hT
      with_reducible refine R_unpack2 B S3 hT ?_
      intro h4 S4
      repeat (walk_at "w")
      with_reducible refine' R_bslice ?S2 (.int _ _) (.int _ _) ?hz2 ?_ ?hs ?ht
      case S2 => assumption
      case hz2 => decide
      case hs => with_unfolding_all rfl
      case ht => intro _; with_unfolding_all rfl
      intro _ _ _ S5
      rw [picked16 ⟨n % 16, Nat.mod_lt _ (by decide)⟩]
      repeat (walk_at "w")
      have hl := (apF_len f n x).1
      rw [hx] at hl
      have hl2 := apL_len a.natAbs
      with_reducible refine R_badd ?hz3 ?_
      case hz3 => simp; (first | lia | omega)
      intro _ _
      rw [show (#[(65 + n % 16).toUInt8] : Array UInt8) ++ x.toArray = ((65 + n % 16).toUInt8 :: x).toArray from by simp]
      repeat (walk_at "w")
      rename_i S6
      obtain ⟨f, rfl⟩ := Nat.exists_eq_succ_of_ne_zero hf0
      refine hQW _ _ ?_; refine Nxt.intro S6 ⟨f, Nat.lt_succ_self _, n / 16, (65 + n % 16).toUInt8 :: x, ?_, ⟨_, _, _, _, rfl⟩, ?_⟩
      · rw [Nat.pow_succ] at hf; (first | lia | omega)
      · rw [← hx]; simp only [apF, hz', if_false]
    · have hz' : n = 0 := by simpa using hz
      subst hz'
      rw [apF_zero] at hx
      repeat (walk_at "w")
      refine hQ0 _ _ ?_; exact Fin.intro S2 ⟨_, by rw [← hx]⟩
section
variable {prog : Program} {w : World} {K : Frag} {A : Around} {E : Value → Shared → Prop} {env : Env} {c : FrC} {l : List (Option Value)} {mu : List (Addr × Obj)} {ρ : Rl} {h : Heap} {G : Array GenState} {D : Drawn} {O : OsState} {t : Nat}
theorem R_index {x y : Str} {u v : Tok} {j : Int} {Q : Value → Shared → Prop} (hA : A.handled = none) (hf : Txt.find x y = j) (hj : 0 ≤ j) (k : ∀ u' t', Q (.int j u') ⟨h, G, D, t', O⟩) :
    wpAny (model prog w) A (call (.builtin "str.index") [.str x u, .str y v]) Q E ⟨h, G, D, t, O⟩ :=
  index_or hA (fun e _ => by rw [hf] at e; (first | lia | omega)) fun _ _ => by rw [hf]; exact k _ _
end
theorem find16 : ∀ k : _root_.Fin 16, Txt.find "ABCDEFGHIJKLMNOP" ⟨#[65 + k.val]⟩ = (k.val : Int) := by decide +kernel
noncomputable def readL (cs : List Nat) : Int := cs.foldl (fun (a : Int) (c : Nat) => 16 * a + ((c : Int) - 65)) 0
theorem ascii_of {x : Str} (h : ∀ c ∈ x.cps.toList, c < 128) : strIterType x = "str_ascii_iterator" := by
  unfold strIterType
  rw [if_pos]
  rw [← Array.all_toList, List.all_eq_true]
  exact fun c hc => by simpa using h c hc
theorem read_ok (w : World) (x : Str) (tx : Tok) (h : Heap) (ρ : Rl) (hx : ∀ c ∈ x.cps.toList, 65 ≤ c ∧ c < 81) (hl : x.cps.size ≤ 8) :
    CallOK PG w (hd.heap_1 w.params) (.ref 273) ⟨[.str x tx], []⟩ 1 10 h ρ (fun _ r => ∃ t, r = .int (readL x.cps.toList) t) := by
  refine' call_def0 (ns := ["word", "number", "letter"]) (l₀ := [some (.str x tx), none, none]) (dn := 0) (un := 7) ?ho ?hcd ?hb ?hl ?hns ?hnd ?hln ?h1 ?h2 ?h3 ?h4 ?body
  case ho => k_is
  case hcd => k_is
  case hb => intro s _; exact BindsTo.of_eq rfl
  case hl => exact locs rfl
  case hns => exact binds1 ["number", "letter"]
  case hnd => decide
  case hln => rfl
  case h1 => rfl
  case h2 => rfl
  case h3 => rfl
  case h4 => decide
  case body =>
    intro A L h₁ G D O t E B hd hu S Q0 hQ0
    repeat (walk_at "w")
    with_reducible refine' R_iter_str ?hh ?S1 ?hx ?_
    case hh => exact B.hh
    case S1 => assumption
    case hx => exact ascii_of fun c hc => by have := hx c hc; (first | lia | omega)
    intro I o h2 WS T hw S2 hfz
    with_reducible refine' R_forLoop (fun i l mu ρ' => ∃ u m, l = [some (.str x tx), some (.int (readL (x.cps.toList.take i)) u), m]) T hw S2 hfz ?hJ ?turn ?done ?ht
    case hJ => exact ⟨_, _, rfl⟩
    case ht => intro _; exact rfl
    case turn =>
      intro i v l mu ρ₁ h3 t3 o3 E' QQ hQQ hi z39k12 hle S3 z39k15; refine cps fun X hX => ?_; obtain ⟨ch, tv, hc, rfl⟩ := z39k12; obtain ⟨u, m, rfl⟩ := z39k15; refine hX ?_; clear hX X
      repeat (walk_at "w")
      have hcb := hx ch (by rw [Array.mem_toList_iff]; exact Array.mem_of_getElem? hc)
      with_reducible refine' R_index (j := (ch : Int) - 65) ?hA ?hf ?hj ?_
      case hA => exact B.hh
      case hf =>
        have := find16 ⟨ch - 65, by (first | lia | omega)⟩
        simp only [show 65 + (ch - 65) = ch from by (first | lia | omega)] at this
        rw [this]; (first | lia | omega)
      case hj => (first | lia | omega)
      intro _ _
      repeat (walk_at "w")
      rename_i S4
      have e : 16 * readL (x.cps.toList.take i) + ((ch : Int) - 65) = readL (x.cps.toList.take (i + 1)) := by
        unfold readL
        rw [List.take_add_one, show x.cps.toList[i]? = some ch from by simpa using hc]
        simp
      rw [e] at S4
      refine hQQ _ _ ?_; exact Nxt.intro S4 ⟨_, rfl, Rl.le.refl _, ⟨_, _, rfl⟩⟩
    case done =>
      intro l mu ρ₁ h3 t3 hle z59k6 S3; refine cps fun X hX => ?_; obtain ⟨u, m, rfl⟩ := z59k6; refine hX ?_; clear hX X
      repeat (walk_at "w")
      refine hQ0 _ _ ?_; exact Fin.intro S3 ⟨_, by rw [List.take_of_length_le (by simp)]⟩
noncomputable abbrev ch (c : Nat) : Str := ⟨#[c]⟩
theorem bitXor16 : ∀ (a : _root_.Fin 16) (b : _root_.Fin 33), Builtin.bitXor (a.val : Int) (b.val : Int) = ((a.val ^^^ b.val : Nat) : Int) := by decide +kernel
theorem bitXor_nat {a b : Nat} (ha : a < 16) (hb : b < 33) : Builtin.bitXor (a : Int) (b : Int) = ((a ^^^ b : Nat) : Int) := bitXor16 ⟨a, ha⟩ ⟨b, hb⟩
theorem lk1 {a : Str} {u : Value} (ns : List Str) : (fun y => if y = a then some u else none) = lk (a :: ns) (some u :: ns.map fun _ => none) := by
  funext y
  simp only [lk, lk_none]
theorem let_cases {c : Nat} (h : IsLet c) : c = 75 ∨ c = 76 ∨ c = 77 ∨ c = 78 ∨ c = 107 ∨ c = 108 ∨ c = 109 ∨ c = 110 := by unfold IsLet at h; (first | lia | omega)
theorem upper_let {c : Nat} (h : IsLet c) : Txt.upper (ch c) = ch (upC c) := by
  rcases let_cases h with rfl | rfl | rfl | rfl | rfl | rfl | rfl | rfl <;> decide +kernel
theorem find_let {c : Nat} (h : IsLet c) : Txt.find "KLMN" (ch (upC c)) = (posOf c : Int) := by
  rcases let_cases h with rfl | rfl | rfl | rfl | rfl | rfl | rfl | rfl <;> decide +kernel
theorem short1 (c : Nat) : Builtin.Str.tooLong (ch c).length = false := short (show (#[c] : Array Nat).size ≤ 1000 from by simp)
theorem moved_ok (w : World) (a : Addr) (cs : List Nat) (h : Heap) (ρ : Rl) (hc : ∀ c ∈ cs, IsLet c) (hl : cs.length ≤ 4) (ha : Lst (fun v c => IsS v (ch c)) ρ a cs) :
    CallOK PG w (hd.heap_1 w.params) (.ref 288) ⟨[.ref a], []⟩ 1 10 h ρ (fun ρ' r => ∃ d, r = .ref d ∧ Lst IsN ρ' d (movedN cs)) := by
  refine' call_defC (ns := ["letters", "signed", "letter", "sets", "states"]) (l₀ := [some (.ref a), none, none, none, none]) (dn := 0) (un := 7) ?ho ?hcd ?hb ?hkd ?hndc ?hns ?hnd ?hln ?h1 ?h2 ?h3 ?body
  case ho => k_is
  case hcd => k_is
  case hb => intro s _; exact BindsTo.of_eq rfl
  case hkd => exact rfl
  case hndc => decide
  case hns => exact lk1 _
  case hnd => decide
  case hln => rfl
  case h1 => rfl
  case h2 => rfl
  case h3 => rfl
  case body =>
    intro A L h₁ G D O t cells E Y B hd hu S Q0 hQ0
    refine cps fun X hX => ?_; obtain ⟨o₁, o₂, o₃, rfl, q1, q2, q3⟩ := Y.three; refine hX ?_; clear hX X
    repeat (walk_at "w")
    with_reducible refine R_len_list (by with_reducible assumption) ha (by (first | lia | omega)) ?_
    intro _ _
    repeat (walk_at "w")
    with_reducible refine' R_pow ?p1 ?p2 ?p3 ?_
    case p1 => (first | lia | omega)
    case p2 => (first | lia | omega)
    case p3 => decide
    rw [show (2 : Int) ^ ((cs.length : Nat) : Int).toNat = ((2 ^ cs.length : Nat) : Int) from by simp]
    intro _ _
    repeat (walk_at "w")
    with_reducible refine R_listNew (by with_reducible assumption) (by simp) ?_
    intro d2 h2 S2
    repeat (walk_at "w")
    with_reducible refine' R_iter_lst ?hh ?hS (P := fun v c => IsS v (ch c)) (xs := cs) ?hL ?_
    case hh => exact B.hh
    case hS => with_reducible assumption
    case hL => exact ha.le (Rl.le_add _ _ _)
    intro I o h4 WS T hw S4 hfz
    have hmany : 2 ^ cs.length ≤ 16 := by
      have := Nat.pow_le_pow_right (n := 2) (by decide) hl
      (first | lia | omega)
    let st (i : Nat) := (cs.take i).foldl (mvStep (2 ^ cs.length)) ([0], 0)
    with_reducible refine' R_forLoop (fun i l mu ρ' => (∃ d m3 m4 m5, l = [some (.ref a), some (.ref d), m3, m4, m5] ∧ Lst IsN ρ' d (st i).1) ∧
      ∃ o₁ o₂ o₃ v t1 t2, mu = [(L + 1 + 1 + 1, o₁), (L + 1 + 1, o₂), (L + 1, o₃)] ∧ o₁.data = .cell v ∧ o₂.data = .cell (some (.int ((st i).2 : Nat) t1)) ∧ o₃.data = .cell (some (.int ((2 ^ cs.length : Nat) : Int) t2))) T hw S4 hfz ?hJ ?turn ?done ?ht
    case hJ => 
      exact ⟨⟨_, _, _, _, rfl, ⟨_, _, Rl.at_add _ _ _, .cons ⟨_, rfl⟩ .nil⟩⟩, ⟨_, _, _, _, _, _, rfl, ‹_›, ‹_›, ‹_›⟩⟩
    case ht => intro _; exact rfl
    case turn =>
      intro i v l mu ρ₁ h3 t3 o3 E' QQ hQQ hi z59k12 hle S3 z59k15; refine cps fun X hX => ?_; obtain ⟨c', hc', ⟨tv, rfl⟩⟩ := z59k12; obtain ⟨⟨d, m3, m4, m5, rfl, hd1⟩, ⟨p₁, p₂, p₃, v', t1, t2, rfl, e1, e2, e3⟩⟩ := z59k15; refine hX ?_; clear hX X
      have hlet := hc c' (List.mem_of_getElem? hc')
      have hst : st (i + 1) = mvStep (2 ^ cs.length) (st i) c' := by
        simp only [st, List.take_add_one, hc', Option.toList_some, List.foldl_append, List.foldl_cons, List.foldl_nil]
      have hlen : (st i).1.length ≤ 16 := by
        have := mv_len (2 ^ cs.length) (cs.take i) ([0], 0)
        simp only [List.length_cons, List.length_nil, List.length_take] at this
        have h2 := Nat.pow_le_pow_right (n := 2) (by decide) (show min i cs.length ≤ 4 by (first | lia | omega))
        simp only [st]; (first | lia | omega)
      repeat (walk_at "w")
      with_reducible refine R_upper (upper_let hlet) (short1 _) ?_
      intro _ _
      (repeat (walk_at "w"))
      with_reducible refine R_index B.hh (find_let hlet) (by (first | lia | omega)) ?_
      intro _ _
      (repeat (walk_at "w"))
      have hp : posOf c' < 4 := by unfold posOf; unfold IsLet at hlet; split <;> (first | lia | omega)
      have hb8 : 2 ^ posOf c' ≤ 8 := by
        have := Nat.pow_le_pow_right (n := 2) (by decide) (show posOf c' ≤ 3 by (first | lia | omega))
        (first | lia | omega)
      with_reducible refine R_pow (by (first | lia | omega)) (by (first | lia | omega)) (by decide) ?_
      rw [show (2 : Int) ^ ((posOf c' : Nat) : Int).toNat = ((2 ^ posOf c' : Nat) : Int) from by simp]
      intro _ _
      (repeat (walk_at "w"))
      with_reducible refine R_upper (upper_let hlet) (short1 _) ?_
      intro _ _
      (repeat (walk_at "w"))
      refine R_ite (fun hz => ?_) (fun hz => ?_)
      · have hup : c' < 79 := by
          by_cases q : c' < 79
          · exact q
          · simp [upC, q] at hz; (first | lia | omega)
        (repeat (walk_at "w"))
        with_reducible refine R_iter_lst B.hh (P := IsN) (xs := (st i).1) (by with_reducible assumption) hd1 ?_
        intro I2 f2 h5 WS2 T2 hw2 S5 hfz2
        ((with_reducible refine' R_fE (P := (fun _ => IsN)) (fun _ => true) (· + 2 ^ posOf c') (fun _ => IsN) ?hmx6 T2 ?hPx6 hw2 S5 hfz2 ?_ ?hcellx6 ?hkindx6 ?hxx6 ?_ ?_); (case hmx6 => first | exact fun _ _ _ _ _ q => q | exact fun _ _ _ _ hle q => q.le hle); (case hPx6 => first | exact fun _ _ ⟨z, hz, q⟩ => ⟨z, hz, fun _ _ => q⟩ | exact fun _ _ ⟨z, hz, q⟩ => ⟨z, hz, fun _ hle => q.le hle⟩); (case hcellx6 => decide); (case hkindx6 => exact rfl); (case hxx6 => exact rfl))
        · (first | lia | omega)
        · intro i v z C ρ₁ d e f' h t E' hz ⟨u, hu'⟩ hle hcv S6
          subst hu'
          refine R_noIf ⟨rfl, ?_⟩
          rw [if_pos rfl]
          (repeat (walk_at "w"))
          exact CNx.same S6 (isN_of (Int.natCast_add _ _).symm)
        intro d6 ρ6 h6 t6 hle6 hd6 S6
        (repeat (walk_at "w"))
        with_reducible refine R_cat S6 (hd1.le hle6) hd6 ?_ ?_
        · rw [filt_true, List.length_map]; (first | lia | omega)
        intro d7 h7 ρ7 S7 hle7 hd7
        (repeat (walk_at "w"))
        rename St _ _ _ _ _ => SN
        refine hQQ _ _ ?_; refine Nxt.intro SN ⟨_, rfl, hle6.trans hle7, ⟨_, _, _, _, rfl, ?_⟩, ⟨_, _, _, _, ?tk, _, rfl, ‹_›, ?h2, ‹_›⟩⟩
        · have e : (st (i + 1)).1 = (st i).1 ++ ((st i).1.filter fun _ => true).map (· + 2 ^ posOf c') := by
            rw [filt_true, hst]; unfold mvStep; rw [if_pos hup]
          rw [e]; exact hd7
        case h2 =>
          have e : (st (i + 1)).2 = (st i).2 := by
            rw [hst]; unfold mvStep; rw [if_pos hup]
          rw [e]; assumption
      · have hup : ¬ c' < 79 := by
          intro q; apply hz; simp [upC, q]
        (repeat (walk_at "w"))
        with_reducible refine R_iter_lst B.hh (P := IsN) (xs := (st i).1) (by with_reducible assumption) hd1 ?_
        intro I2 f2 h5 WS2 T2 hw2 S5 hfz2
        ((with_reducible refine' R_fE (P := (fun _ => IsN)) (fun _ => true) (fun r => (r + 2 ^ posOf c' + 2 ^ cs.length) % (2 * 2 ^ cs.length)) (fun _ => IsN) ?hmx11 T2 ?hPx11 hw2 S5 hfz2 ?_ ?hcellx11 ?hkindx11 ?hxx11 ?_ ?_); (case hmx11 => first | exact fun _ _ _ _ _ q => q | exact fun _ _ _ _ hle q => q.le hle); (case hPx11 => first | exact fun _ _ ⟨z, hz, q⟩ => ⟨z, hz, fun _ _ => q⟩ | exact fun _ _ ⟨z, hz, q⟩ => ⟨z, hz, fun _ hle => q.le hle⟩); (case hcellx11 => decide); (case hkindx11 => exact rfl); (case hxx11 => exact rfl))
        · (first | lia | omega)
        · intro i v z C ρ₁ d e f' h t E' hz ⟨u, hu'⟩ hle hcv S6
          subst hu'
          refine R_noIf ⟨rfl, ?_⟩
          rw [if_pos rfl]
          (repeat (walk_at "w"))
          with_reducible refine R_mod ?_ ?_
          · have := Nat.two_pow_pos cs.length; (first | lia | omega)
          intro _ _
          refine CNx.same S6 (isN_of ?_)
          rw [← fmod_nat]; push_cast; rfl
        intro d6 ρ6 h6 t6 hle6 hd6 S6
        (repeat (walk_at "w"))
        with_reducible refine R_cat S6 (hd1.le hle6) hd6 ?_ ?_
        · rw [filt_true, List.length_map]; (first | lia | omega)
        intro d7 h7 ρ7 S7 hle7 hd7
        (repeat (walk_at "w"))
        rename St _ _ _ _ _ => SN
        rename Obj.data _ = Data.cell (some (Value.int (_ + _) _)) => e9
        have e1 : (st (i + 1)).1 = (st i).1 ++ ((st i).1.filter fun _ => true).map (fun r => (r + 2 ^ posOf c' + 2 ^ cs.length) % (2 * 2 ^ cs.length)) := by
          rw [filt_true, hst]; unfold mvStep; rw [if_neg hup]
        have e2 : (st (i + 1)).2 = (st i).2 + 2 ^ posOf c' := by
          rw [hst]; unfold mvStep; rw [if_neg hup]
        rw [← Int.natCast_add, ← e2] at e9
        rw [← e1] at hd7
        refine hQQ _ _ ?_; exact Nxt.intro SN ⟨_, rfl, hle6.trans hle7, ⟨_, _, _, _, rfl, hd7⟩, ⟨_, _, _, _, _, _, rfl, ‹_›, e9, ‹_›⟩⟩
    case done => 
      intro l mu ρ₁ h3 t3 hle z151k6 S3; refine cps fun X hX => ?_; obtain ⟨⟨d, m3, m4, m5, rfl, hd1⟩, ⟨p₁, p₂, p₃, v', t1, t2, rfl, e1, e2, e3⟩⟩ := z151k6; refine hX ?_; clear hX X
      rw [show st cs.length = cs.foldl (mvStep (2 ^ cs.length)) ([0], 0) from by simp only [st, List.take_length]] at hd1 e2
      have hflen : (cs.foldl (mvStep (2 ^ cs.length)) ([0], 0)).1.length ≤ 16 := by
        rw [mv_len]; simp only [List.length_cons, List.length_nil]; (first | lia | omega)
      have hflip : (cs.foldl (mvStep (2 ^ cs.length)) ([0], 0)).2 < 33 := by
        have := mv_flip (2 ^ cs.length) cs ([0], 0) hc
        simp only at this; (first | lia | omega)
      have hmv : movedN cs = movedN cs := rfl
      conv at hmv => { rhs; unfold movedN }
      simp only at hmv
      rw [hmv] at hQ0
      clear hmv
      generalize cs.foldl (mvStep (2 ^ cs.length)) ([0], 0) = fin at hd1 e2 hflen hflip hQ0
      have hpos : 0 < 2 ^ cs.length := Nat.two_pow_pos _
      (repeat (walk_at "w"))
      with_reducible refine R_iter_lst B.hh (P := IsN) (xs := fin.1) (by with_reducible assumption) hd1 ?_
      intro I2 f2 h5 WS2 T2 hw2 S5 hfz2
      ((with_reducible refine' R_fA (j := 3) B ?hjx16 ?hkx16 (P := (fun _ => IsN)) (fun _ => true) (· % 2 ^ cs.length) (fun _ => IsN) ?hmx16 T2 ?hPx16 hw2 S5 hfz2 ?_ ?hcellx16 ?hkindx16 ?hxx16 ?_ ?_); (case hjx16 => exact rfl); (case hkx16 => exact rfl); (case hmx16 => first | exact fun _ _ _ _ _ q => q | exact fun _ _ _ _ hle q => q.le hle); (case hPx16 => first | exact fun _ _ ⟨z, hz, q⟩ => ⟨z, hz, fun _ _ => q⟩ | exact fun _ _ ⟨z, hz, q⟩ => ⟨z, hz, fun _ hle => q.le hle⟩); (case hcellx16 => decide); (case hkindx16 => exact rfl); (case hxx16 => exact rfl))
      · (first | lia | omega)
      · intro i v z C ρ₁ d e f' h t E' hz ⟨u, hu'⟩ hle hcv S6
        subst hu'
        refine R_noIf ⟨rfl, ?_⟩
        rw [if_pos rfl]
        (repeat (walk_at "w"))
        with_reducible refine R_mod ?_ ?_
        · (first | lia | omega)
        intro _ _
        exact CNx.same S6 (isN_of (fmod_nat _ _))
      intro d6 ρ6 h6 t6 hle6 hd6 S6
      rw [filt_true] at hd6
      (repeat (walk_at "w"))
      with_reducible refine R_iter_lst B.hh (P := IsN) (xs := fin.1.map (· % 2 ^ cs.length)) (by with_reducible assumption) hd6 ?_
      intro I3 f3 h7 WS3 T3 hw3 S7 hfz3
      ((with_reducible refine' R_fA (j := 4) B ?hjx19 ?hkx19 (P := (fun _ => IsN)) (fun _ => true) (· ^^^ fin.2) (fun _ => IsN) ?hmx19 T3 ?hPx19 hw3 S7 hfz3 ?_ ?hcellx19 ?hkindx19 ?hxx19 ?_ ?_); (case hjx19 => exact rfl); (case hkx19 => exact rfl); (case hmx19 => first | exact fun _ _ _ _ _ q => q | exact fun _ _ _ _ hle q => q.le hle); (case hPx19 => first | exact fun _ _ ⟨z, hz, q⟩ => ⟨z, hz, fun _ _ => q⟩ | exact fun _ _ ⟨z, hz, q⟩ => ⟨z, hz, fun _ hle => q.le hle⟩); (case hcellx19 => decide); (case hkindx19 => exact rfl); (case hxx19 => exact rfl))
      · rw [List.length_map]; (first | lia | omega)
      · intro i v z C ρ₁ d e f' h t E' hz ⟨u, hu'⟩ hle hcv S6
        subst hu'
        refine R_noIf ⟨rfl, ?_⟩
        rw [if_pos rfl]
        (repeat (walk_at "w"))
        with_reducible refine R_xor ?_
        intro _ _
        refine CNx.same S6 (isN_of (bitXor_nat ?_ hflip))
        refine cps fun X hX => ?_; obtain ⟨z', _, rfl⟩ := List.mem_map.mp (List.mem_of_getElem? hz); refine hX ?_; clear hX X
        exact Nat.lt_of_lt_of_le (Nat.mod_lt _ hpos) hmany
      intro d8 ρ8 h8 t8 hle8 hd8 S8
      rw [filt_true] at hd8
      (repeat (walk_at "w"))
      with_reducible refine R_iter_lst B.hh (P := IsN) (xs := fin.1.map (· % 2 ^ cs.length)) (by with_reducible assumption) (hd6.le hle8) ?_
      intro I4 f4 h9 WS4 T4 hw4 S9 hfz4
      ((with_reducible refine' R_fE (P := (fun _ => IsN)) (fun _ => true) (2 ^ cs.length + ·) (fun _ => IsN) ?hmx22 T4 ?hPx22 hw4 S9 hfz4 ?_ ?hcellx22 ?hkindx22 ?hxx22 ?_ ?_); (case hmx22 => first | exact fun _ _ _ _ _ q => q | exact fun _ _ _ _ hle q => q.le hle); (case hPx22 => first | exact fun _ _ ⟨z, hz, q⟩ => ⟨z, hz, fun _ _ => q⟩ | exact fun _ _ ⟨z, hz, q⟩ => ⟨z, hz, fun _ hle => q.le hle⟩); (case hcellx22 => decide); (case hkindx22 => exact rfl); (case hxx22 => exact rfl))
      · rw [List.length_map]; (first | lia | omega)
      · intro i v z C ρ₁ d e f' h t E' hz ⟨u, hu'⟩ hle hcv S6
        subst hu'
        refine R_noIf ⟨rfl, ?_⟩
        rw [if_pos rfl]
        (repeat (walk_at "w"))
        exact CNx.same S6 (isN_of (Int.natCast_add _ _).symm)
      intro d10 ρ10 h10 t10 hle10 hd10 S10
      rw [filt_true] at hd10
      (repeat (walk_at "w"))
      with_reducible refine R_cat S10 (hd8.le hle10) hd10 ?_ ?_
      · simp; (first | lia | omega)
      intro d11 h11 ρ11 S11 hle11 hd11
      (repeat (walk_at "w"))
      with_reducible refine R_iter_lst B.hh (P := IsN) (xs := fin.1) (by with_reducible assumption) (hd1.le (((hle6.trans hle8).trans hle10).trans hle11)) ?_
      intro I5 f5 h12 WS5 T5 hw5 S12 hfz5
      ((with_reducible refine' R_fE (P := (fun _ => IsN)) (fun _ => true) (2 * 2 ^ cs.length + ·) (fun _ => IsN) ?hmx26 T5 ?hPx26 hw5 S12 hfz5 ?_ ?hcellx26 ?hkindx26 ?hxx26 ?_ ?_); (case hmx26 => first | exact fun _ _ _ _ _ q => q | exact fun _ _ _ _ hle q => q.le hle); (case hPx26 => first | exact fun _ _ ⟨z, hz, q⟩ => ⟨z, hz, fun _ _ => q⟩ | exact fun _ _ ⟨z, hz, q⟩ => ⟨z, hz, fun _ hle => q.le hle⟩); (case hcellx26 => decide); (case hkindx26 => exact rfl); (case hxx26 => exact rfl))
      · (first | lia | omega)
      · intro i v z C ρ₁ d e f' h t E' hz ⟨u, hu'⟩ hle hcv S6
        subst hu'
        refine R_noIf ⟨rfl, ?_⟩
        rw [if_pos rfl]
        (repeat (walk_at "w"))
        refine CNx.same S6 (isN_of ?_)
        push_cast; rfl
      intro d13 ρ13 h13 t13 hle13 hd13 S13
      rw [filt_true] at hd13
      (repeat (walk_at "w"))
      with_reducible refine R_cat S13 (hd11.le hle13) hd13 ?_ ?_
      · simp; (first | lia | omega)
      intro d14 h14 ρ14 S14 hle14 hd14
      (repeat (walk_at "w"))
      with_reducible refine R_iter_lst B.hh (P := IsN) (xs := fin.1) (by with_reducible assumption) (hd1.le (((((hle6.trans hle8).trans hle10).trans hle11).trans hle13).trans hle14)) ?_
      intro I6 f6 h15 WS6 T6 hw6 S15 hfz6
      ((with_reducible refine' R_fE (P := (fun _ => IsN)) (fun _ => true) (fun r => 2 * 2 ^ cs.length + (r + 2 ^ cs.length) % (2 * 2 ^ cs.length)) (fun _ => IsN) ?hmx30 T6 ?hPx30 hw6 S15 hfz6 ?_ ?hcellx30 ?hkindx30 ?hxx30 ?_ ?_); (case hmx30 => first | exact fun _ _ _ _ _ q => q | exact fun _ _ _ _ hle q => q.le hle); (case hPx30 => first | exact fun _ _ ⟨z, hz, q⟩ => ⟨z, hz, fun _ _ => q⟩ | exact fun _ _ ⟨z, hz, q⟩ => ⟨z, hz, fun _ hle => q.le hle⟩); (case hcellx30 => decide); (case hkindx30 => exact rfl); (case hxx30 => exact rfl))
      · (first | lia | omega)
      · intro i v z C ρ₁ d e f' h t E' hz ⟨u, hu'⟩ hle hcv S6
        subst hu'
        refine R_noIf ⟨rfl, ?_⟩
        rw [if_pos rfl]
        (repeat (walk_at "w"))
        with_reducible refine R_mod ?_ ?_
        · (first | lia | omega)
        intro _ _
        (repeat (walk_at "w"))
        refine CNx.same S6 (isN_of ?_)
        rw [Int.natCast_add, ← fmod_nat]; push_cast; rfl
      intro d16 ρ16 h16 t16 hle16 hd16 S16
      rw [filt_true] at hd16
      (repeat (walk_at "w"))
      with_reducible refine R_cat S16 (hd14.le hle16) hd16 ?_ ?_
      · simp; (first | lia | omega)
      intro d17 h17 ρ17 S17 hle17 hd17
      (repeat (walk_at "w"))
      refine hQ0 _ _ ?_; exact Fin.intro S17 ⟨_, rfl, hd17⟩
noncomputable def RowIs (ρ : Rl) (v : Value) (row : List Nat) : Prop := ∃ a, v = .ref a ∧ Lst IsN ρ a row
theorem RowIs.le {ρ ρ' : Rl} {v : Value} {row : List Nat} (x : RowIs ρ v row) (hle : ρ.le ρ') : RowIs ρ' v row := let ⟨a, e, q⟩ := x; ⟨a, e, q.le hle⟩
theorem lt_int_iff {a b : Int} : (decide (a < b) = true) ↔ a < b := by simp
noncomputable def KindsOf (ρ : Rl) (r : Value) (label : List Int) (rows : List (List Nat)) : Prop := ∃ T u v n, r = .ref T ∧ ρ T (tupO [.ref u, .ref v] n) ∧ Lst IsI ρ u label ∧ Lst (RowIs ρ) ρ v rows
theorem kinds_ok (w : World) (a : Addr) (moves : List (List Nat)) (n : Nat) (h : Heap) (ρ : Rl) (hm : MovesOK n moves) (hn : n ≤ 1000) (h0 : moves ≠ []) (hml : moves.length ≤ 1000) (ha : Lst (RowIs ρ) ρ a moves) :
    CallOK PG w (hd.heap_1 w.params) (.ref 295) ⟨[.ref a], []⟩ 1 10 h ρ (fun ρ' r => ∃ label rows, KindsOf ρ' r label rows ∧ Kinds moves n n label rows) := by
  refine' call_def0 (ns := ["moves", "label", "rows", "first", "row", "at", "move", "to"]) (l₀ := [some (.ref a), none, none, none, none, none, none, none]) (dn := 0) (un := 7) ?ho ?hcd ?hb ?hl ?hns ?hnd ?hln ?h1 ?h2 ?h3 ?h4 ?body
  case ho => k_is
  case hcd => k_is
  case hb => intro s _; exact BindsTo.of_eq rfl
  case hl => exact locs rfl
  case hns => exact binds1 _
  case hnd => decide
  case hln => rfl
  case h1 => rfl
  case h2 => rfl
  case h3 => rfl
  case h4 => decide
  case body =>
    intro A L h₁ G D O t E B hd hu S Q0 hQ0
    refine cps fun X hX => ?_; obtain ⟨m0, ms, rfl⟩ := List.exists_cons_of_ne_nil h0; refine hX ?_; clear hX X
    (repeat (walk_at "w"))
    with_reducible refine R_listNew (by with_reducible assumption) (by simp) ?_
    intro d2 h2 S2
    (repeat (walk_at "w"))
    with_reducible refine R_item (i := 0) (x := m0) S2 (ha.le (Rl.le_add _ _ _)) (by (first | lia | omega)) (by (first | lia | omega)) rfl ?_ (by (first | exact rfl | with_unfolding_all rfl | (intro _; exact rfl) | (intro _; with_unfolding_all rfl))) (by (first | exact rfl | with_unfolding_all rfl | (intro _; exact rfl) | (intro _; with_unfolding_all rfl)))
    intro v z28k1; refine cps fun X hX => ?_; obtain ⟨b, rfl, hb⟩ := z28k1; refine hX ?_; clear hX X
    (repeat (walk_at "w"))
    with_reducible refine R_len_list S2 (hb.le (Rl.le_add _ _ _)) ?_ ?_
    · rw [(hm m0 (by simp)).1]; (first | lia | omega)
    intro _ _
    rw [(hm m0 (by simp)).1]
    (repeat (walk_at "w"))
    with_reducible refine R_rep S2 (S2.get (Rl.at_add _ _ _)) ?_ ?_
    · (first | lia | omega)
    intro la h3 S3
    (repeat (walk_at "w"))
    with_reducible refine R_listNewMu (by with_reducible assumption) (by simp) ?_
    intro ra h4 S4
    (repeat (walk_at "w"))
    rename St _ _ _ _ _ => S5
    with_reducible refine R_len (S5.muget (k := 1) rfl) ?_ ?_
    · rw [List.length_replicate]; (first | lia | omega)
    rw [List.length_replicate]
    intro _ _
    (repeat (walk_at "w"))
    with_reducible refine R_range S5 ?_
    intro rg h6 t6 ρ6 u1 u2 u3 S6 hle6 hrg
    (repeat (walk_at "w"))
    with_reducible refine R_iter_range B.hh S6 hrg ?_ ?_
    · (first | lia | omega)
    intro I o h7 WS T hw S7 hfz
    with_reducible refine' R_forLoop (fun i l mu ρ' => ∃ rvs lvs label rows n1 n2, (∃ m3 m4 m5 m6 m7, l = [some (.ref a), some (.ref la), some (.ref ra), m3, m4, m5, m6, m7]) ∧ mu = [(ra, lstO rvs n1), (la, lstO lvs n2)] ∧
      Are IsI lvs label ∧ Are (RowIs ρ') rvs rows ∧ Kinds (m0 :: ms) n i label rows ∧ label.length = n ∧ rows.length ≤ i) T hw S7 hfz ?hJ ?turn ?done ?ht
    case hJ => 
      exact ⟨_, _, _, _, _, _, ⟨_, _, _, _, _, rfl⟩, rfl, Are.rep ⟨_, rfl⟩ n, .nil, .zero, by simp, by simp⟩
    case ht => intro _; exact rfl
    case turn =>
      intro i v l mu ρ₁ h8 t8 o8 E' QQ hQQ hi z60k12 hle S8 z60k15; refine cps fun X hX => ?_; obtain ⟨tv, rfl⟩ := z60k12; obtain ⟨rvs, lvs, label, rows, n1, n2, ⟨m3, m4, m5, m6, m7, rfl⟩, rfl, hI, hR, hK, hlen, hrl⟩ := z60k15; refine hX ?_; clear hX X
      have hlv : label[i]? = some (label.getD i 0) := by
        rw [List.getD_eq_getElem?_getD, List.getElem?_eq_getElem (by (first | lia | omega))]; rfl
      refine cps fun X hX => ?_; obtain ⟨lv, hlv', ⟨lt, rfl⟩⟩ := hI.of hlv; refine hX ?_; clear hX X
      (repeat (walk_at "w"))
      rename St _ _ _ _ _ => S9
      with_reducible refine R_litem (S9.muget (k := 2) rfl) (by (first | lia | omega)) (by (first | lia | omega)) (x := .int (label.getD i 0) lt) (by simpa using hlv') ?_ (by (first | exact rfl | with_unfolding_all rfl | (intro _; exact rfl) | (intro _; with_unfolding_all rfl))) (by (first | exact rfl | with_unfolding_all rfl | (intro _; exact rfl) | (intro _; with_unfolding_all rfl)))
      (repeat (walk_at "w"))
      refine R_ite (fun hz => ?_) (fun hz => ?_)
      · have hneg : label.getD i 0 < 0 := by simpa using hz
        have hrlen : rvs.length = rows.length := hR.len
        (repeat (walk_at "w"))
        with_reducible refine R_len (S9.muget (k := 1) rfl) (by (first | lia | omega)) ?_
        rw [hrlen]
        intro tk _
        (repeat (walk_at "w"))
        with_reducible refine R_setItem (k := 2) S9 rfl (by (first | lia | omega)) (by (first | lia | omega)) (by have := hI.len; (first | lia | omega)) ?_
        intro h10 n10 S10
        rw [Int.toNat_natCast] at S10
        (repeat (walk_at "w"))
        with_reducible refine R_listNewMu (by with_reducible assumption) (by simp) ?_
        intro rw' h11 S11
        (repeat (walk_at "w"))
        rename St _ _ _ _ _ => S12
        have hI' : Are IsI (lvs.set i (.int (rows.length : Nat) tk)) (label.set i (rows.length : Int)) := hI.set ⟨_, rfl⟩
        have hg0 : Good n (cneg (label.set i (rows.length : Int)) + 1) (label.set i (rows.length : Int), [i]) := ⟨by simp [hlen], by simpa using hi, rfl⟩
        have hN : cneg (label.set i (rows.length : Int)) + 1 ≤ n := by
          rw [cneg_set (by (first | lia | omega)) hneg]
          unfold cneg; rw [← hlen]; exact List.countP_le_length
        generalize hNN : cneg (label.set i (rows.length : Int)) + 1 = N at hg0 hN
        refine R_while (fun m l mu ρ' => ρ₁.le ρ' ∧ ∃ wvs lvs' label' row at' n2 n3, (∃ t1 m6 m7, l = [some (.ref a), some (.ref la), some (.ref ra), some (.int i tv), some (.ref rw'), some (.int (at' : Nat) t1), m6, m7]) ∧
          mu = [(rw', lstO wvs n3), (I, o8), (ra, lstO rvs n1), (la, lstO lvs' n2)] ∧ Are IsI lvs' label' ∧ Are IsN wvs row ∧ Good n N (label', row) ∧ at' ≤ row.length ∧ row[0]? = some i ∧ m + at' = N ∧
          ∀ l' r', Grow (m0 :: ms) rows.length at' label' row l' r' → Grow (m0 :: ms) rows.length 0 (label.set i (rows.length : Int)) [i] l' r') S12 (n := N)
          ⟨Rl.le.refl _, _, _, _, [i], 0, _, _, ⟨_, _, _, rfl⟩, rfl, hI', .cons ⟨_, rfl⟩ .nil, hg0, by simp, rfl, by simp, fun _ _ q => q⟩ ?_
        intro m l mu ρ₂ h13 t13 E2 QW hQW S13 z94k10; refine cps fun X hX => ?_; obtain ⟨hle2, wvs, lvs', label', row, at', n2, n3, ⟨t1, m6, m7, rfl⟩, rfl, hI2, hW2, hg2, hat2, h02, hm2, hG2⟩ := z94k10; refine hX ?_; clear hX X
        have hwl : wvs.length = row.length := hW2.len
        have hrN : row.length ≤ N := by have := hg2.sum; simp only at this; (first | lia | omega)
        (repeat (walk_at "w"))
        with_reducible refine R_len (S13.muget (k := 0) rfl) (by (first | lia | omega)) ?_
        rw [hwl]
        intro _ _
        (repeat (walk_at "w"))
        refine R_ite (fun hz2 => ?_) (fun hz2 => ?_)
        · have hlt2 : at' < row.length := by simpa using hz2
          (repeat (walk_at "w"))
          obtain ⟨x, hx⟩ : ∃ x, row[at']? = some x := ⟨_, List.getElem?_eq_getElem hlt2⟩
          have hxn : x < n := hg2.lt x (List.mem_of_getElem? hx)
          have hle2' := hle2
          with_reducible refine R_iter_lst B.hh (P := RowIs ρ₂) (xs := m0 :: ms) S13 ((ha.le (((Rl.le_add _ _ _).trans hle6).trans (hle.trans hle2))).mono fun v z q => q.le (((Rl.le_add _ _ _).trans hle6).trans (hle.trans hle2))) ?_
          intro I2 o2 h15 WS2 T2 hw2 S15 hfz2
          let st (j : Nat) := ((m0 :: ms).take j).foldl (fun st m => touch rows.length st (m.getD x 0)) (label', row)
          with_reducible refine' R_forLoop (fun j l mu ρ' => ∃ wvs lvs' n2 n3, (∃ m6 m7, l = [some (.ref a), some (.ref la), some (.ref ra), some (.int i tv), some (.ref rw'), some (.int (at' : Nat) t1), m6, m7]) ∧
            mu = [(rw', lstO wvs n3), (I, o8), (ra, lstO rvs n1), (la, lstO lvs' n2)] ∧ Are IsI lvs' (st j).1 ∧ Are IsN wvs (st j).2 ∧ Good n N (st j) ∧ (st j).2[at']? = some x ∧ (st j).2[0]? = some i) T2 hw2 S15 hfz2 ?hJ2 ?turn2 ?done2 ?ht2
          case hJ2 => exact ⟨_, _, _, _, ⟨_, _, rfl⟩, rfl, hI2, hW2, hg2, hx, h02⟩
          case ht2 => intro _; exact rfl
          case turn2 =>
            intro j v l mu ρ₃ h16 t16 o16 E3 QQ hQQ hj z116k12 hle3 S16 z116k15; refine cps fun X hX => ?_; obtain ⟨mv, hmv, ⟨b', rfl, hb'⟩⟩ := z116k12; obtain ⟨wvs, lvs', n2, n3, ⟨m6, m7, rfl⟩, rfl, hI3, hW3, hg3, hx3, h03⟩ := z116k15; refine hX ?_; clear hX X
            have hst : st (j + 1) = touch rows.length (st j) (mv.getD x 0) := by
              simp only [st, List.take_add_one, hmv, Option.toList_some, List.foldl_append, List.foldl_cons, List.foldl_nil]
            generalize st j = cur at hI3 hW3 hg3 hx3 h03 hst
            refine cps fun X hX => ?_; obtain ⟨y, hy, hyn, hye⟩ := hm.lt (List.mem_of_getElem? hmv) hxn; refine hX ?_; clear hX X
            refine cps fun X hX => ?_; obtain ⟨xv, hxv, ⟨xt, rfl⟩⟩ := hW3.of hx3; refine hX ?_; clear hX X
            (repeat (walk_at "w"))
            rename St _ _ _ _ _ => S17
            with_reducible refine R_litem (S17.muget (k := 1) rfl) (by (first | lia | omega)) (by (first | lia | omega)) (x := .int (x : Nat) xt) (by simpa using hxv) ?_ (by (first | exact rfl | with_unfolding_all rfl | (intro _; exact rfl) | (intro _; with_unfolding_all rfl))) (by (first | exact rfl | with_unfolding_all rfl | (intro _; exact rfl) | (intro _; with_unfolding_all rfl)))
            with_reducible refine R_item S17 (hb'.le hle3) (by (first | lia | omega)) (by (first | lia | omega)) (x := y) (by simpa using hy) ?_ (by (first | exact rfl | with_unfolding_all rfl | (intro _; exact rfl) | (intro _; with_unfolding_all rfl))) (by (first | exact rfl | with_unfolding_all rfl | (intro _; exact rfl) | (intro _; with_unfolding_all rfl)))
            rintro _ ⟨yt, rfl⟩
            (repeat (walk_at "w"))
            rename St _ _ _ _ _ => S18
            have hyl : cur.1[y]? = some (cur.1.getD y 0) := by
              rw [List.getD_eq_getElem?_getD, List.getElem?_eq_getElem (by rw [hg3.len]; exact hyn)]; rfl
            refine cps fun X hX => ?_; obtain ⟨lv2, hlv2, ⟨lt2, rfl⟩⟩ := hI3.of hyl; refine hX ?_; clear hX X
            with_reducible refine R_litem (S18.muget (k := 4) rfl) (by (first | lia | omega)) (by (first | lia | omega)) (x := .int (cur.1.getD y 0) lt2) (by simpa using hlv2) ?_ (by (first | exact rfl | with_unfolding_all rfl | (intro _; exact rfl) | (intro _; with_unfolding_all rfl))) (by (first | exact rfl | with_unfolding_all rfl | (intro _; exact rfl) | (intro _; with_unfolding_all rfl)))
            (repeat (walk_at "w"))
            refine R_ite (fun hz3 => ?_) (fun hz3 => ?_)
            · have hneg3 : cur.1.getD y 0 < 0 := by simpa using hz3
              (repeat (walk_at "w"))
              with_reducible refine R_len (S18.muget (k := 3) rfl) (by (first | lia | omega)) ?_
              rw [hrlen]
              intro tk3 _
              (repeat (walk_at "w"))
              have hl3 : lvs'.length = n := by rw [hI3.len, hg3.len]
              with_reducible refine R_setItem (k := 4) S18 rfl (by (first | lia | omega)) (by (first | lia | omega)) (by (first | lia | omega)) ?_
              intro h19 n19 S19
              rw [Int.toNat_natCast] at S19
              (repeat (walk_at "w"))
              have hwl3 : wvs.length = cur.2.length := hW3.len
              have hs3 := hg3.sum
              with_reducible refine R_append (k := 1) S19 rfl (by (first | lia | omega)) ?_
              intro h20 n20 S20
              (repeat (walk_at "w"))
              have ht : touch rows.length cur (mv.getD x 0) = (cur.1.set y (rows.length : Int), cur.2 ++ [y]) := by
                rw [hye]; unfold touch; rw [if_pos hneg3]
              refine hQQ _ _ ?_; refine Nxt.intro S20 ⟨_, rfl, Rl.le.refl _, _, _, _, _, ⟨_, _, rfl⟩, rfl, ?_, ?_, ?_, ?_, ?_⟩
              · rw [hst, ht]; exact hI3.set ⟨_, rfl⟩
              · rw [hst, ht]; exact hW3.append (.cons ⟨_, rfl⟩ .nil)
              · rw [hst]; exact hg3.touch (by rw [hye]; exact hyn)
              · rw [hst]; exact touch_at hx3
              · rw [hst]; exact touch_at h03
            · have hneg3 : ¬ cur.1.getD y 0 < 0 := by simpa using hz3
              have ht : touch rows.length cur (mv.getD x 0) = cur := by
                rw [hye]; unfold touch; rw [if_neg hneg3]
              (repeat (walk_at "w"))
              refine hQQ _ _ ?_; exact Nxt.intro S18 ⟨_, rfl, Rl.le.refl _, _, _, _, _, ⟨_, _, rfl⟩, rfl, by rw [hst, ht]; exact hI3, by rw [hst, ht]; exact hW3, by rw [hst, ht]; exact hg3, by rw [hst, ht]; exact hx3, by rw [hst, ht]; exact h03⟩
          case done2 =>
            intro l mu ρ₃ h16 t16 hle3 z165k6 S16; refine cps fun X hX => ?_; obtain ⟨wvs, lvs', n2, n3, ⟨m6, m7, rfl⟩, rfl, hI3, hW3, hg3, hx3, h03⟩ := z165k6; refine hX ?_; clear hX X
            have hst : st (m0 :: ms).length = visit (m0 :: ms) rows.length x (label', row) := by simp only [st, List.take_length]; rfl
            rw [hst] at hI3 hW3 hg3 hx3 h03
            (repeat (walk_at "w"))
            rename St _ _ _ _ _ => S17
            rw [show ((at' : Nat) : Int) + 1 = ((at' + 1 : Nat) : Int) from by (first | lia | omega)] at S17
            refine hQW _ _ ?_; refine Nxt.intro S17 ⟨m - 1, by (first | lia | omega), hle2.trans hle3, _, _, _, _, at' + 1, _, _, ⟨_, _, _, rfl⟩, rfl, hI3, hW3, hg3, ?_, h03, by (first | lia | omega), fun l' r' q => hG2 _ _ (.step hx q)⟩
            have := (List.getElem?_eq_some_iff.mp hx3).1
            (first | lia | omega)
        · have hge2 : row.length ≤ at' := by simpa using hz2
          (repeat (walk_at "w"))
          rename St _ _ _ _ _ => S14
          with_reducible refine R_append (k := 2) (by with_reducible assumption) rfl (by (first | lia | omega)) ?_
          intro h15 n15 S15
          (repeat (walk_at "w"))
          have S16 := S15.freeze (k := 0) rfl
          refine hQQ _ _ ?_; refine Nxt.intro S16 ⟨_, rfl, hle2.trans (Rl.le_add _ _ _), _, _, _, _, _, _, ⟨_, _, _, _, _, rfl⟩, rfl, hI2, ?_, .take hK hneg (hG2 _ _ (.done hge2)), hg2.len, ?_⟩
          · refine Are.append (hR.mono fun v x q => q.le (hle2.trans (Rl.le_add _ _ _))) (.cons ⟨_, rfl, _, _, Rl.at_add _ _ _, hW2⟩ .nil)
          · rw [List.length_append]; simp; (first | lia | omega)
      · have hneg : ¬ label.getD i 0 < 0 := by simpa using hz
        (repeat (walk_at "w"))
        refine hQQ _ _ ?_; exact Nxt.intro S9 ⟨_, rfl, Rl.le.refl _, _, _, _, _, _, _, ⟨_, _, _, _, _, rfl⟩, rfl, hI, hR, .skip hK hneg, hlen, by (first | lia | omega)⟩
    case done =>
      intro l mu ρ₁ h8 t8 hle z188k6 S8; refine cps fun X hX => ?_; obtain ⟨rvs, lvs, label, rows, n1, n2, ⟨m3, m4, m5, m6, m7, rfl⟩, rfl, hI, hR, hK, hlen, hrl⟩ := z188k6; refine hX ?_; clear hX X
      (repeat (walk_at "w"))
      with_reducible refine R_tupNew S8 (by simp) ?_
      intro T9 h9 S9
      (repeat (walk_at "w"))
      have S10 := (S9.freeze (k := 0) rfl).freeze (k := 0) rfl
      refine hQ0 _ _ ?_; exact Fin.intro S10 ⟨_, _, ⟨_, _, _, _, rfl, .inl (.inl (Rl.at_add _ _ _)), ⟨_, _, Rl.at_add _ _ _, hI⟩, ⟨_, _, .inl (Rl.at_add _ _ _), hR.mono fun v x q => q.le (((Rl.le_add _ _ _).trans (Rl.le_add _ _ _)).trans (Rl.le_add _ _ _))⟩⟩, hK⟩
theorem newList_tok {n : Int} {u : Tok} {Q : Value → Shared → Prop} {s : Shared} (h : ∀ u0 : Tok, ListGo Q [.int n u0] s) : ListGo Q [.int n u] s := h u
noncomputable def NormIs (ρ : Rl) (T : Addr) (st : List Nat × Nat) : Prop := ∃ U v n, ρ T (tupO [.ref U, v] n) ∧ IsN v st.2 ∧ Tup IsN ρ U st.1
theorem winit_ok (w : World) (x dx : Addr) (hxd : x ≠ dx) (ws : Str) (tw : Tok) (h : Heap) (ρ : Rl) (hws : ∀ c ∈ ws.cps.toList, c = 32 ∨ c = 9) (hl : ws.cps.size ≤ 1000) :
    CallMut PG w (hd.heap_1 w.params) (.ref 217) ⟨[.ref x, .str ws tw], []⟩ 1 10 [(dx, dictOf [] 0)] h (ρ.add x (instObj 262 dx))
      (fun own ρ' r => r = .none ∧ ∃ o, own = [(dx, o)] ∧ ∃ es n T, o = dictOf es n ∧ getL "norm" es = some (some (.ref T)) ∧ getL "equal" es = some none ∧ NormIs ρ' T (wsOf ws.cps.toList)) := by
  refine' call_def0M (ns := ["self", "ws", "S", "T", "count", "b", "n", "nt", "ch"]) (l₀ := [some (.ref x), some (.str ws tw), none, none, none, none, none, none, none]) (dn := 0) (un := 7) ?ho ?hcd ?hb ?hl ?hns ?hnd ?hln ?h1 ?h2 ?h3 ?h4 ?body
  case ho => k_is
  case hcd => k_is
  case hb => intro s _; exact BindsTo.of_eq rfl
  case hl => exact locs rfl
  case hns => exact binds2 _ (by decide)
  case hnd => decide
  case hln => rfl
  case h1 => rfl
  case h2 => rfl
  case h3 => rfl
  case h4 => decide
  case body =>
    intro A L h₁ G D O t E B hd hu S Q0 hQ0
    have hx0 : (ρ.add x (instObj 262 dx)) x (instObj 262 dx) := Rl.at_add _ _ _
    (repeat (walk_at "w"))
    ((with_reducible refine' R_setOwn (j := 0) ?Bx77 ?Sx77 hx0 ?hmx77 ?hsx77 ?hpx77 ?htx77 ?hhx77 ?hlx77 ?hzx77 ?_); (case Bx77 => with_reducible assumption); (case Sx77 => with_reducible assumption); (case hmx77 => exact rfl); (case hsx77 => k_is); (case hpx77 => k_is); (case htx77 => k_is); (case hhx77 => k_is); (case hlx77 => exact rfl); (case hzx77 => first | exact Nat.le_of_ble_eq_true rfl | decide | simp))
    intro hsh1 tk1 h2 t2 S2
    (repeat (walk_at "w"))
    ((with_reducible refine' R_clsVal ?Xx79 ?hrx79 ?ex79 ?hhx79 ?_); (case Xx79 => exact (Gl.X (Bx.gl' (by with_reducible assumption) (by with_reducible assumption)))); (case ex79 => k_is); (case hrx79 => k_is); (case hhx79 => first | exact rfl | (simp only [handedIn]; done)); intro _)
    (repeat (walk_at "w"))
    ((with_reducible refine' R_clsVal ?Xx81 ?hrx81 ?ex81 ?hhx81 ?_); (case Xx81 => exact (Gl.X (Bx.gl' (by with_reducible assumption) (by with_reducible assumption)))); (case ex81 => k_is); (case hrx81 => k_is); (case hhx81 => first | exact rfl | (simp only [handedIn]; done)); intro _)
    (repeat (walk_at "w"))
    with_reducible refine R_tupNew S2 (by simp) ?_
    intro T3 h3 S3
    with_reducible refine R_unpackT B.hh S3 (S3.get (Rl.at_add _ _ _)) rfl ?_
    intro h4 S4
    refine wpAny_assignInOrder_more (bindName_ ?_)
    (repeat (walk_at "w"))
    refine wpAny_assignInOrder_more (bindName_ ?_)
    (repeat (walk_at "w"))
    refine wpAny_assignInOrder_none ?_
    (repeat (walk_at "w"))
    with_reducible refine R_listNewMu (by with_reducible assumption) (by simp) ?_
    intro c0 h5 S5
    (repeat (walk_at "w"))
    rename St _ _ _ _ _ => S6
    ((with_reducible refine' R_getOwn ?Xx87 (S6.at0 hx0) (S6.muget (k := 1) rfl) ?hgx87 ?hhx87 ?hax87 ?hnx87 ?hlx87 ?hvx87 ?_); (case Xx87 => exact (Gl.X (Bx.gl' (by with_reducible assumption) (by with_reducible assumption)))); (case hgx87 => k_is); (case hhx87 => k_is); (case hax87 => k_is); (case hnx87 => k_is); (case hlx87 => first | with_reducible assumption | exact rfl); (case hvx87 => first | exact rfl | (simp only [handedIn]; done)); intro _)
    (repeat (walk_at "w"))
    with_reducible refine' R_iter_str B.hh S6 (ascii_of fun c hc => by have := hws c hc; (first | lia | omega)) ?_
    intro I o h7 WS T hw S7 hfz
    with_reducible refine' R_forLoop (fun i l mu ρ' => ∃ cnt cvs n2, (∃ (n7 : Int) (u7 : Tok) (n8 : Int) (u8 : Tok) (m9 : Option Value) (t4 t5 t6 : Tok), l = [some (.ref x), some (.str ws tw), some (.str " " t4), some (.str "\t" t5), some (.ref cnt), some (.int ((wsOf (ws.cps.toList.take i)).2 : Nat) t6), some (.int n7 u7), some (.int n8 u8), m9]) ∧
      mu = [(cnt, lstO cvs n2), (dx, dictOf [⟨hsh1, .str "raw" tk1, .str ws tw⟩] 1)] ∧ Are IsN cvs (wsOf (ws.cps.toList.take i)).1 ∧ (wsOf (ws.cps.toList.take i)).1.length ≤ i ∧ (wsOf (ws.cps.toList.take i)).2 ≤ i) T hw S7 hfz ?hJ ?turn ?done ?ht
    case hJ =>
      exact ⟨_, _, _, ⟨_, _, _, _, _, _, _, _, rfl⟩, rfl, .nil, by simp [wsOf], by simp [wsOf]⟩
    case ht => intro _; exact rfl
    case turn =>
      intro i v l mu ρ₁ h8 t8 o8 E' QQ hQQ hi z51k12 hle S8 z51k15; refine cps fun X hX => ?_; obtain ⟨ch, tv, hc, rfl⟩ := z51k12; obtain ⟨cnt, cvs, n2, ⟨n7, u7, n8, u8, m9, t4, t5, t6, rfl⟩, rfl, hI, hb1, hb2⟩ := z51k15; refine hX ?_; clear hX X
      have hcb := hws ch (by rw [Array.mem_toList_iff]; exact Array.mem_of_getElem? hc)
      have hst : wsOf (ws.cps.toList.take (i + 1)) = wsStep (wsOf (ws.cps.toList.take i)) ch := by
        unfold wsOf
        rw [List.take_add_one, show ws.cps.toList[i]? = some ch from by simpa using hc]
        simp
      generalize wsOf (ws.cps.toList.take i) = cur at hI hb1 hb2 hst S8
      (repeat (walk_at "w"))
      refine R_ite (fun hz => ?_) (fun hz => ?_)
      · have h32 : ch = 32 := by
          rcases hcb with rfl | rfl
          · rfl
          · exact absurd hz (by decide)
        (repeat (walk_at "w"))
        rename St _ _ _ _ _ => S9
        rw [show ((cur.2 : Nat) : Int) + 1 = ((cur.2 + 1 : Nat) : Int) from by (first | lia | omega)] at S9
        have hst' : wsStep cur ch = (cur.1, cur.2 + 1) := by unfold wsStep; rw [if_pos h32]
        rw [hst'] at hst
        have e2 : (wsOf (ws.cps.toList.take (i + 1))).2 = cur.2 + 1 := by rw [hst]
        rw [← e2] at S9
        refine hQQ _ _ ?_; refine Nxt.intro S9 ⟨_, rfl, Rl.le.refl _, _, _, _, ⟨_, _, _, _, _, _, _, _, rfl⟩, rfl, ?_, ?_, ?_⟩
        · rw [hst]; exact hI
        · rw [hst]; show cur.1.length ≤ i + 1; (first | lia | omega)
        · rw [hst]; show cur.2 + 1 ≤ i + 1; (first | lia | omega)
      · have h9 : ch = 9 := by
          rcases hcb with rfl | rfl
          · exact absurd (by decide) hz
          · rfl
        (repeat (walk_at "w"))
        refine R_yes (by rw [h9]; decide) ?_
        (repeat (walk_at "w"))
        have hcl : cvs.length = cur.1.length := hI.len
        rename St _ _ _ _ _ => S9
        with_reducible refine R_len (S9.muget (k := 1) rfl) (by (first | lia | omega)) ?_
        rw [hcl]
        intro _ _
        (repeat (walk_at "w"))
        have hw : wsStep cur ch = ((if cur.2 < cur.1.length then cur.1 else cur.1 ++ List.replicate (cur.2 - cur.1.length + 1) 0).set cur.2 ((if cur.2 < cur.1.length then cur.1 else cur.1 ++ List.replicate (cur.2 - cur.1.length + 1) 0).getD cur.2 0 + 1), 0) := by
          unfold wsStep; rw [if_neg (by (first | lia | omega))]
        refine R_ite (fun hz2 => ?_) (fun hz2 => ?_)
        · have hge : cur.1.length ≤ cur.2 := by simpa using hz2
          rw [if_neg (by (first | lia | omega))] at hw
          (repeat (walk_at "w"))
          refine newList_tok fun u0 => ?_
          with_reducible refine R_listNew S9 (by simp) ?_
          intro z1 h10 S10
          (repeat (walk_at "w"))
          with_reducible refine R_len (S10.muget (k := 1) rfl) (by (first | lia | omega)) ?_
          rw [hcl]
          intro _ _
          (repeat (walk_at "w"))
          rw [show ((cur.2 : Nat) : Int) - (cur.1.length : Nat) + 1 = ((cur.2 - cur.1.length + 1 : Nat) : Int) from by (first | lia | omega)]
          with_reducible refine R_rep S10 (S10.get (Rl.at_add _ _ _)) (by (first | lia | omega)) ?_
          intro z2 h11 S11
          with_reducible refine R_lcatMu S11 (S11.muget (k := 2) rfl) (S11.muget (k := 0) rfl) ?_ ?_
          · rw [List.length_replicate]; (first | lia | omega)
          intro cnt' h12 S12
          have hI2 : Are IsN (cvs ++ List.replicate (cur.2 - cur.1.length + 1) (.int 0 u0)) (cur.1 ++ List.replicate (cur.2 - cur.1.length + 1) 0) := hI.append (Are.rep ⟨_, rfl⟩ _)
          generalize (cvs ++ List.replicate (cur.2 - cur.1.length + 1) (.int 0 u0)) = ctv at S12 hI2
          have hctl : cur.2 < ((cur.1 ++ List.replicate (cur.2 - cur.1.length + 1) 0)).length := by rw [List.length_append, List.length_replicate]; (first | lia | omega)
          have hctl2 : ((cur.1 ++ List.replicate (cur.2 - cur.1.length + 1) 0)).length ≤ i + 1 := by rw [List.length_append, List.length_replicate]; (first | lia | omega)
          generalize (cur.1 ++ List.replicate (cur.2 - cur.1.length + 1) 0) = ct at hI2 hw hctl hctl2
          rw [← hst] at hw
          obtain ⟨v0, hv0, ⟨t0, rfl⟩⟩ := hI2.of (i := cur.2) (x := ct.getD cur.2 0) (by rw [List.getD_eq_getElem?_getD, List.getElem?_eq_getElem hctl]; rfl)
          (repeat (walk_at "w"))
          rename St _ _ _ _ _ => S13
          with_reducible refine R_litem (S13.muget (k := 0) rfl) (by (first | lia | omega)) (by (first | lia | omega)) (x := .int (ct.getD cur.2 0 : Nat) t0) (by simpa using hv0) ?_ (by (first | exact rfl | with_unfolding_all rfl | (intro _; exact rfl) | (intro _; with_unfolding_all rfl))) (by (first | exact rfl | with_unfolding_all rfl | (intro _; exact rfl) | (intro _; with_unfolding_all rfl)))
          (repeat (walk_at "w"))
          rw [show ((ct.getD cur.2 0 : Nat) : Int) + 1 = ((ct.getD cur.2 0 + 1 : Nat) : Int) from by (first | lia | omega)]
          with_reducible refine R_setItem (k := 0) S13 rfl (by (first | lia | omega)) (by (first | lia | omega)) (by rw [hI2.len]; (first | lia | omega)) ?_
          intro h14 n14 S14
          rw [Int.toNat_natCast] at S14
          (repeat (walk_at "w"))
          rename St _ _ _ _ _ => S15
          have e2 : (0 : Int) = ((wsOf (ws.cps.toList.take (i + 1))).2 : Nat) := by rw [hw]; rfl
          rw [e2] at S15
          refine hQQ _ _ ?_; refine Nxt.intro ((S15.drop (mu' := [(cnt', _), (I, o8), (dx, _)]) (.cons_cons _ (.cons _ (.cons_cons _ (.cons _ (.cons_cons _ .slnil)))))).perm (mu' := [(I, o8), (cnt', _), (dx, _)]) (.swap _ _ _)) ⟨_, rfl, Rl.le_add _ _ _, _, _, _, ⟨_, _, _, _, _, _, _, _, rfl⟩, rfl, ?_, ?_, ?_⟩
          · rw [hw]; exact hI2.set ⟨_, rfl⟩
          · rw [hw]; simp only [List.length_set]; (first | lia | omega)
          · rw [hw]; show 0 ≤ i + 1; (first | lia | omega)
        · have hlt : cur.2 < cur.1.length := by
            have : ¬ cur.1.length ≤ cur.2 := by simpa using hz2
            (first | lia | omega)
          rw [if_pos hlt] at hw
          have hI2 : Are IsN cvs cur.1 := hI
          have hctl : cur.2 < (cur.1).length := by (first | lia | omega)
          have hctl2 : (cur.1).length ≤ i + 1 := by (first | lia | omega)
          generalize cur.1 = ct at hI2 hw hctl hctl2 hz2 hcl hlt
          rw [← hst] at hw
          obtain ⟨v0, hv0, ⟨t0, rfl⟩⟩ := hI2.of (i := cur.2) (x := ct.getD cur.2 0) (by rw [List.getD_eq_getElem?_getD, List.getElem?_eq_getElem hctl]; rfl)
          (repeat (walk_at "w"))
          rename St _ _ _ _ _ => S13
          with_reducible refine R_litem (S13.muget (k := 1) rfl) (by (first | lia | omega)) (by (first | lia | omega)) (x := .int (ct.getD cur.2 0 : Nat) t0) (by simpa using hv0) ?_ (by (first | exact rfl | with_unfolding_all rfl | (intro _; exact rfl) | (intro _; with_unfolding_all rfl))) (by (first | exact rfl | with_unfolding_all rfl | (intro _; exact rfl) | (intro _; with_unfolding_all rfl)))
          (repeat (walk_at "w"))
          rw [show ((ct.getD cur.2 0 : Nat) : Int) + 1 = ((ct.getD cur.2 0 + 1 : Nat) : Int) from by (first | lia | omega)]
          with_reducible refine R_setItem (k := 1) S13 rfl (by (first | lia | omega)) (by (first | lia | omega)) (by rw [hI2.len]; (first | lia | omega)) ?_
          intro h14 n14 S14
          rw [Int.toNat_natCast] at S14
          (repeat (walk_at "w"))
          rename St _ _ _ _ _ => S15
          have e2 : (0 : Int) = ((wsOf (ws.cps.toList.take (i + 1))).2 : Nat) := by rw [hw]; rfl
          rw [e2] at S15
          refine hQQ _ _ ?_; refine Nxt.intro (S15) ⟨_, rfl, Rl.le.refl _, _, _, _, ⟨_, _, _, _, _, _, _, _, rfl⟩, rfl, ?_, ?_, ?_⟩
          · rw [hw]; exact hI2.set ⟨_, rfl⟩
          · rw [hw]; simp only [List.length_set]; (first | lia | omega)
          · rw [hw]; show 0 ≤ i + 1; (first | lia | omega)
    case done =>
      intro l mu ρ₁ h8 t8 hle z158k6 S8; refine cps fun X hX => ?_; obtain ⟨cnt, cvs, n2, ⟨n7, u7, n8, u8, m9, t4, t5, t6, rfl⟩, rfl, hI, hb1, hb2⟩ := z158k6; refine hX ?_; clear hX X
      rw [List.take_of_length_le (by simp)] at hI hb1 hb2 S8
      (repeat (walk_at "w"))
      ((with_reducible refine' R_setOwn (j := 1) ?Bx108 ?Sx108 (Rl.le.at S8.le hx0) ?hmx108 ?hsx108 ?hpx108 ?htx108 ?hhx108 ?hlx108 ?hzx108 ?_); (case Bx108 => with_reducible assumption); (case Sx108 => with_reducible assumption); (case hmx108 => exact rfl); (case hsx108 => k_is); (case hpx108 => k_is); (case htx108 => k_is); (case hhx108 => k_is); (case hlx108 => exact rfl); (case hzx108 => first | exact Nat.le_of_ble_eq_true rfl | decide | simp))
      intro hs2 tk2 h9 t9 S9
      (repeat (walk_at "w"))
      ((with_reducible refine' R_setOwn (j := 1) ?Bx110 ?Sx110 (Rl.le.at S9.le hx0) ?hmx110 ?hsx110 ?hpx110 ?htx110 ?hhx110 ?hlx110 ?hzx110 ?_); (case Bx110 => with_reducible assumption); (case Sx110 => with_reducible assumption); (case hmx110 => exact rfl); (case hsx110 => k_is); (case hpx110 => k_is); (case htx110 => k_is); (case hhx110 => k_is); (case hlx110 => exact rfl); (case hzx110 => first | exact Nat.le_of_ble_eq_true rfl | decide | simp))
      intro hs3 tk3 h10 t10 S10
      (repeat (walk_at "w"))
      with_reducible refine R_tupleOf S10 (S10.muget (k := 0) rfl) (by rw [hI.len]; (first | lia | omega)) ?_
      intro U h11 S11
      (repeat (walk_at "w"))
      with_reducible refine R_tupNew S11 (by simp) ?_
      intro T4 h12 S12
      (repeat (walk_at "w"))
      ((with_reducible refine' R_setOwn (j := 1) ?Bx114 ?Sx114 (Rl.le.at S12.le hx0) ?hmx114 ?hsx114 ?hpx114 ?htx114 ?hhx114 ?hlx114 ?hzx114 ?_); (case Bx114 => with_reducible assumption); (case Sx114 => with_reducible assumption); (case hmx114 => exact rfl); (case hsx114 => k_is); (case hpx114 => k_is); (case htx114 => k_is); (case hhx114 => k_is); (case hlx114 => exact rfl); (case hzx114 => first | exact Nat.le_of_ble_eq_true rfl | decide | simp))
      intro hs4 tk4 h13 t13 S13
      (repeat (walk_at "w"))
      with_reducible refine R_len (S13.muget (k := 0) rfl) (by rw [hI.len]; (first | lia | omega)) ?_
      intro _ _
      (repeat (walk_at "w"))
      ((with_reducible refine' R_setOwn (j := 1) ?Bx117 ?Sx117 (Rl.le.at S13.le hx0) ?hmx117 ?hsx117 ?hpx117 ?htx117 ?hhx117 ?hlx117 ?hzx117 ?_); (case Bx117 => with_reducible assumption); (case Sx117 => with_reducible assumption); (case hmx117 => exact rfl); (case hsx117 => k_is); (case hpx117 => k_is); (case htx117 => k_is); (case hhx117 => k_is); (case hlx117 => exact rfl); (case hzx117 => first | exact Nat.le_of_ble_eq_true rfl | decide | simp))
      intro hs5 tk5 h14 t14 S14
      (repeat (walk_at "w"))
      refine hQ0 _ _ ?_; refine FinM.intro (S14.drop (mu' := [(dx, _)]) (.cons _ (.cons_cons _ .slnil))) ⟨rfl, _, rfl, _, _, T4, rfl, ?_, ?_, ?_⟩ rfl
      · rfl
      · rfl
      · exact ⟨U, _, _, Rl.at_add _ _ _, ⟨_, rfl⟩, _, _, Or.inl (Rl.at_add _ _ _), hI⟩
noncomputable def WsIs (ρ : Rl) (v : Value) (st : List Nat × Nat) : Prop := ∃ x dx es n T, v = .ref x ∧ ρ x (instObj 262 dx) ∧ ρ dx (dictOf es n) ∧ getL "norm" es = some (some (.ref T)) ∧ getL "equal" es = some none ∧ NormIs ρ T st
theorem Tup.mono {α : Type} {P : Value → α → Prop} {ρ ρ' : Rl} {a : Addr} {xs : List α} (x : Tup P ρ a xs) (hle : ρ.le ρ') : Tup P ρ' a xs := x.le hle
theorem NormIs.le {ρ ρ' : Rl} {T : Addr} {st} (x : NormIs ρ T st) (hle : ρ.le ρ') : NormIs ρ' T st := let ⟨U, v, n, e, q, r⟩ := x; ⟨U, v, n, hle _ _ e, q, r.le hle⟩
theorem WsIs.le {ρ ρ' : Rl} {v : Value} {st} (x : WsIs ρ v st) (hle : ρ.le ρ') : WsIs ρ' v st := let ⟨x, dx, es, n, T, a, b, d, e, f, g⟩ := x; ⟨x, dx, es, n, T, a, hle _ _ b, hle _ _ d, e, f, g.le hle⟩
theorem wcls_ok (w : World) (ws : Str) (tw : Tok) (h : Heap) (ρ : Rl) (hws : ∀ c ∈ ws.cps.toList, c = 32 ∨ c = 9) (hl : ws.cps.size ≤ 1000) :
    CallOK PG w (hd.heap_1 w.params) (.ref 262) ⟨[.str ws tw], []⟩ 2 11 h ρ (fun ρ' r => WsIs ρ' r (wsOf ws.cps.toList)) := by
  refine' (make_ok (fI := 217) (Post := fun o ρ' x dx => ∃ es n T, o = dictOf es n ∧ getL "norm" es = some (some (.ref T)) ∧ getL "equal" es = some none ∧ NormIs ρ' T (wsOf ws.cps.toList)) ?hm ?hi ?hf ?init ?hmono).mono (Nat.le_refl _) (Nat.le_refl _) ?_
  case hm => k_is
  case hi => k_is
  case hf => k_is
  case init => exact fun dx x h' hx hs => winit_ok w x dx hx ws tw h' ρ hws hl
  case hmono => exact fun o ρ₁ ρ₂ x dx hle ⟨es, n, T, a, b, d, e⟩ => ⟨es, n, T, a, b, d, e.le hle⟩
  intro ρ' r hle z13k3; refine cps fun X hX => ?_; obtain ⟨x, dx, o, rfl, hx, hdx, es, n, T, rfl, h1, h2, h3⟩ := z13k3; refine hX ?_; clear hX X
  exact ⟨x, dx, es, n, T, rfl, hx, hdx, h1, h2, h3⟩
theorem NormIs.rd {ρ : Rl} {T : Addr} {st : List Nat × Nat} {c : FrC} {l mu h} (x : NormIs ρ T st) (S : St c l mu ρ h) : RD h (.ref T) (.tuple [.tuple (st.1.map dN), dN st.2]) := by
  refine cps fun X hX => ?_; obtain ⟨U, v, n, e, q, vs, m, e', r⟩ := x; refine hX ?_; clear hX X
  exact RD.tup (S.get e) (.cons (RD.tup (S.get e') (RDA.of r fun v x _ p => RD.nat p)) (.cons (RD.nat q) .nil))
theorem norm_ok (st : List Nat × Nat) : kqdOk 8 (.tuple [.tuple (st.1.map dN), dN st.2]) = true := by
  have := ok_ints (fun n : Nat => (n : Int)) 6 st.1
  simp only [kqdOk, List.all_cons, List.all_nil, Bool.and_true]
  exact this
theorem norm_inj {a b : List Nat × Nat} : (Dat.tuple [.tuple (a.1.map dN), dN a.2] = .tuple [.tuple (b.1.map dN), dN b.2]) ↔ a = b := by
  constructor
  · intro h
    simp only [Dat.tuple.injEq, List.cons.injEq, Dat.int.injEq, and_true] at h
    have h1 := map_inj (fun x y e => by simp only [Dat.int.injEq] at e; (first | lia | omega)) h.1
    have h2 : a.2 = b.2 := by (first | lia | omega)
    exact Prod.ext h1 h2
  · rintro rfl; rfl
theorem equal_ok (w : World) (x y : Value) (sx sy : List Nat × Nat) (h : Heap) (ρ : Rl) (hx : WsIs ρ x sx) (hy : WsIs ρ y sy) :
    CallOK PG w (hd.heap_1 w.params) (.ref 238) ⟨[x, y], []⟩ 1 80 h ρ (fun _ r => ∃ b : Bool, r = .bool b ∧ (b = true ↔ sx = sy)) := by
  refine' call_def0 (ns := ["self", "other"]) (l₀ := [some x, some y]) (dn := 0) (un := 77) ?ho ?hcd ?hb ?hl ?hns ?hnd ?hln ?h1 ?h2 ?h3 ?h4 ?body
  case ho => k_is
  case hcd => k_is
  case hb => intro s _; exact BindsTo.of_eq rfl
  case hl => exact locs rfl
  case hns => exact binds2 [] (by decide)
  case hnd => decide
  case hln => rfl
  case h1 => rfl
  case h2 => rfl
  case h3 => rfl
  case h4 => decide
  case body =>
    intro A L h₁ G D O t E B hd hu S Q0 hQ0
    refine cps fun X hX => ?_; obtain ⟨x, dx, es, n, T, rfl, hx1, hx2, hx3, hx4, hx5⟩ := hx; refine hX ?_; clear hX X
    refine cps fun X hX => ?_; obtain ⟨y, dy, es', n', T', rfl, hy1, hy2, hy3, hy4, hy5⟩ := hy; refine hX ?_; clear hX X
    (repeat (walk_at "w"))
    ((with_reducible refine' R_getOwn ?Xx120 (S.get hx1) (S.get hx2) ?hgx120 ?hhx120 ?hax120 ?hnx120 ?hlx120 ?hvx120 ?_); (case Xx120 => exact (Gl.X (Bx.gl' (by with_reducible assumption) (by with_reducible assumption)))); (case hgx120 => k_is); (case hhx120 => k_is); (case hax120 => k_is); (case hnx120 => k_is); (case hlx120 => first | with_reducible assumption | exact rfl); (case hvx120 => first | exact rfl | (simp only [handedIn]; done)); intro _)
    (repeat (walk_at "w"))
    ((with_reducible refine' R_getOwn ?Xx122 (S.get hy1) (S.get hy2) ?hgx122 ?hhx122 ?hax122 ?hnx122 ?hlx122 ?hvx122 ?_); (case Xx122 => exact (Gl.X (Bx.gl' (by with_reducible assumption) (by with_reducible assumption)))); (case hgx122 => k_is); (case hhx122 => k_is); (case hax122 => k_is); (case hnx122 => k_is); (case hlx122 => first | with_reducible assumption | exact rfl); (case hvx122 => first | exact rfl | (simp only [handedIn]; done)); intro _)
    with_reducible refine R_eqD (hx5.rd S) (hy5.rd S) (norm_ok _) (norm_ok _) (by (first | lia | omega)) ?_
    intro b hb
    rw [norm_inj] at hb
    (repeat (walk_at "w"))
    refine hQ0 _ _ ?_; exact Fin.intro S ⟨b, rfl, hb⟩
theorem sp_eq : (" " : Str) = ⟨#[32]⟩ := by decide +kernel
theorem emp_eq : ("" : Str) = ⟨#[]⟩ := by decide +kernel
theorem tab_cps : ("\t" : Str).cps.toList = [9] := by decide +kernel
theorem lead_ok (w : World) (a : Addr) (rows : List (List Nat)) (h : Heap) (ρ : Rl) (ha : Lst (RowIs ρ) ρ a rows) (hr : ∀ row ∈ rows, row ≠ []) (hl : (leadL rows).length ≤ 900) :
    CallOK PG w (hd.heap_1 w.params) (.ref 300) ⟨[.ref a], []⟩ 3 15 h ρ (fun ρ' r => WsIs ρ' r (wsOf (leadL rows))) := by
  have hrl : ∀ row ∈ rows, row.length ≤ 900 ∧ rows.length ≤ 900 := by
    intro row hm
    have h1 : (List.replicate (row.length - 1) 32 ++ [9]).length ≤ (leadL rows).length := by
      unfold leadL
      rw [List.flatMap_def]
      exact (List.sublist_flatten_of_mem (List.mem_map_of_mem (f := fun row : List Nat => List.replicate (row.length - 1) 32 ++ [9]) hm)).length_le
    have h2 : rows.length ≤ (leadL rows).length := by
      unfold leadL
      clear h1 hm hl hr ha
      induction rows with
      | nil => simp
      | cons r rows ih => simp only [List.flatMap_cons, List.length_append, List.length_cons, List.length_nil]; (first | lia | omega)
    simp only [List.length_append, List.length_replicate, List.length_cons, List.length_nil] at h1
    (first | lia | omega)
  refine' call_def0 (ns := ["rows"]) (l₀ := [some (.ref a)]) (dn := 2) (un := 12) ?ho ?hcd ?hb ?hl ?hns ?hnd ?hln ?h1 ?h2 ?h3 ?h4 ?body
  case ho => k_is
  case hcd => k_is
  case hb => intro s _; exact BindsTo.of_eq rfl
  case hl => exact locs rfl
  case hns => exact binds1 []
  case hnd => decide
  case hln => rfl
  case h1 => rfl
  case h2 => rfl
  case h3 => rfl
  case h4 => decide
  case body =>
    intro A L h₁ G D O t E B hd hu S Q0 hQ0
    (repeat (walk_at "w"))
    with_reducible refine R_iter_lst B.hh (P := RowIs ρ) (xs := rows) (by with_reducible assumption) ha ?_
    intro I2 f2 h2 WS2 T2 hw2 S2 hfz2
    ((with_reducible refine' R_fE (P := (fun ρ' => RowIs ρ')) (fun _ => true) (fun row : List Nat => (⟨(List.replicate (row.length - 1) 32 ++ [9]).toArray⟩ : Str)) (fun _ => IsS) ?hmx125 T2 ?hPx125 hw2 S2 hfz2 ?_ ?hcellx125 ?hkindx125 ?hxx125 ?_ ?_); (case hmx125 => first | exact fun _ _ _ _ _ q => q | exact fun _ _ _ _ hle q => q.le hle); (case hPx125 => first | exact fun _ _ ⟨z, hz, q⟩ => ⟨z, hz, fun _ _ => q⟩ | exact fun _ _ ⟨z, hz, q⟩ => ⟨z, hz, fun _ hle => q.le hle⟩); (case hcellx125 => decide); (case hkindx125 => exact rfl); (case hxx125 => exact rfl))
    · cases rows with
      | nil => simp
      | cons r rs => have := hrl r (by simp); (first | lia | omega)
    · intro i v z C ρ₁ d e f' h t E' hz ⟨b, hb, hz'⟩ hle hcv S6
      subst hb
      have hm := List.mem_of_getElem? hz
      have hzl := hrl z hm
      have hz0 : z.length ≠ 0 := fun q => hr z hm (List.length_eq_zero_iff.mp q)
      refine R_noIf ⟨rfl, ?_⟩
      rw [if_pos rfl]
      (repeat (walk_at "w"))
      with_reducible refine R_len_list S6 hz' (by (first | lia | omega)) ?_
      intro _ _
      (repeat (walk_at "w"))
      rw [show ((z.length : Nat) : Int) - 1 = ((z.length - 1 : Nat) : Int) from by (first | lia | omega)]
      with_reducible refine R_smul (a := 32) sp_eq (by (first | lia | omega)) ?_
      intro x1 _ _ hx1
      (repeat (walk_at "w"))
      with_reducible refine R_sadd (by rw [hx1, List.length_replicate, tab_cps]; simp only [List.length_cons, List.length_nil]; (first | lia | omega)) ?_
      intro x2 _ _ hx2
      exact CNx.same S6 (isS_of (str_of (by rw [hx2, hx1, tab_cps])))
    intro d3 ρ3 h3 t3 hle3 hd3 S3
    rw [filt_true] at hd3
    have hfl : (rows.map fun row : List Nat => (⟨(List.replicate (row.length - 1) 32 ++ [9]).toArray⟩ : Str)).flatMap (·.cps.toList) = leadL rows := by
      rw [List.flatMap_map]; rfl
    (repeat (walk_at "w"))
    with_reducible refine R_join emp_eq S3 hd3 (by rw [hfl]; (first | lia | omega)) ?_
    intro x4 _ _ hx4
    rw [hfl] at hx4
    (repeat (walk_at "w"))
    have hsz : x4.cps.size ≤ 1000 := by rw [← Array.length_toList, hx4]; (first | lia | omega)
    with_reducible refine (wcls_ok w x4 _ _ _ (by rw [hx4]; exact leadL_ws rows) hsz).use B S3 (by (first | lia | omega)) (by (first | lia | omega)) ?_
    intro r h5 t5 ρ5 S5 hle5 hP
    (repeat (walk_at "w"))
    refine hQ0 _ _ ?_; exact Fin.intro S5 (by rw [← hx4]; exact hP)
theorem alike_ok (w : World) (a b : Addr) (sg : Bool) (near far : List (List Nat)) (h : Heap) (ρ : Rl) (ha : Lst (RowIs ρ) ρ a near) (hb : Lst (RowIs ρ) ρ b far) (hr : ∀ row ∈ near, row ≠ []) (hr' : ∀ row ∈ far, row ≠ []) (hl : (leadL near).length ≤ 900) (hl' : (leadL far).length ≤ 900)
    (hn : near.length < 64) (hf : far.length < 64) (hz : ∀ row ∈ near, row.length ≤ 900) (hz' : ∀ row ∈ far, row.length ≤ 900) :
    CallOK PG w (hd.heap_1 w.params) (.ref 305) ⟨[.ref a, .ref b, .bool sg], []⟩ 4 90 h ρ
      (fun ρ' r => ∃ q : Bool, r = .bool q ∧ (q = true ↔ ((wsOf (leadL near) = wsOf (leadL far)) ↔ (sg = true ∨ (near.map List.length).Perm (far.map List.length))))) := by
  refine' call_def0 (ns := ["near", "far", "single", "alike"]) (l₀ := [some (.ref a), some (.ref b), some (.bool sg), none]) (dn := 3) (un := 87) ?ho ?hcd ?hb ?hl ?hns ?hnd ?hln ?h1 ?h2 ?h3 ?h4 ?body
  case ho => k_is
  case hcd => k_is
  case hb => intro s _; exact BindsTo.of_eq rfl
  case hl => exact locs rfl
  case hns => exact binds3 _ (by decide) (by decide) (by decide)
  case hnd => decide
  case hln => rfl
  case h1 => rfl
  case h2 => rfl
  case h3 => rfl
  case h4 => decide
  case body =>
    intro A L h₁ G D O t E B hd hu S Q0 hQ0
    (repeat (walk_at "w"))
    with_reducible refine R_iter_lst B.hh (P := RowIs ρ) (xs := near) S ha ?_
    intro I2 f2 h2 WS2 T2 hw2 S2 hfz2
    ((with_reducible refine' R_fE (P := (fun ρ' => RowIs ρ')) (fun _ => true) (fun row : List Nat => row.length) (fun _ => IsN) ?hmx133 T2 ?hPx133 hw2 S2 hfz2 ?_ ?hcellx133 ?hkindx133 ?hxx133 ?_ ?_); (case hmx133 => first | exact fun _ _ _ _ _ q => q | exact fun _ _ _ _ hle q => q.le hle); (case hPx133 => first | exact fun _ _ ⟨z, hz, q⟩ => ⟨z, hz, fun _ _ => q⟩ | exact fun _ _ ⟨z, hz, q⟩ => ⟨z, hz, fun _ hle => q.le hle⟩); (case hcellx133 => decide); (case hkindx133 => exact rfl); (case hxx133 => exact rfl))
    · (first | lia | omega)
    · intro i v z C ρ₁ d e f' h t E' hz1 ⟨b, hb, hz2⟩ hle hcv S6
      subst hb
      have hm := hz z (List.mem_of_getElem? hz1)
      refine R_noIf ⟨rfl, ?_⟩
      rw [if_pos rfl]
      (repeat (walk_at "w"))
      with_reducible refine R_len_list S6 hz2 (by (first | lia | omega)) ?_
      intro u _
      exact CNx.same S6 ⟨u, rfl⟩
    intro d3 ρ3 h3 t3 hle3 hd3 S3
    rw [filt_true] at hd3
    refine cps fun X hX => ?_; obtain ⟨vs3, n3, g3, r3⟩ := hd3; refine hX ?_; clear hX X
    (repeat (walk_at "w"))
    with_reducible refine R_sorted S3 (S3.get g3) (natsI r3) (by simp only [List.length_map]; exact hn) ?_
    intro d4 h4 ρ4 ys4 S4 hle4 hd4 hp4 hs4
    (repeat (walk_at "w"))
    with_reducible refine R_iter_lst B.hh (P := RowIs ρ4) (xs := far) S4 ((hb.le (hle3.trans hle4)).mono fun v z q => q.le (hle3.trans hle4)) ?_
    intro I5 f5 h5 WS5 T5 hw5 S5 hfz5
    ((with_reducible refine' R_fE (P := (fun ρ' => RowIs ρ')) (fun _ => true) (fun row : List Nat => row.length) (fun _ => IsN) ?hmx137 T5 ?hPx137 hw5 S5 hfz5 ?_ ?hcellx137 ?hkindx137 ?hxx137 ?_ ?_); (case hmx137 => first | exact fun _ _ _ _ _ q => q | exact fun _ _ _ _ hle q => q.le hle); (case hPx137 => first | exact fun _ _ ⟨z, hz, q⟩ => ⟨z, hz, fun _ _ => q⟩ | exact fun _ _ ⟨z, hz, q⟩ => ⟨z, hz, fun _ hle => q.le hle⟩); (case hcellx137 => decide); (case hkindx137 => exact rfl); (case hxx137 => exact rfl))
    · (first | lia | omega)
    · intro i v z C ρ₁ d e f' h t E' hz1 ⟨b, hb, hz2⟩ hle hcv S6
      subst hb
      have hm := hz' z (List.mem_of_getElem? hz1)
      refine R_noIf ⟨rfl, ?_⟩
      rw [if_pos rfl]
      (repeat (walk_at "w"))
      with_reducible refine R_len_list S6 hz2 (by (first | lia | omega)) ?_
      intro u _
      exact CNx.same S6 ⟨u, rfl⟩
    intro d6 ρ6 h6 t6 hle6 hd6 S6
    rw [filt_true] at hd6
    refine cps fun X hX => ?_; obtain ⟨vs6, n6, g6, r6⟩ := hd6; refine hX ?_; clear hX X
    (repeat (walk_at "w"))
    with_reducible refine R_sorted S6 (S6.get g6) (natsI r6) (by simp only [List.length_map]; exact hf) ?_
    intro d7 h7 ρ7 ys7 S7 hle7 hd7 hp7 hs7
    refine cps fun X hX => ?_; obtain ⟨vs4, n4, g4, r4⟩ := hd4; refine hX ?_; clear hX X
    refine cps fun X hX => ?_; obtain ⟨vs7, n7, g7, r7⟩ := hd7; refine hX ?_; clear hX X
    (repeat (walk_at "w"))
    with_reducible refine R_eqD (d := .list (ys4.map dI)) (e := .list (ys7.map dI)) ?_ ?_ ?_ ?_ (by (first | lia | omega)) ?_
    · exact RD.lst (S7.get ((hle6.trans hle7).at g4)) (RDA.of r4 fun v x _ p => RD.int p)
    · exact RD.lst (S7.get g7) (RDA.of r7 fun v x _ p => RD.int p)
    · have := ok_ints (fun n : Int => n) 7 ys4; simp only [kqdOk]; exact this
    · have := ok_ints (fun n : Int => n) 7 ys7; simp only [kqdOk]; exact this
    intro q hq
    have hq2 : q = true ↔ (near.map List.length).Perm (far.map List.length) := by
      rw [hq]
      constructor
      · intro e
        simp only [Dat.list.injEq] at e
        have e := map_inj (fun x y e => by simpa using e) e
        have := hp4.symm.trans ((e ▸ List.Perm.refl _ : ys4.Perm ys7).trans hp7)
        have q2 := this.map Int.toNat
        simpa [List.map_map, Function.comp_def] using q2
      · intro p
        rw [sorted_uniq (hp4.trans ((p.map fun n : Nat => (n : Int)).trans hp7.symm)) hs4 hs7]
    (repeat (walk_at "w"))
    rename St _ _ _ _ _ => S8
    have hle8 := (((hle3.trans hle4).trans hle6).trans hle7)
    with_reducible refine (lead_ok w a near _ _ ((ha.le hle8).mono fun v z q => q.le hle8) hr hl).use B S8 (by (first | lia | omega)) (by (first | lia | omega)) ?_
    intro r9 h9 t9 ρ9 S9 hle9 hP9
    refine cps fun X hX => ?_; obtain ⟨x, dx, es, n, T, rfl, hx1, hx2, hx3, hx4, hx5⟩ := id hP9; refine hX ?_; clear hX X
    with_reducible refine' R_method ?X (S9.get hx1) (S9.get hx2) ?hg ?hf ?ht hx4 ?_
    case X => exact (Gl.X (Bx.gl' (by with_reducible assumption) (by with_reducible assumption)))
    case hg => k_is
    case hf => k_is
    case ht => k_is
    (repeat (walk_at "w"))
    with_reducible refine (lead_ok w b far _ _ ((hb.le (hle8.trans hle9)).mono fun v z q => q.le (hle8.trans hle9)) hr' hl').use B S9 (by (first | lia | omega)) (by (first | lia | omega)) ?_
    intro r10 h10 t10 ρ10 S10 hle10 hP10
    (repeat (walk_at "w"))
    with_reducible refine (equal_ok w _ _ _ _ _ _ (hP9.le hle10) hP10).use B S10 (by (first | lia | omega)) (by (first | lia | omega)) ?_
    intro r11 h11 t11 ρ11 S11 hle11 z227k6; refine cps fun X hX => ?_; obtain ⟨b1, rfl, hb1⟩ := z227k6; refine hX ?_; clear hX X
    (repeat (walk_at "w"))
    have key : ∀ q' : Bool, (q' = true ↔ (sg = true ∨ (near.map List.length).Perm (far.map List.length))) → ((b1 == q') = true ↔ ((wsOf (leadL near) = wsOf (leadL far)) ↔ (sg = true ∨ (near.map List.length).Perm (far.map List.length)))) := by
      intro q' h
      rw [← hb1, ← h]
      cases b1 <;> cases q' <;> simp
    refine R_ite (fun hs => ?_) (fun hs => ?_)
    · (repeat (walk_at "w"))
      refine hQ0 _ _ ?_; exact Fin.intro S11 ⟨_, rfl, key _ (by simp [hs])⟩
    · (repeat (walk_at "w"))
      refine hQ0 _ _ ?_; exact Fin.intro S11 ⟨_, rfl, key _ (by rw [hq2]; simp [hs])⟩
theorem stands_of {c : FrC} {ρ : Rl} {b : Addr} {o : Obj} (e : ρ b o) : Stands c ρ b := .inl ⟨_, e⟩
theorem inAt {K : Frag} {h : Heap} {a : Addr} {o : Obj} (X : K.In h) (e : K.lookup a = some o) : h.get? a = some o := X _ _ e
theorem patN (w : World) : (hd.heap_1 w.params).lookup 48 = some { cls := .type "re.Pattern", data := .fields #[.str "[\\x00-\\x1F\\x7F]" 326, .int 32 349, .int 0 0, .none, .none, .ref 47, .int 0 0] } := by k_is
theorem patN2 (w : World) : (hd.heap_1 w.params).lookup 47 = some { cls := .type "tuple", data := .seq #[.int 14 0, .int 10 0, .int 4 0, .int 1 0, .int 1 0, .int 22 0, .int 0 0, .int 31 0, .int 16 0, .int 127 0, .int 0 0, .int 13 0, .int 7 0, .int 22 0, .int 0 0, .int 31 0, .int 16 0, .int 127 0, .int 0 0, .int 1 0] } := by k_is
theorem patV (w : World) : (hd.heap_1 w.params).lookup 53 = some { cls := .type "re.Pattern", data := .fields #[.str "[\\x00-\\x08\\x0A-\\x1F\\x7F]" 352, .int 32 383, .int 0 0, .none, .none, .ref 52, .int 0 0] } := by k_is
theorem patV2 (w : World) : (hd.heap_1 w.params).lookup 52 = some { cls := .type "tuple", data := .seq #[.int 14 0, .int 14 0, .int 4 0, .int 1 0, .int 1 0, .int 9 0, .int 4294966783 0, .int 0 0, .int 0 0, .int 2147483648 0, .int 0 0, .int 0 0, .int 0 0, .int 0 0, .int 0 0, .int 13 0, .int 11 0, .int 9 0, .int 4294966783 0, .int 0 0, .int 0 0, .int 2147483648 0, .int 0 0, .int 0 0, .int 0 0, .int 0 0, .int 0 0, .int 1 0] } := by k_is
theorem convert_ok (w : World) (self : Value) (x : Str) (tx : Tok) (b : Bool) (h : Heap) (ρ : Rl) (hx : ∀ c ∈ x.cps.toList, 65 ≤ c ∧ c ≤ 122) (hz : x.cps.size ≤ 1000) :
    CallOK PG w (hd.heap_1 w.params) (.ref 83) ⟨[self, .str x tx], [("name", .bool b)]⟩ 1 10 h ρ (fun _ r => r = .str x tx) := by
  refine' call_def0 (ns := ["self", "value", "name", "regex"]) (l₀ := [some self, some (.str x tx), some (.bool b), none]) (dn := 0) (un := 7) ?ho ?hcd ?hb ?hl ?hns ?hnd ?hln ?h1 ?h2 ?h3 ?h4 ?body
  case ho => k_is
  case hcd => k_is
  case hb => intro s _; exact BindsTo.of_eq rfl
  case hl => exact locs rfl
  case hns => exact binds3 _ (by decide) (by decide) (by decide)
  case hnd => decide
  case hln => rfl
  case h1 => rfl
  case h2 => rfl
  case h3 => rfl
  case h4 => decide
  case body =>
    intro A L h₁ G D O t E B hd hu S Q0 hQ0
    (repeat (walk_at "w"))
    refine R_yes rfl ?_
    (repeat (walk_at "w"))
    refine R_ite (fun hb => ?_) (fun hb => ?_)
    · (repeat (walk_at "w"))
      rename St _ _ _ _ _ => S2
      have X := (B.gl' S2).X
      with_reducible refine R_gmSearch (inAt X (patN w)) rfl rfl ?_
      (repeat (walk_at "w"))
      with_reducible refine R_search (inAt X (patN w)) (inAt X (patN2 w)) (code := codeN) (by decide +kernel) (.inl rfl) rfl hx hz ?_
      (repeat (walk_at "w"))
      refine R_no (by decide) ?_
      (repeat (walk_at "w"))
      refine hQ0 _ _ ?_; exact Fin.intro S2 rfl
    · (repeat (walk_at "w"))
      rename St _ _ _ _ _ => S2
      have X := (B.gl' S2).X
      with_reducible refine R_gmSearch (inAt X (patV w)) rfl rfl ?_
      (repeat (walk_at "w"))
      with_reducible refine R_search (inAt X (patV w)) (inAt X (patV2 w)) (code := codeV) (by decide +kernel) (.inr rfl) rfl hx hz ?_
      (repeat (walk_at "w"))
      refine R_no (by decide) ?_
      (repeat (walk_at "w"))
      refine hQ0 _ _ ?_; exact Fin.intro S2 rfl
noncomputable def HdrIs (ρ : Rl) (v : Value) (H : Addr) : Prop := ∃ x dx hs tk n, v = .ref x ∧ ρ x (instObj 182 dx) ∧ ρ dx (dictOf [⟨hs, .str "_headers" tk, .ref H⟩] n)
theorem hinit_ok (w : World) (x dx : Addr) (hxd : x ≠ dx) (h : Heap) (ρ : Rl) :
    CallMut PG w (hd.heap_1 w.params) (.ref 76) ⟨[.ref x], []⟩ 1 10 [(dx, dictOf [] 0)] h (ρ.add x (instObj 182 dx))
      (fun own ρ' r => r = .none ∧ ∃ o, own = [(dx, o)] ∧ ∃ hs tk n H, o = dictOf [⟨hs, .str "_headers" tk, .ref H⟩] n ∧ ρ' H (lstO [] 0) ∧ h.get? H = none) := by
  refine' call_def0M (ns := ["self", "headers", "k", "v"]) (l₀ := [some (.ref x), some .none, none, none]) (dn := 0) (un := 7) ?ho ?hcd ?hb ?hl ?hns ?hnd ?hln ?h1 ?h2 ?h3 ?h4 ?body
  case ho => k_is
  case hcd => k_is
  case hb => intro s X; exact binds_K X rfl (by k_is) rfl rfl rfl
  case hl => exact locs rfl
  case hns => exact binds2 _ (by decide)
  case hnd => decide
  case hln => rfl
  case h1 => rfl
  case h2 => rfl
  case h3 => rfl
  case h4 => decide
  case body =>
    intro A L h₁ G D O t E B hd hu S Q0 hQ0
    have hx0 : (ρ.add x (instObj 182 dx)) x (instObj 182 dx) := Rl.at_add _ _ _
    (repeat (walk_at "w"))
    refine R_no (by decide) ?_
    (repeat (walk_at "w"))
    with_reducible refine R_listNewMu (by with_reducible assumption) (by simp) ?_
    intro H h2 S2
    (repeat (walk_at "w"))
    rename St _ _ _ _ _ => S3
    with_reducible refine call_type_of (Tx := "list") (typeIs_get (S3.muget (k := 0) rfl) rfl) (by decide +kernel) ?_
    (repeat (walk_at "w"))
    refine R_no (by decide) ?_
    (repeat (walk_at "w"))
    ((with_reducible refine' R_setOwn (j := 1) ?Bx162 ?Sx162 hx0 ?hmx162 ?hsx162 ?hpx162 ?htx162 ?hhx162 ?hlx162 ?hzx162 ?_); (case Bx162 => with_reducible assumption); (case Sx162 => with_reducible assumption); (case hmx162 => exact rfl); (case hsx162 => k_is); (case hpx162 => k_is); (case htx162 => k_is); (case hhx162 => k_is); (case hlx162 => exact rfl); (case hzx162 => first | exact Nat.le_of_ble_eq_true rfl | decide | simp))
    intro hs2 tk2 h4 t4 S4
    (repeat (walk_at "w"))
    refine R_yes rfl ?_
    (repeat (walk_at "w"))
    have hN := (S4.N _ (List.mem_of_getElem? (show _ = some (H, lstO [] 0) from by rfl : (_ : List (Addr × Obj))[0]? = _))).2.2
    have S5 := S4.freeze (k := 0) rfl
    with_reducible refine R_iter_list (items := #[]) B.hh S5 (IsList.of_get (S5.get (Rl.at_add _ _ _))) (stands_of (Rl.at_add _ _ _)) ?_
    intro I o h6 WS T hw S6 hfz
    with_reducible refine R_forEmpty T hw S6 ?_
    intro h7 t7 S7
    (repeat (walk_at "w"))
    refine hQ0 _ _ ?_; refine FinM.intro S7 ⟨rfl, _, rfl, _, _, _, H, rfl, Rl.at_add _ _ _, ?_⟩ rfl
    simp only [hide_get] at hN
    split at hN
    · rename_i hm
      have hmd := S4.md
      simp [adr] at hm
      simp [hm] at hmd
    · exact hN
theorem hdr_ok (w : World) (h : Heap) (ρ : Rl) :
    CallOK PG w (hd.heap_1 w.params) (.ref 182) ⟨[], []⟩ 2 11 h ρ (fun ρ' r => ∃ H, HdrIs ρ' r H ∧ ρ' H (lstO [] 0) ∧ h.get? H = none) := by
  refine' (make_ok (fI := 76) (Post := fun o ρ' x dx => ∃ hs tk n H, o = dictOf [⟨hs, .str "_headers" tk, .ref H⟩] n ∧ ρ' H (lstO [] 0) ∧ h.get? H = none) ?hm ?hi ?hf ?init ?hmono).mono (Nat.le_refl _) (Nat.le_refl _) ?_
  case hm => k_is
  case hi => k_is
  case hf => k_is
  case init =>
    intro dx x h' hx hs A R G D O t
    have := hinit_ok w x dx hx h' ρ
    refine (CallMut.mono this ?_) A R G D O t
    intro own ρ' r z109k3; refine cps fun X hX => ?_; obtain ⟨a, o, b, hs', tk, n, H, d, e, f⟩ := z109k3; refine hX ?_; clear hX X
    refine ⟨a, o, b, hs', tk, n, H, d, e, ?_⟩
    cases q : h.get? H with
    | none => rfl
    | some _ => rw [hs _ _ q] at f; cases f
  case hmono => exact fun o ρ₁ ρ₂ x dx hle ⟨hs, tk, n, H, a, b, d⟩ => ⟨hs, tk, n, H, a, hle _ _ b, d⟩
  intro ρ' r hle z115k3; refine cps fun X hX => ?_; obtain ⟨x, dx, o, rfl, hx, hdx, hs, tk, n, H, rfl, h1, h2⟩ := z115k3; refine hX ?_; clear hX X
  exact ⟨H, ⟨x, dx, hs, tk, n, rfl, hx, hdx⟩, h1, h2⟩
noncomputable def keepT (nm : Txs) (p : Txs × Txs) : Bool := lowL p.1 != lowL nm
theorem st_bne (a b : Txs) : (stL a != stL b) = (a != b) := by
  rw [Bool.eq_iff_iff]; simp only [bne_iff_ne, ne_eq]; exact not_congr ⟨stL_inj, fun e => by rw [e]⟩
theorem st_beq (a b : Txs) : (stL a == stL b) = (a == b) := by
  rw [Bool.eq_iff_iff]; simp only [beq_iff_eq]; exact ⟨stL_inj, fun e => by rw [e]⟩
theorem delitem_ok (w : World) (self : Value) (H : Addr) (nm : Txs) (tn : Tok) (hvs : List Value) (n : Nat) (pairs : List (Txs × Txs)) (h : Heap) (ρ : Rl) (hself : HdrIs ρ self H) (hp : Are (PairIs ρ) hvs pairs) (hnm : OkT nm) (hok : ∀ p ∈ pairs, OkT p.1) (hz : pairs.length ≤ 1000) :
    CallMut PG w (hd.heap_1 w.params) (.ref 102) ⟨[self, .str (stL nm) tn], []⟩ 2 20 [(H, lstO hvs n)] h ρ (fun own ρ' r => r = .none ∧ ∃ hvs' n', own = [(H, lstO hvs' n')] ∧ Are (PairIs ρ') hvs' (pairs.filter (keepT nm))) := by
  refine cps fun X hX => ?_; obtain ⟨x, dx, hs, tk, n0, rfl, hx0, hd0⟩ := hself; refine hX ?_; clear hX X
  refine' call_defCM (ns := ["self"]) (l₀ := [some (.ref x)]) (dn := 1) (un := 17) ?ho ?hcd ?hb ?hkd ?hndc ?hns ?hnd ?hln ?h1 ?h2 ?h3 ?body
  case ho => k_is
  case hcd => k_is
  case hb => intro s _; exact BindsTo.of_eq rfl
  case hkd => exact rfl
  case hndc => decide
  case hns => exact lk1 _
  case hnd => decide
  case hln => rfl
  case h1 => rfl
  case h2 => rfl
  case h3 => rfl
  case body =>
    intro A L h₁ G D O t cells E Y B hd hu S Q0 hQ0
    refine cps fun X hX => ?_; obtain ⟨o₁, rfl, q1⟩ := Y.one; refine hX ?_; clear hX X
    change o₁.data = .cell (some (.str (stL nm) tn)) at q1
    (repeat (walk_at "w"))
    ((with_reducible refine' R_method ?Xx167 (S.at0 hx0) (S.at0 hd0) ?hgx167 ?hfx167 ?htx167 ?hlx167 ?_); (case Xx167 => exact (Gl.X (Bx.gl' (by with_reducible assumption) (by with_reducible assumption)))); (case hgx167 => k_is); (case hfx167 => k_is); (case htx167 => k_is); (case hlx167 => first | with_reducible assumption | exact rfl))
    (repeat (walk_at "w"))
    with_reducible refine R_lower (low_st hnm) (short hnm.low.len) ?_
    intro tl _
    (repeat (walk_at "w"))
    refine (convert_ok w _ _ _ true _ _ hnm.low.cps hnm.low.sz).use B S (by (first | lia | omega)) (by (first | lia | omega)) ?_
    rintro r h2 t2 ρ2 S2 hle2 rfl
    (repeat (walk_at "w"))
    rename St _ _ _ _ _ => S3
    ((with_reducible refine' R_getOwn ?Xx171 (S3.at0 hx0) (S3.at0 hd0) ?hgx171 ?hhx171 ?hax171 ?hnx171 ?hlx171 ?hvx171 ?_); (case Xx171 => exact (Gl.X (Bx.gl' (by with_reducible assumption) (by with_reducible assumption)))); (case hgx171 => k_is); (case hhx171 => k_is); (case hax171 => k_is); (case hnx171 => k_is); (case hlx171 => first | with_reducible assumption | exact rfl); (case hvx171 => first | exact rfl | (simp only [handedIn]; done)); intro _)
    have S4 := S3.freeze (k := 1) rfl
    have hH : (ρ2.add H (lstO hvs n)) H (lstO hvs n) := Rl.at_add _ _ _
    have hLs : Lst (PairIs (ρ2.add H (lstO hvs n))) (ρ2.add H (lstO hvs n)) H pairs := ⟨_, _, hH, hp.mono fun v p q => q.le (hle2.trans (Rl.le_add _ _ _))⟩
    with_reducible refine R_iter_lst B.hh S4 hLs ?_
    intro I f5 h5 WS T hw S5 hfz
    ((with_reducible refine' R_fE' (P := (fun ρ' => PairIs ρ')) (keepT nm) (fun p : Txs × Txs => p) (fun ρ' => PairIs ρ') ?hmx172 T ?hPx172 hw S5 hfz ?_ ?hcellx172 ?hkindx172 ?hxx172 ?_ ?_); (case hmx172 => first | exact fun _ _ _ _ _ q => q | exact fun _ _ _ _ hle q => q.le hle); (case hPx172 => first | exact fun _ _ ⟨z, hz, q⟩ => ⟨z, hz, fun _ _ => q⟩ | exact fun _ _ ⟨z, hz, q⟩ => ⟨z, hz, fun _ hle => q.le hle⟩); (case hcellx172 => decide); (case hkindx172 => exact rfl); (case hxx172 => exact rfl))
    · (first | lia | omega)
    · intro i v z C ρ₁ d e f' h t E' hz1 ⟨T1, a1, b1, m1, he1, hT1, ⟨ta, ha1⟩, hb1⟩ hle hcv S6
      subst he1 ha1
      have hzok := hok z (List.mem_of_getElem? hz1)
      refine R_oneIf ?_
      (repeat (walk_at "w"))
      with_reducible refine R_titem (i := 0) (j := 0) (S6.get hT1) (by decide) (by decide) rfl rfl ?_ (by (first | exact rfl | with_unfolding_all rfl | (intro _; exact rfl) | (intro _; with_unfolding_all rfl))) (by (first | exact rfl | with_unfolding_all rfl | (intro _; exact rfl) | (intro _; with_unfolding_all rfl)))
      (repeat (walk_at "w"))
      with_reducible refine R_lower (low_st hzok) (short hzok.low.len) ?_
      intro tl2 _
      (repeat (walk_at "w"))
      refine ⟨st_bne _ _, ?_⟩
      refine R_ite (fun hq => ?_) (fun hq => ?_)
      · (repeat (walk_at "w"))
        exact CNx.same S6 ⟨T1, _, b1, m1, rfl, hT1, ⟨_, rfl⟩, hb1⟩
      · exact CNx.same S6 trivial
    intro d6 ρ6 h6 t6 hfr hle6 hd6 S6
    rw [List.map_id'] at hd6
    (repeat (walk_at "w"))
    ((with_reducible refine' R_getOwn ?Xx180 (S6.at0 hx0) (S6.at0 hd0) ?hgx180 ?hhx180 ?hax180 ?hnx180 ?hlx180 ?hvx180 ?_); (case Xx180 => exact (Gl.X (Bx.gl' (by with_reducible assumption) (by with_reducible assumption)))); (case hgx180 => k_is); (case hhx180 => k_is); (case hax180 => k_is); (case hnx180 => k_is); (case hlx180 => first | with_reducible assumption | exact rfl); (case hvx180 => first | exact rfl | (simp only [handedIn]; done)); intro _)
    (repeat (walk_at "w"))
    refine cps fun X hX => ?_; obtain ⟨dvs, dn, hd6, hr6⟩ := hd6; refine hX ?_; clear hX X
    have hH6 := hle6.at hH
    obtain ⟨S7, hle7⟩ := S3.thaw2 (k := 1) rfl S6 ((Rl.le_add _ _ _).trans hle6) hH6
    have S8 := S7.sub (Sub.push h6 { cls := .type "slice", data := .fields #[.none, .none, .none] })
    have hne : d6 ≠ H := fun e => hfr H _ hH e.symm
    have hlenp : hvs.length = pairs.length := hp.len
    have hlend : dvs.length ≤ pairs.length := by rw [hr6.len]; exact List.length_filter_le _ _
    show wpAny _ _ (setItem (.ref H) (.ref h6.objs.size) (.ref d6)) _ _ _
    refine R_setAll (k := 0) S8 rfl ⟨hd6, hne⟩ (Heap.get?_push_size _ rfl) (by (first | lia | omega)) ?_
    intro h9 n9 S9
    (repeat (walk_at "w"))
    refine hQ0 _ _ ?_; exact FinM.intro (S9.drop (mu' := [(H, _)]) (.cons_cons _ (.cons _ .slnil))) ⟨rfl, _, _, rfl, hr6.mono fun v p q => q.drop S6 hH6⟩ rfl
theorem setitem_ok (w : World) (self : Value) (H : Addr) (nm vl : Txs) (tn tv : Tok) (hvs : List Value) (n : Nat) (pairs : List (Txs × Txs)) (h : Heap) (ρ : Rl) (hself : HdrIs ρ self H) (hp : Are (PairIs ρ) hvs pairs) (hnm : OkT nm) (hvl : OkT vl) (hok : ∀ p ∈ pairs, OkT p.1) (hz : pairs.length ≤ 900) :
    CallMut PG w (hd.heap_1 w.params) (.ref 97) ⟨[self, .str (stL nm) tn, .str (stL vl) tv], []⟩ 3 30 [(H, lstO hvs n)] h ρ (fun own ρ' r => r = .none ∧ ∃ hvs' n', own = [(H, lstO hvs' n')] ∧ Are (PairIs ρ') hvs' (pairs.filter (keepT nm) ++ [(nm, vl)])) := by
  have hself' := hself
  refine cps fun X hX => ?_; obtain ⟨x, dx, hs, tk, n0, rfl, hx0, hd0⟩ := hself; refine hX ?_; clear hX X
  refine' call_def0M (ns := ["self", "name", "val"]) (l₀ := [some (.ref x), some (.str (stL nm) tn), some (.str (stL vl) tv)]) (dn := 2) (un := 27) ?ho ?hcd ?hb ?hl ?hns ?hnd ?hln ?h1 ?h2 ?h3 ?h4 ?body
  case ho => k_is
  case hcd => k_is
  case hb => intro s _; exact BindsTo.of_eq rfl
  case hl => exact locs rfl
  case hns => exact binds3 _ (by decide) (by decide) (by decide)
  case hnd => decide
  case hln => rfl
  case h1 => rfl
  case h2 => rfl
  case h3 => rfl
  case h4 => decide
  case body =>
    intro A L h₁ G D O t E B hd hu S Q0 hQ0
    (repeat (walk_at "w"))
    with_reducible refine' R_delItem B S (S.at0 hx0) (S.at0 hd0) ?hq ?hs ?hf ?_
    case hq => k_is
    case hs => k_is
    case hf => k_is
    refine (delitem_ok w _ H nm tn hvs n pairs _ _ hself' hp hnm hok (by (first | lia | omega))).use (rest := []) B S (by (first | lia | omega)) (by (first | lia | omega)) ?_
    intro r h2 t2 ρ2 own2 ho2 S2 hle2 z99k8; refine cps fun X hX => ?_; obtain ⟨rfl, hvs2, n2, rfl, hp2⟩ := z99k8; refine hX ?_; clear hX X
    (repeat (walk_at "w"))
    ((with_reducible refine' R_getOwn ?Xx185 (S2.at0 hx0) (S2.at0 hd0) ?hgx185 ?hhx185 ?hax185 ?hnx185 ?hlx185 ?hvx185 ?_); (case Xx185 => exact (Gl.X (Bx.gl' (by with_reducible assumption) (by with_reducible assumption)))); (case hgx185 => k_is); (case hhx185 => k_is); (case hax185 => k_is); (case hnx185 => k_is); (case hlx185 => first | with_reducible assumption | exact rfl); (case hvx185 => first | exact rfl | (simp only [handedIn]; done)); intro _)
    show wpAny _ _ (getMethod (.ref H) _ _) _ _ _
    (repeat (walk_at "w"))
    ((with_reducible refine' R_method ?Xx187 (S2.at0 hx0) (S2.at0 hd0) ?hgx187 ?hfx187 ?htx187 ?hlx187 ?_); (case Xx187 => exact (Gl.X (Bx.gl' (by with_reducible assumption) (by with_reducible assumption)))); (case hgx187 => k_is); (case hfx187 => k_is); (case htx187 => k_is); (case hlx187 => first | with_reducible assumption | exact rfl))
    (repeat (walk_at "w"))
    refine (convert_ok w _ _ _ true _ _ hnm.cps hnm.sz).use B S2 (by (first | lia | omega)) (by (first | lia | omega)) ?_
    rintro r h3 t3 ρ3 S3 hle3 rfl
    (repeat (walk_at "w"))
    ((with_reducible refine' R_method ?Xx190 (S3.at0 hx0) (S3.at0 hd0) ?hgx190 ?hfx190 ?htx190 ?hlx190 ?_); (case Xx190 => exact (Gl.X (Bx.gl' (by with_reducible assumption) (by with_reducible assumption)))); (case hgx190 => k_is); (case hfx190 => k_is); (case htx190 => k_is); (case hlx190 => first | with_reducible assumption | exact rfl))
    (repeat (walk_at "w"))
    refine (convert_ok w _ _ _ false _ _ hvl.cps hvl.sz).use B S3 (by (first | lia | omega)) (by (first | lia | omega)) ?_
    rintro r h4 t4 ρ4 S4 hle4 rfl
    (repeat (walk_at "w"))
    with_reducible refine R_tupNew S4 (by simp) ?_
    intro T5 h5 S5
    (repeat (walk_at "w"))
    have hlp : hvs2.length ≤ 900 := by rw [hp2.len]; exact Nat.le_trans (List.length_filter_le _ _) hz
    with_reducible refine R_append (k := 0) S5 rfl (by (first | lia | omega)) ?_
    intro h6 n6 S6
    (repeat (walk_at "w"))
    refine hQ0 _ _ ?_; refine FinM.intro S6 ⟨rfl, _, _, rfl, (hp2.mono fun v p q => q.le ((hle3.trans hle4).trans (Rl.le_add _ _ _))).append (.cons ⟨T5, _, _, _, rfl, Rl.at_add _ _ _, ⟨_, rfl⟩, ⟨_, rfl⟩⟩ .nil)⟩ rfl
theorem items_ok (w : World) (self : Value) (H : Addr) (hvs : List Value) (n : Nat) (pairs : List (Txs × Txs)) (h : Heap) (ρ : Rl) (hself : HdrIs ρ self H) (hp : Are (PairIs ρ) hvs pairs) (hz : pairs.length ≤ 900) :
    CallMut PG w (hd.heap_1 w.params) (.ref 146) ⟨[self], []⟩ 1 10 [(H, lstO hvs n)] h ρ (fun own ρ' r => own = [(H, lstO hvs n)] ∧ ∃ d, r = .ref d ∧ Lst (PairIs ρ') ρ' d pairs) := by
  refine cps fun X hX => ?_; obtain ⟨x, dx, hs, tk, n0, rfl, hx0, hd0⟩ := hself; refine hX ?_; clear hX X
  refine' call_def0M (ns := ["self"]) (l₀ := [some (.ref x)]) (dn := 0) (un := 7) ?ho ?hcd ?hb ?hl ?hns ?hnd ?hln ?h1 ?h2 ?h3 ?h4 ?body
  case ho => k_is
  case hcd => k_is
  case hb => intro s _; exact BindsTo.of_eq rfl
  case hl => exact locs rfl
  case hns => exact binds1 []
  case hnd => decide
  case hln => rfl
  case h1 => rfl
  case h2 => rfl
  case h3 => rfl
  case h4 => decide
  case body =>
    intro A L h₁ G D O t E B hd hu S Q0 hQ0
    (repeat (walk_at "w"))
    ((with_reducible refine' R_getOwn ?Xx196 (S.at0 hx0) (S.at0 hd0) ?hgx196 ?hhx196 ?hax196 ?hnx196 ?hlx196 ?hvx196 ?_); (case Xx196 => exact (Gl.X (Bx.gl' (by with_reducible assumption) (by with_reducible assumption)))); (case hgx196 => k_is); (case hhx196 => k_is); (case hax196 => k_is); (case hnx196 => k_is); (case hlx196 => first | with_reducible assumption | exact rfl); (case hvx196 => first | exact rfl | (simp only [handedIn]; done)); intro _)
    (repeat (walk_at "w"))
    have S1 := S.sub (Sub.push h₁ { cls := .type "slice", data := .fields #[.none, .none, .none] })
    have hHl := IsList.of_get (S1.muget (k := 0) rfl)
    show wpAny _ _ (subscriptTail _ _ (.ref H) (.ref h₁.objs.size)) _ _ _
    refine tail_any hHl.typeIs list_getitem_lookup (wpAny_getItem_list_slice (lo := none) (hi := none) (st := none) hHl (Heap.IsSliceOf.new _ _ _ _) .none .none .none (by simp) ?_ (by rw [sizeLine_eq]; have := hp.len; simp; (first | lia | omega))) (by with_unfolding_all rfl)
    rw [slicePick_all]
    (repeat (walk_at "w"))
    refine hQ0 _ _ ?_; exact FinM.intro (S1.push (lstO hvs 0)) ⟨rfl, _, rfl, _, _, Rl.at_add _ _ _, hp.mono fun v p q => q.le (Rl.le_add _ _ _)⟩ rfl
noncomputable def sameT (nm : Txs) (p : Txs × Txs) : Bool := lowL p.1 == lowL nm
theorem getall_ok (w : World) (self : Value) (H : Addr) (nm : Txs) (tn : Tok) (hvs : List Value) (n : Nat) (pairs : List (Txs × Txs)) (h : Heap) (ρ : Rl) (hself : HdrIs ρ self H) (hp : Are (PairIs ρ) hvs pairs) (hnm : OkT nm) (hok : ∀ p ∈ pairs, OkT p.1) (hz : pairs.length ≤ 1000) :
    CallMut PG w (hd.heap_1 w.params) (.ref 121) ⟨[self, .str (stL nm) tn], []⟩ 2 20 [(H, lstO hvs n)] h ρ
      (fun own ρ' r => own = [(H, lstO hvs n)] ∧ ∃ d, r = .ref d ∧ Lst (fun v l => IsS v (stL l)) ρ' d ((pairs.filter (sameT nm)).map fun p => p.2)) := by
  refine cps fun X hX => ?_; obtain ⟨x, dx, hs, tk, n0, rfl, hx0, hd0⟩ := hself; refine hX ?_; clear hX X
  refine' call_defCM (ns := ["self"]) (l₀ := [some (.ref x)]) (dn := 1) (un := 17) ?ho ?hcd ?hb ?hkd ?hndc ?hns ?hnd ?hln ?h1 ?h2 ?h3 ?body
  case ho => k_is
  case hcd => k_is
  case hb => intro s _; exact BindsTo.of_eq rfl
  case hkd => exact rfl
  case hndc => decide
  case hns => exact lk1 _
  case hnd => decide
  case hln => rfl
  case h1 => rfl
  case h2 => rfl
  case h3 => rfl
  case body =>
    intro A L h₁ G D O t cells E Y B hd hu S Q0 hQ0
    refine cps fun X hX => ?_; obtain ⟨o₁, rfl, q1⟩ := Y.one; refine hX ?_; clear hX X
    change o₁.data = .cell (some (.str (stL nm) tn)) at q1
    (repeat (walk_at "w"))
    ((with_reducible refine' R_method ?Xx200 (S.at0 hx0) (S.at0 hd0) ?hgx200 ?hfx200 ?htx200 ?hlx200 ?_); (case Xx200 => exact (Gl.X (Bx.gl' (by with_reducible assumption) (by with_reducible assumption)))); (case hgx200 => k_is); (case hfx200 => k_is); (case htx200 => k_is); (case hlx200 => first | with_reducible assumption | exact rfl))
    (repeat (walk_at "w"))
    with_reducible refine R_lower (low_st hnm) (short hnm.low.len) ?_
    intro tl _
    (repeat (walk_at "w"))
    refine (convert_ok w _ _ _ true _ _ hnm.low.cps hnm.low.sz).use B S (by (first | lia | omega)) (by (first | lia | omega)) ?_
    rintro r h2 t2 ρ2 S2 hle2 rfl
    (repeat (walk_at "w"))
    rename St _ _ _ _ _ => S3
    ((with_reducible refine' R_getOwn ?Xx204 (S3.at0 hx0) (S3.at0 hd0) ?hgx204 ?hhx204 ?hax204 ?hnx204 ?hlx204 ?hvx204 ?_); (case Xx204 => exact (Gl.X (Bx.gl' (by with_reducible assumption) (by with_reducible assumption)))); (case hgx204 => k_is); (case hhx204 => k_is); (case hax204 => k_is); (case hnx204 => k_is); (case hlx204 => first | with_reducible assumption | exact rfl); (case hvx204 => first | exact rfl | (simp only [handedIn]; done)); intro _)
    have S4 := S3.freeze (k := 1) rfl
    have hH : (ρ2.add H (lstO hvs n)) H (lstO hvs n) := Rl.at_add _ _ _
    have hLs : Lst (PairIs (ρ2.add H (lstO hvs n))) (ρ2.add H (lstO hvs n)) H pairs := ⟨_, _, hH, hp.mono fun v p q => q.le (hle2.trans (Rl.le_add _ _ _))⟩
    with_reducible refine R_iter_lst B.hh S4 hLs ?_
    intro I f5 h5 WS T hw S5 hfz
    ((with_reducible refine' R_fE' (P := (fun ρ' => PairIs ρ')) (sameT nm) (fun p : Txs × Txs => p.2) (fun _ v l => IsS v (stL l)) ?hmx205 T ?hPx205 hw S5 hfz ?_ ?hcellx205 ?hkindx205 ?hxx205 ?_ ?_); (case hmx205 => first | exact fun _ _ _ _ _ q => q | exact fun _ _ _ _ hle q => q.le hle); (case hPx205 => first | exact fun _ _ ⟨z, hz, q⟩ => ⟨z, hz, fun _ _ => q⟩ | exact fun _ _ ⟨z, hz, q⟩ => ⟨z, hz, fun _ hle => q.le hle⟩); (case hcellx205 => decide); (case hkindx205 => exact rfl); (case hxx205 => exact rfl))
    · (first | lia | omega)
    · intro i v z C ρ₁ d e f' h t E' hz1 ⟨T1, a1, b1, m1, he1, hT1, ⟨ta, ha1⟩, hb1⟩ hle hcv S6
      subst he1 ha1
      have hzok := hok z (List.mem_of_getElem? hz1)
      refine R_oneIf ?_
      (repeat (walk_at "w"))
      with_reducible refine R_titem (i := 0) (j := 0) (S6.get hT1) (by decide) (by decide) rfl rfl ?_ (by (first | exact rfl | with_unfolding_all rfl | (intro _; exact rfl) | (intro _; with_unfolding_all rfl))) (by (first | exact rfl | with_unfolding_all rfl | (intro _; exact rfl) | (intro _; with_unfolding_all rfl)))
      (repeat (walk_at "w"))
      with_reducible refine R_lower (low_st hzok) (short hzok.low.len) ?_
      intro tl2 _
      (repeat (walk_at "w"))
      refine ⟨st_beq _ _, ?_⟩
      refine R_ite (fun hq => ?_) (fun hq => ?_)
      · (repeat (walk_at "w"))
        with_reducible refine R_titem (i := 1) (j := 1) (S6.get hT1) (by decide) (by decide) rfl rfl ?_ (by (first | exact rfl | with_unfolding_all rfl | (intro _; exact rfl) | (intro _; with_unfolding_all rfl))) (by (first | exact rfl | with_unfolding_all rfl | (intro _; exact rfl) | (intro _; with_unfolding_all rfl)))
        exact CNx.same S6 hb1
      · exact CNx.same S6 trivial
    intro d6 ρ6 h6 t6 hfr hle6 hd6 S6
    (repeat (walk_at "w"))
    have hH6 := hle6.at hH
    refine cps fun X hX => ?_; obtain ⟨dvs, dn, hd6, hr6⟩ := hd6; refine hX ?_; clear hX X
    obtain ⟨S7, hle7⟩ := S3.thaw2 (k := 1) rfl S6 ((Rl.le_add _ _ _).trans hle6) hH6
    have hne : d6 ≠ H := fun e => hfr H _ hH e.symm
    refine hQ0 _ _ ?_; exact FinM.intro (S7.drop (mu' := [(H, _)]) (.cons_cons _ (.cons _ .slnil))) ⟨rfl, d6, rfl, _, _, ⟨hd6, hne⟩, hr6⟩ rfl
section
section
variable {prog : Program} {w : World} {K : Frag} {A : Around} {E : Value → Shared → Prop} {env : Env} {c : FrC} {l : List (Option Value)} {mu : List (Addr × Obj)} {ρ : Rl} {h : Heap} {G : Array GenState} {D : Drawn} {O : OsState} {t : Nat}
theorem call_kwM {name qual : Str} {params : Arguments} {body : List Stmt} {scope : Scope} {dV kV doc pm cdv ct oc : Value} {an od : Option Addr} {osl : Array (Option Value)} {f : Addr} {args : Args} {binds : Addr → List (Str × Value)}
    {ns : List Str} {l₀ : List (Option Value)} {dn un : Nat} {own : List (Addr × Obj)} {Post : List (Addr × Obj) → Rl → Value → Prop}
    (ho : K.lookup f = some ⟨oc, od, .func (fnOf name qual params body scope dV kV doc pm an cdv ct), osl⟩) (hcd : codeIn K cdv qual = true)
    (hbind : bindArgs (fnOf name qual params body scope dV kV doc pm an cdv ct) args = (alloc emptyDict >>= fun d => pure (binds d))) (hloc : ∀ d, ∀ y ∈ binds d, scope.names.lookup y.1 = some .local)
    (hns : (fun x => (binds h.objs.size).reverse.lookup x) = lk ns l₀) (hnd : ns.Nodup) (hln : ns.length = l₀.length)
    (hco : scope.isCoroutine = false) (hgen : scope.isGenerator = false) (hk : scope.kind = .function) (hcell : ∀ x ∈ scope.names, x.2 ≠ .cell)
    (hbody : ∀ A L h₁ G D O t E, Bx K ⟨hide (h.push emptyDict) (adr own), ρ.add h.objs.size emptyDict, L, ns⟩ A (envOf qual scope L f cdv) → A.depth + dn < recursionLimit → A.units + un < cLine → St ⟨hide (h.push emptyDict) (adr own), ρ.add h.objs.size emptyDict, L, ns⟩ l₀ own (ρ.add h.objs.size emptyDict) h₁ →
      ∀ QQ : Flow → Shared → Prop, (∀ fl s', FinM ⟨hide (h.push emptyDict) (adr own), ρ.add h.objs.size emptyDict, L, ns⟩ (adr own) G D O Post (match fl with | .ret v => v | _ => .none) s' → QQ fl s') → wpAny (model prog w) A (execs body (envOf qual scope L f cdv)) QQ E ⟨h₁, G, D, t, O⟩) :
    CallMut prog w K (.ref f) args (dn + 1) (un + 3) own h ρ Post := by
  intro A R G D O t C hd hu hρ hown hnod hR
  have g := C.gl.keeps (hide_sub _ _)
  obtain ⟨p, loose, mg, mb, T⟩ := g.T
  have hs : Sub h (h.push emptyDict) := Sub.push _ _
  have hsH : Sub (hide h (adr own)) (hide (h.push emptyDict) (adr own)) := fun b o e => by
    rw [hide_get] at e ⊢
    split at e
    · cases e
    · rename_i q; rw [if_neg q]; exact hs _ _ e
  have C' : Cx K A (hide (h.push emptyDict) (adr own)) := C.keeps hsH
  have hsz : h.objs.size ∉ adr own := fun q => by
    obtain ⟨p, hp, e⟩ := List.mem_map.mp q
    have := Heap.lt_size (hown p hp)
    rw [e] at this; exact absurd this (Nat.lt_irrefl _)
  have hρ' : ∀ a o, (ρ.add h.objs.size emptyDict) a o → (h.push emptyDict).get? a = some o ∧ a ∉ adr own := fun a o e => by
    rcases e with e | ⟨rfl, rfl⟩
    · exact ⟨hs _ _ (hρ a o e).1, (hρ a o e).2⟩
    · exact ⟨Heap.get?_push_size _ rfl, hsz⟩
  refine codeAny_call_function (s := ⟨h, G, D, t, O⟩) (fd := fnOf name qual params body scope dV kV doc pm an cdv ct) (body := body) (by (first | lia | omega)) (g.X _ _ ho) rfl hco hgen rfl (codeRec_of g.X hcd) ?_
  rw [hbind]
  refine wpAny_bind (wpAny_alloc (wpAny_pure ?_))
  refine wpAny_newFunctionEnv hcell (hloc _) (fun h₀ hns₀ hsb₀ => ?_) hk
  have hk₁ : Sub (h.push emptyDict) h₀ := fun b o e => hsb₀.extBut b o (Nat.ne_of_lt (Heap.lt_size e)) (Heap.get?_push_of_some _ e)
  refine ⟨T.nolimit.keeps (hs.trans hk₁), codeAny_func ?_⟩
  refine wpAny_mono (hbody _ (h.push emptyDict).objs.size h₀ G D O _ _ ⟨start_cx C', rfl, rfl, hk, rfl, rfl, C.hh, C'.gl⟩ (by show A.depth + 1 + dn < _; (first | lia | omega)) (by show A.units + 3 + un < _; (first | lia | omega)) (start_own hρ' (fun p hp => hs _ _ (hown p hp)) hnod hns₀ hk₁ hns hnd hln) _ fun _ _ x => x) (fun fl s' hf => end_own (c := ⟨h, ρ, 0, []⟩) (h := h.push emptyDict) (ρ := ρ.add h.objs.size emptyDict) (fun r h' t' ρ' own' a1 a2 a3 a4 a5 a6 a7 => ?_) hf) fun _ _ x => x
  refine hR r h' t' ρ' own' a1 a2 (fun b o hb e => a3 b o hb (hs _ _ e)) ((Rl.le_add _ _ _).trans a4) a5 (fun a o e => ?_) a7
  rcases a6 a o e with (q | ⟨rfl, rfl⟩) | q
  · exact .inl q
  · exact .inr (fresh_size h)
  · refine .inr ?_
    cases q' : h.get? a with
    | none => rfl
    | some z => rw [hs _ _ q'] at q; cases q
theorem dictAt_empty {d : Addr} (e : h.get? d = some emptyDict) : h.DictAt (strKind prog w) d [] 0 := by
  refine ⟨_, #[], e, ?_, rfl, ?_, ?_, ?_⟩
  · exact ⟨rfl, rfl, rfl⟩
  · intro e he; simp at he
  · exact .nil
  · exact List.nodup_nil
theorem R_gmItems {d : Addr} {pl : Sem Bool} {Q : Value × List Value → Shared → Prop} (e : h.get? d = some emptyDict) (k : Q (.builtin "dict.items", [.ref d]) ⟨h, G, D, t, O⟩) :
    wpAny (model prog w) A (getMethod (.ref d) "items" pl) Q E ⟨h, G, D, t, O⟩ :=
  getMethod_builtin (s := ⟨h, G, D, t, O⟩) ⟨_, e, rfl⟩ F.plainAttrs_dict F.slot_dict_items F.type_dict_items (fun a q => by cases q; exact ⟨_, e, rfl⟩) k
theorem R_items {d : Addr} {Q : Value → Shared → Prop} (S : St c l mu ρ h) (e : h.get? d = some emptyDict) (hd : (d == sysModules) = false) (k : ∀ v h', St c l mu ρ h' → h'.IsItemsView v d → h'.get? d = some emptyDict → Q (.ref v) ⟨h', G, D, t, O⟩) :
    wpAny (model prog w) A (call (.builtin "dict.items") [.ref d]) Q E ⟨h, G, D, t, O⟩ :=
  call_meetsIn (s := ⟨h, G, D, t, O⟩) F.slot_dict_items ⟨_, e, rfl⟩ F.entry_dict_items (F.args_dict_items_1 _) (meets_dict_items (strKind prog w) d hd)
    ⟨⟨[], (dictAt_empty e).dictOf⟩, k _ _ (S.sub (Sub.push _ _)) ⟨_, Heap.get?_push_size _ rfl, rfl, rfl⟩ (Heap.get?_push_of_some _ e)⟩
theorem R_iterItems {v d : Addr} {Q : Value → Shared → Prop} (S : St c l mu ρ h) (hv : h.IsItemsView v d) (e : h.get? d = some emptyDict)
    (k : ∀ I o h', St c l ((I, o) :: mu) ρ h' → IsItemIter h' I d 0 0 0 .none .none → h'.get? d = some emptyDict → Q (.ref I) ⟨h', G, D, t, O⟩) : wpAny (model prog w) A (pyIter (.ref v)) Q E ⟨h, G, D, t, O⟩ :=
  wpAny_pyIter_items (s := ⟨h, G, D, t, O⟩) (knd := strKind prog w) hv (dictAt_empty e) (k _ _ _ (S.pushMu _) (Heap.get?_push_size _ rfl) (Heap.get?_push_of_some _ e))
theorem R_forNoItems {target : Expr} {body : List Stmt} {I d : Addr} {o : Obj} {R : Result → Shared → Prop} (hh : A.handled = none) (hi : IsItemIter h I d 0 0 0 .none .none) (e : h.get? d = some emptyDict) (S : St c l ((I, o) :: mu) ρ h)
    (done : ∀ h t, St c l mu ρ h → R (.ok .next) ⟨h, G, D, t, O⟩) : codeAny (model prog w) A (.forLoop target (.ref I) body [] env) R ⟨h, G, D, t, O⟩ := by
  refine codeAny_forLoop_any (fun _ s => s = ⟨h, G, D, t, O⟩) (fun n s hs => ?_) 0 rfl
  subst hs
  refine wpAny_pyNext_items_end (knd := strKind prog w) (kvs := []) hh hi (dictAt_empty e) rfl fun h' hx => wpAny_execs_nil ?_
  exact done h' t (S.off fun b x hb e => hx b x hb e)
end
end
theorem sys_ne {w : World} {c : FrC} {A : Around} {env : Env} (B : Bx (hd.heap_1 w.params) c A env) {n : Nat} (h : c.h₀.objs.size ≤ n + 1) : (n == sysModules) = false := by
  have h1 : 48 < c.h₀.objs.size := Heap.lt_size (inAt B.gl.X (patN w))
  rw [beq_eq_false_iff_ne]
  intro e
  have e1 : n = 1 := e
  rw [e1] at h
  exact absurd (Nat.lt_of_lt_of_le h1 h) (by decide)
theorem binds4 {a b d e : Str} {u v z y : Value} (ns : List Str) (hb : b ≠ a) (hd : d ≠ a) (hd' : d ≠ b) (he : e ≠ a) (he' : e ≠ b) (he'' : e ≠ d) : (fun x => ([(a, u), (b, v), (d, z), (e, y)] : List (Str × Value)).reverse.lookup x) = lk (a :: b :: d :: e :: ns) (some u :: some v :: some z :: some y :: ns.map fun _ => none) := by
  funext x
  simp only [List.reverse_cons, List.reverse_nil, List.nil_append, List.cons_append, List.lookup, lk, lk_none]
  by_cases h1 : x = a
  · subst h1
    have e1 : (x == b) = false := by simpa using (Ne.symm hb)
    have e2 : (x == d) = false := by simpa using (Ne.symm hd)
    have e3 : (x == e) = false := by simpa using (Ne.symm he)
    simp [e1, e2, e3]
  · have h1' : (x == a) = false := by simpa using h1
    by_cases h2 : x = b
    · subst h2
      have e2 : (x == d) = false := by simpa using (Ne.symm hd')
      have e3 : (x == e) = false := by simpa using (Ne.symm he')
      simp [e2, e3, h1]
    · have h2' : (x == b) = false := by simpa using h2
      by_cases h3 : x = d
      · subst h3
        have e3 : (x == e) = false := by simpa using (Ne.symm he'')
        simp [e3, h1, h2]
      · have h3' : (x == d) = false := by simpa using h3
        by_cases h4 : x = e
        · simp [h4, he, he', he'']
        · have h4' : (x == e) = false := by simpa using h4
          simp [h1, h2, h3, h4, h1', h2', h3', h4']
section
variable {prog : Program} {w : World} {K : Frag} {A : Around} {E : Value → Shared → Prop} {h : Heap} {G : Array GenState} {D : Drawn} {O : OsState} {t : Nat}
theorem R_join1 {a : Addr} {x : Str} {tx u : Tok} {n : Nat} {Q : Value → Shared → Prop} (ha : h.get? a = some (lstO [.str x tx] n)) (hx : x.length ≤ 1000) (k : ∀ u' t', Q (.str x u') ⟨h, G, D, t', O⟩) :
    wpAny (model prog w) A (call (.builtin "str.join") [.str "; " u, .ref a]) Q E ⟨h, G, D, t, O⟩ := by
  have hj : JoinOk ("; " : Str) [x] = true := by
    unfold JoinOk
    rw [List.foldl_toArray]
    show (!Builtin.Str.tooLong (0 + x.length + ("; " : Str).length)) = true
    have h3 : ("; " : Str).length = 2 := by decide +kernel
    unfold Builtin.Str.tooLong
    simp only [Bool.not_eq_true', decide_eq_false_iff_not, sizeLine_eq]; (first | lia | omega)
  have hje : Txt.join ("; " : Str) [x] = x := by
    show Builtin.Str.glued ("; " : Str) [x] = _
    unfold Builtin.Str.glued
    cases x with | mk c => rfl
  refine SC.join (s := ⟨h, G, D, t, O⟩) (l := [(x, tx)]) (IsList.of_get ha) rfl hj ?_
  intro u' t'
  have := k u' t'
  rw [← hje] at this
  exact this
end
theorem addh_ok (w : World) (self : Value) (H : Addr) (nm vl : Txs) (tn tv : Tok) (hvs : List Value) (n : Nat) (pairs : List (Txs × Txs)) (h : Heap) (ρ : Rl) (hself : HdrIs ρ self H) (hp : Are (PairIs ρ) hvs pairs) (hnm : OkT nm) (hvl : OkT vl) (hz : pairs.length ≤ 900) :
    CallMut PG w (hd.heap_1 w.params) (.ref 179) ⟨[self, .str (stL nm) tn, .str (stL vl) tv], []⟩ 3 30 [(H, lstO hvs n)] h ρ (fun own ρ' r => r = .none ∧ ∃ hvs' n', own = [(H, lstO hvs' n')] ∧ Are (PairIs ρ') hvs' (pairs ++ [(nm, vl)])) := by
  refine cps fun X hX => ?_; obtain ⟨x, dx, hs, tk, n0, rfl, hx0, hd0⟩ := hself; refine hX ?_; clear hX X
  refine' call_kwM (ns := ["self", "_name", "_value", "_params", "parts", "k", "v"]) (l₀ := [some (.ref x), some (.str (stL nm) tn), some (.str (stL vl) tv), some (.ref h.objs.size), none, none, none]) (dn := 2) (un := 27)
    (binds := fun d => [("self", .ref x), ("_name", .str (stL nm) tn), ("_value", .str (stL vl) tv), ("_params", .ref d)]) ?ho ?hcd ?hb ?hl ?hns ?hnd ?hln ?h1 ?h2 ?h3 ?h4 ?body
  case ho => k_is
  case hcd => k_is
  case hb => rfl
  case hl => exact fun d => locs rfl
  case hns => exact binds4 ["parts", "k", "v"] (by decide) (by decide) (by decide) (by decide) (by decide) (by decide)
  case hnd => decide
  case hln => rfl
  case h1 => rfl
  case h2 => rfl
  case h3 => rfl
  case h4 => decide
  case body =>
    intro A L h₁ G D O t E B hd hu S Q0 hQ0
    have hx1 : (ρ.add h.objs.size emptyDict) x (instObj 182 dx) := .inl hx0
    have hd1 : (ρ.add h.objs.size emptyDict) dx (dictOf [⟨hs, .str "_headers" tk, .ref H⟩] n0) := .inl hd0
    have he1 : (ρ.add h.objs.size emptyDict) h.objs.size emptyDict := Rl.at_add _ _ _
    have hsys : (h.objs.size == sysModules) = false := sys_ne B (by show (hide _ _).objs.size ≤ _; rw [hide_size, Heap.size_push]; exact Nat.le_refl _)
    (repeat (walk_at "w"))
    with_reducible refine R_listNewMu (by with_reducible assumption) (by simp) ?_
    intro P h2 S2
    (repeat (walk_at "w"))
    with_reducible refine' wpAny_isNot_other ?hpl ?hne ?_
    case hpl => exact rfl
    case hne => intro e; cases e
    (repeat (walk_at "w"))
    refine R_yes rfl ?_
    (repeat (walk_at "w"))
    rename St _ _ _ _ _ => S3
    ((with_reducible refine' R_method ?Xx219 (S3.at0 hx1) (S3.at0 hd1) ?hgx219 ?hfx219 ?htx219 ?hlx219 ?_); (case Xx219 => exact (Gl.X (Bx.gl' (by with_reducible assumption) (by with_reducible assumption)))); (case hgx219 => k_is); (case hfx219 => k_is); (case htx219 => k_is); (case hlx219 => first | with_reducible assumption | exact rfl))
    (repeat (walk_at "w"))
    refine (convert_ok w _ _ _ false _ _ hvl.cps hvl.sz).use B S3 (by (first | lia | omega)) (by (first | lia | omega)) ?_
    rintro r h4 t4 ρ4 S4 hle4 rfl
    (repeat (walk_at "w"))
    rename St _ _ _ _ _ => S5
    with_reducible refine R_append (k := 0) S5 rfl (by simp) ?_
    intro h6 n6 S6
    (repeat (walk_at "w"))
    with_reducible refine R_gmItems (S6.at0 he1) ?_
    (repeat (walk_at "w"))
    with_reducible refine R_items S6 (S6.at0 he1) hsys ?_
    intro v7 h7 S7 hv7 he7
    with_reducible refine R_iterItems S7 hv7 he7 ?_
    intro I8 o8 h8 S8 hi8 he8
    with_reducible refine R_forNoItems B.hh hi8 he8 S8 ?_
    intro h9 t9 S9
    (repeat (walk_at "w"))
    ((with_reducible refine' R_getOwn ?Xx225 (S9.at0 hx1) (S9.at0 hd1) ?hgx225 ?hhx225 ?hax225 ?hnx225 ?hlx225 ?hvx225 ?_); (case Xx225 => exact (Gl.X (Bx.gl' (by with_reducible assumption) (by with_reducible assumption)))); (case hgx225 => k_is); (case hhx225 => k_is); (case hax225 => k_is); (case hnx225 => k_is); (case hlx225 => first | with_reducible assumption | exact rfl); (case hvx225 => first | exact rfl | (simp only [handedIn]; done)); intro _)
    show wpAny _ _ (getMethod (.ref H) _ _) _ _ _
    (repeat (walk_at "w"))
    ((with_reducible refine' R_method ?Xx227 (S9.at0 hx1) (S9.at0 hd1) ?hgx227 ?hfx227 ?htx227 ?hlx227 ?_); (case Xx227 => exact (Gl.X (Bx.gl' (by with_reducible assumption) (by with_reducible assumption)))); (case hgx227 => k_is); (case hfx227 => k_is); (case htx227 => k_is); (case hlx227 => first | with_reducible assumption | exact rfl))
    (repeat (walk_at "w"))
    refine (convert_ok w _ _ _ true _ _ hnm.cps hnm.sz).use B S9 (by (first | lia | omega)) (by (first | lia | omega)) ?_
    rintro r h10 t10 ρ10 S10 hle10 rfl
    (repeat (walk_at "w"))
    refine R_join1 (x := stL vl) (tx := tv) (S10.muget (k := 0) rfl) hvl.len ?_
    intro u11 k11
    (repeat (walk_at "w"))
    with_reducible refine R_tupNew S10 (by simp) ?_
    intro T12 h12 S12
    (repeat (walk_at "w"))
    have hlp : hvs.length ≤ 900 := by rw [hp.len]; exact hz
    with_reducible refine R_append (k := 1) S12 rfl (by (first | lia | omega)) ?_
    intro h13 n13 S13
    (repeat (walk_at "w"))
    refine hQ0 _ _ ?_; exact FinM.intro (S13.drop (mu' := [(H, _)]) (.cons _ (.cons_cons _ .slnil))) ⟨rfl, _, _, rfl, (hp.mono fun v p q => q.le ((((Rl.le_add _ _ _).trans hle4).trans hle10).trans (Rl.le_add _ _ _))).append (.cons ⟨T12, _, _, _, rfl, Rl.at_add _ _ _, ⟨_, rfl⟩, ⟨_, rfl⟩⟩ .nil)⟩ rfl
section
variable {prog : Program} {w : World} {K : Frag} {A : Around} {E : Value → Shared → Prop} {env : Env} {c : FrC} {l : List (Option Value)} {mu : List (Addr × Obj)} {ρ : Rl} {h : Heap} {G : Array GenState} {D : Drawn} {O : OsState} {t : Nat}
theorem R_sitem {value slice : Expr} {x y : Str} {u v : Tok} {i : Nat} {Q : Value → Shared → Prop} (e : Txt.item x (i : Int) = y) (h1 : i < x.length) (hz : x.length ≤ 1000) (k : ∀ u' t', Q (.str y u') ⟨h, G, D, t', O⟩)
    (hs : subscripted slice false (.str x u) (.int (i : Nat) v) = operate [.str x u, .int (i : Nat) v] (getItem (.str x u) (.int (i : Nat) v))) (ht : ∀ r, letTemporaryGo value (.str x u) r = pure ()) :
    wpAny (model prog w) A (subscriptTail value slice (.str x u) (.int (i : Nat) v)) Q E ⟨h, G, D, t, O⟩ :=
  item_str (s := ⟨h, G, D, t, O⟩) (fitsSsize_of (N := 9223372036854775808) (by (first | lia | omega)) (by (first | lia | omega)) (Int.le_refl _)) (by (first | lia | omega)) (by (first | lia | omega)) (fun _ => by rw [e]; exact k _ _) hs ht
theorem R_gmCount {a : Addr} {vs : List Value} {n : Nat} {pl : Sem Bool} {Q : Value × List Value → Shared → Prop} (e : h.get? a = some (lstO vs n)) (k : Q (.builtin "list.count", [.ref a]) ⟨h, G, D, t, O⟩) :
    wpAny (model prog w) A (getMethod (.ref a) "count" pl) Q E ⟨h, G, D, t, O⟩ :=
  getMethod_builtin (s := ⟨h, G, D, t, O⟩) ⟨_, e, rfl⟩ F.plainAttrs_list F.slot_list_count F.type_list_count (fun a q => by cases q; exact ⟨_, e, rfl⟩) k
theorem R_count {a : Addr} {vs : List Value} {n : Nat} {xs : List Int} {i : Int} {u : Tok} {Q : Value → Shared → Prop} (e : h.get? a = some (lstO vs n)) (r : Are IsI vs xs) (k : ∀ u' t', Q (.int (xs.count i : Nat) u') ⟨h, G, D, t', O⟩) :
    wpAny (model prog w) A (call (.builtin "list.count") [.ref a, .int i u]) Q E ⟨h, G, D, t, O⟩ := count_list_ints (s := ⟨h, G, D, t, O⟩) (IsList.of_get e) (ints_of r) (k _ _)
theorem R_ltake {value slice : Expr} {a : Addr} {vs : List Value} {n i : Nat} {u : Tok} {Q : Value → Shared → Prop} (S : St c l mu ρ h) (e : ρ a (lstO vs n)) (hi : i ≤ vs.length) (hz : vs.length ≤ 10000)
    (k : ∀ d h', St c l mu (ρ.add d (lstO (vs.take i) 0)) h' → Q (.ref d) ⟨h', G, D, t, O⟩)
    (hs : subscripted slice false (.ref a) (.ref h.objs.size) = operate [.ref a, .ref h.objs.size] (getItem (.ref a) (.ref h.objs.size)) ∨ subscripted slice false (.ref a) (.ref h.objs.size) = operate [.ref h.objs.size, .ref a] (getItem (.ref a) (.ref h.objs.size))) :
    wpAny (model prog w) A (subscriptTail value slice (.ref a) (.ref h.objs.size)) Q E ⟨h.push { cls := .type "slice", data := .fields #[.none, .int (i : Nat) u, .none] }, G, D, t, O⟩ := by
  have S1 := S.sub (Sub.push h { cls := .type "slice", data := .fields #[.none, .int (i : Nat) u, .none] })
  have hl := IsList.of_get (S1.get e)
  have go : wpAny (model prog w) A (getItem (.ref a) (.ref h.objs.size)) Q E ⟨h.push { cls := .type "slice", data := .fields #[.none, .int (i : Nat) u, .none] }, G, D, t, O⟩ := by
    refine wpAny_getItem_list_slice (lo := none) (hi := some (i : Int)) (st := none) hl (Heap.IsSliceOf.new _ _ _ _) .none (.int _ _) .none (by simp) ?_ (by rw [sizeLine_eq]; simp; (first | lia | omega))
    rw [slicePick_upto vs.toArray i (by simpa using hi)]
    exact k _ _ (S1.push (lstO (vs.take i) 0))
  rcases hs with hs | hs
  · exact tail_any (s := ⟨_, G, D, t, O⟩) hl.typeIs list_getitem_lookup go hs
  · exact tail_any (s := ⟨_, G, D, t, O⟩) hl.typeIs list_getitem_lookup go hs
end
noncomputable def cmpT (a b : Txs) : Int := (if b < a then 1 else 0) - (if a < b then 1 else 0)
noncomputable def ordersT (ws : List Txs) (k : Nat) : List Int := ws.map fun x => cmpT x (ws.getD k [])
noncomputable def placeT (ws : List Txs) (k : Nat) : Nat := (ordersT ws k).count (-1) + ((ordersT ws k).take k).count 0
noncomputable def letT (ws : List Txs) (xs : List Nat) (k : Nat) : Nat := if xs.getD k 0 % 2 = 1 then 75 + placeT ws k + 32 else 75 + placeT ws k
noncomputable def pairsT (ws : List Txs) (xs : List Nat) (n : Nat) : List (Txs × Txs) := (List.range n).map fun k => ([75 + k], [letT ws xs k])
theorem place_lt {ws : List Txs} {k : Nat} (hk : k < ws.length) : placeT ws k < ws.length := by
  have hlen : (ordersT ws k).length = ws.length := by unfold ordersT; simp
  have hk' : k < (ordersT ws k).length := by (first | lia | omega)
  have h0 : (ordersT ws k)[k] = 0 := by
    have e1 : ws.getD k [] = ws[k] := by rw [List.getD_eq_getElem?_getD, List.getElem?_eq_getElem hk]; rfl
    have : (ordersT ws k)[k] = cmpT ws[k] (ws.getD k []) := by unfold ordersT; simp
    rw [this, e1]; unfold cmpT; split <;> simp
  unfold placeT
  generalize ordersT ws k = L at hlen hk' h0
  have hd : L = L.take k ++ (0 :: L.drop (k + 1)) := by
    conv => lhs; rw [← List.take_append_drop k L, List.drop_eq_getElem_cons hk', h0]
  have h1 : L.count (-1) = (L.take k).count (-1) + (L.drop (k + 1)).count (-1) := by
    conv => lhs; rw [hd]
    rw [List.count_append, List.count_cons]; simp
  have h2 : (L.take k).count (-1) + (L.take k).count 0 ≤ (L.take k).length := by
    have hh : ∀ M : List Int, M.count (-1) + M.count 0 ≤ M.length := by
      intro M
      induction M with
      | nil => simp
      | cons a M ih =>
        rw [List.count_cons, List.count_cons, List.length_cons]
        by_cases q : a = -1
        · subst q; simp; (first | lia | omega)
        · have : (a == -1) = false := by simpa using q
          rw [this]; simp only [Bool.false_eq_true, if_false]; split <;> (first | lia | omega)
    exact hh _
  have h3 := List.count_le_length (a := (-1 : Int)) (l := L.drop (k + 1))
  rw [List.length_take] at h2
  rw [List.length_drop] at h3
  (first | lia | omega)
theorem itemK : ∀ j : _root_.Fin 4, Txt.item "KLMN" (j.val : Int) = stL [75 + j.val] := by decide +kernel
theorem itemk : ∀ j : _root_.Fin 4, Txt.item "klmn" (j.val : Int) = stL [107 + j.val] := by decide +kernel
theorem lenK : ("KLMN" : Str).length = 4 := by decide +kernel
theorem lenk : ("klmn" : Str).length = 4 := by decide +kernel
theorem ok1 {c : Nat} (h : 65 ≤ c ∧ c ≤ 122) : OkT [c] := ⟨fun d hd => by rw [List.mem_singleton.mp hd]; exact h, by simp⟩
theorem short_st1 (c : Nat) : Builtin.Str.tooLong (stL [c]).length = false := short (show ([c] : List Nat).toArray.size ≤ 1000 from by simp)
noncomputable def stepT (P : List (Txs × Txs)) (i lt : Nat) : Nat → List (Txs × Txs)
  | 0 => P
  | 1 => P ++ [([107 + i], [lt])]
  | _ => P ++ [([75 + i], [lt])]
theorem low1 {i : Nat} (h : i < 4) : lowL [75 + i] = [107 + i] ∧ lowL [107 + i] = [107 + i] := by
  unfold lowL lowC
  constructor
  · rw [List.map_cons, List.map_nil, if_pos (by (first | lia | omega))]; congr 1; (first | lia | omega)
  · rw [List.map_cons, List.map_nil, if_neg (by (first | lia | omega))]
theorem keep_pairs {ws : List Txs} {xs : List Nat} {i : Nat} {nm : Txs} (hi : i < 4) (h : lowL nm = [107 + i]) : (pairsT ws xs i).filter (keepT nm) = pairsT ws xs i := by
  rw [List.filter_eq_self]
  intro p hp
  refine cps fun X hX => ?_; obtain ⟨k, hk, rfl⟩ := List.mem_map.mp hp; refine hX ?_; clear hX X
  have hk' : k < i := List.mem_range.mp hk
  unfold keepT
  rw [h, (low1 (show k < 4 by (first | lia | omega))).1]
  simp; (first | lia | omega)
theorem step_ok {ws : List Txs} {xs : List Nat} {i lt : Nat} (hi : i < 4) : ∀ j, (∀ p ∈ stepT (pairsT ws xs i) i lt j, OkT p.1) ∧ (stepT (pairsT ws xs i) i lt j).length ≤ 900 := by
  have h0 : ∀ p ∈ pairsT ws xs i, OkT p.1 := fun p hp => by
    refine cps fun X hX => ?_; obtain ⟨k, hk, rfl⟩ := List.mem_map.mp hp; refine hX ?_; clear hX X
    have hk' : k < i := List.mem_range.mp hk
    exact ok1 (by (first | lia | omega))
  have h1 : (pairsT ws xs i).length = i := by unfold pairsT; simp
  intro j
  match j with
  | 0 => exact ⟨h0, by show (pairsT ws xs i).length ≤ _; (first | lia | omega)⟩
  | 1 =>
    refine ⟨fun p hp => ?_, by show (pairsT ws xs i ++ _).length ≤ _; simp [h1]; (first | lia | omega)⟩
    rcases List.mem_append.mp hp with q | q
    · exact h0 p q
    · rw [List.mem_singleton.mp q]; exact ok1 (by (first | lia | omega))
  | j + 2 =>
    refine ⟨fun p hp => ?_, by show (pairsT ws xs i ++ _).length ≤ _; simp [h1]; (first | lia | omega)⟩
    rcases List.mem_append.mp hp with q | q
    · exact h0 p q
    · rw [List.mem_singleton.mp q]; exact ok1 (by (first | lia | omega))
theorem nm_ok {i j : Nat} {nm : Txs} (hi : i < 4) (hj : [[107 + i], [75 + i]][j]? = some nm) : OkT nm := by
  match j, hj with
  | 0, hj => simp at hj; subst hj; exact ok1 (by (first | lia | omega))
  | 1, hj => simp at hj; subst hj; exact ok1 (by (first | lia | omega))
  | j + 2, hj => simp at hj
theorem step_next {ws : List Txs} {xs : List Nat} {i lt j : Nat} {nm : Txs} (hi : i < 4) (hj : [[107 + i], [75 + i]][j]? = some nm) : (stepT (pairsT ws xs i) i lt j).filter (keepT nm) ++ [(nm, [lt])] = stepT (pairsT ws xs i) i lt (j + 1) := by
  match j, hj with
  | 0, hj =>
    simp at hj; subst hj
    show (pairsT ws xs i).filter _ ++ _ = _
    rw [keep_pairs hi (low1 hi).2]; rfl
  | 1, hj =>
    simp at hj; subst hj
    show (pairsT ws xs i ++ [([107 + i], [lt])]).filter _ ++ _ = _
    rw [List.filter_append, keep_pairs hi (low1 hi).1]
    have : keepT [75 + i] ([107 + i], [lt]) = false := by unfold keepT; rw [(low1 hi).1, (low1 hi).2]; simp
    simp [List.filter_cons, this, stepT]
  | j + 2, hj => simp at hj
theorem low_let {c : Nat} (h : IsLet c) : Txt.lower (ch c) = ch (lowC c) := by
  rcases let_cases h with rfl | rfl | rfl | rfl | rfl | rfl | rfl | rfl <;> decide +kernel
theorem move_ok (w : World) (a b : Addr) (ws : List Txs) (xs : List Nat) (h : Heap) (ρ : Rl) (ha : Lst (fun v l => IsS v (stL l)) ρ a ws) (hb : Lst IsN ρ b xs) (hl : ws.length = xs.length) (h4 : ws.length ≤ 4) :
    CallOK PG w (hd.heap_1 w.params) (.ref 278) ⟨[.ref a, .ref b], []⟩ 5 50 h ρ (fun ρ' r => ∃ H, HdrIs ρ' r H ∧ Lst (PairIs ρ') ρ' H (pairsT ws xs ws.length)) := by
  refine' call_defC (ns := ["numbers", "move", "orders", "letter", "name"]) (l₀ := [some (.ref b), none, none, none, none]) (dn := 4) (un := 47) ?ho ?hcd ?hb ?hkd ?hndc ?hns ?hnd ?hln ?h1 ?h2 ?h3 ?body
  case ho => k_is
  case hcd => k_is
  case hb => intro s _; exact BindsTo.of_eq rfl
  case hkd => exact rfl
  case hndc => decide
  case hns => exact lk1 _
  case hnd => decide
  case hln => rfl
  case h1 => rfl
  case h2 => rfl
  case h3 => rfl
  case body =>
    intro A L h₁ G D O t cells E Y B hd hu S Q0 hQ0
    refine cps fun X hX => ?_; obtain ⟨o₁, o₂, rfl, q1, q2⟩ := Y.two; refine hX ?_; clear hX X
    change o₂.data = .cell (some (.ref a)) at q2
    (repeat (walk_at "w"))
    refine (hdr_ok w h₁ ρ).use B S (by (first | lia | omega)) (by (first | lia | omega)) ?_
    intro r h2 t2 ρ2 S2' hle2' z143k6; refine cps fun X hX => ?_; obtain ⟨H, hH2, hHl, hHn⟩ := z143k6; refine hX ?_; clear hX X
    obtain ⟨S2, hle2⟩ := S.thaw S2' hle2' hHl hHn
    have hH : HdrIs (ρ2.drop H) r H := by
      refine cps fun X hX => ?_; obtain ⟨x, dx, hs, tk, n, rfl, hx, hdx⟩ := hH2; refine hX ?_; clear hX X
      refine ⟨x, dx, hs, tk, n, rfl, ⟨hx, fun q => ?_⟩, ⟨hdx, fun q => ?_⟩⟩
      · have := S2'.get hx; rw [q, S2'.get hHl] at this; simp at this
      · have := S2'.get hdx; rw [q, S2'.get hHl] at this; simp at this
    generalize ρ2.drop H = ρ3 at S2 hle2 hH
    (repeat (walk_at "w"))
    rename St _ _ _ _ _ => S3
    with_reducible refine R_len_list S3 (ha.le hle2) (by (first | lia | omega)) ?_
    intro _ _
    (repeat (walk_at "w"))
    with_reducible refine R_range S3 ?_
    intro rg h4 t4 ρ4 u1 u2 u3 S4 hle4 hrg
    (repeat (walk_at "w"))
    with_reducible refine R_iter_range B.hh S4 hrg (by (first | lia | omega)) ?_
    intro I o h5 WS T hw S5 hfz
    with_reducible refine' R_forLoop (fun i l mu ρ' => ∃ hvs n o₁ v m3 m4 m5, l = [some (.ref b), some r, m3, m4, m5] ∧ mu = [(H, lstO hvs n), (L + 1 + 1, o₁), (L + 1, o₂)] ∧ o₁.data = .cell v ∧ Are (PairIs ρ') hvs (pairsT ws xs i)) T hw S5 hfz ?hJ ?turn ?done ?ht
    case hJ => exact ⟨_, _, _, _, _, _, _, rfl, rfl, q1, .nil⟩
    case ht => intro _; exact rfl
    case turn =>
      intro i v l mu ρ₁ h6 t6 o6 E' QQ hQQ hi z165k12 hle S6 z165k15; refine cps fun X hX => ?_; obtain ⟨tv, rfl⟩ := z165k12; obtain ⟨hvs, n, o₁', v', m3, m4, m5, rfl, rfl, hk1, hP⟩ := z165k15; refine hX ?_; clear hX X
      have hle0 : ρ.le ρ₁ := hle2.trans (hle4.trans hle)
      (repeat (walk_at "w"))
      rename St _ _ _ _ _ => S7
      with_reducible refine R_iter_lst B.hh S7 (ha.le hle0) ?_
      intro I8 o8 h8 WS8 T8 hw8 S8 hfz8
      ((with_reducible refine' R_fA (j := 2) B ?hjx238 ?hkx238 (P := (fun _ v l => IsS v (stL l))) (fun _ => true) (fun x : Txs => cmpT x (ws.getD i [])) (fun _ => IsI) ?hmx238 T8 ?hPx238 hw8 S8 hfz8 ?_ ?hcellx238 ?hkindx238 ?hxx238 ?_ ?_); (case hjx238 => exact rfl); (case hkx238 => exact rfl); (case hmx238 => first | exact fun _ _ _ _ _ q => q | exact fun _ _ _ _ hle q => q.le hle); (case hPx238 => first | exact fun _ _ ⟨z, hz, q⟩ => ⟨z, hz, fun _ _ => q⟩ | exact fun _ _ ⟨z, hz, q⟩ => ⟨z, hz, fun _ hle => q.le hle⟩); (case hcellx238 => decide); (case hkindx238 => exact rfl); (case hxx238 => exact rfl))
      · (first | lia | omega)
      · intro i' v z C ρ₂ d e f' h t E' hz ⟨u, hu'⟩ hle9 hcv S9
        subst hu'
        refine R_noIf ⟨rfl, ?_⟩
        rw [if_pos rfl]
        (repeat (walk_at "w"))
        have hwi : ws[i]? = some (ws.getD i []) := by rw [List.getD_eq_getElem?_getD, List.getElem?_eq_getElem hi]; rfl
        with_reducible refine R_item (P := fun v l => IsS v (stL l)) (xs := ws) S9 (ha.le (hle0.trans hle9)) (by (first | lia | omega)) (by (first | lia | omega)) (x := ws.getD i []) (by simpa using hwi) ?_ (by (first | exact rfl | with_unfolding_all rfl | (intro _; exact rfl) | (intro _; with_unfolding_all rfl))) (by (first | exact rfl | with_unfolding_all rfl | (intro _; exact rfl) | (intro _; with_unfolding_all rfl)))
        rintro _ ⟨tw, rfl⟩
        (repeat (walk_at "w"))
        refine (strcoll_ok w (stL z) (stL (ws.getD i [])) _ _ _ _).use B S9 (by (first | lia | omega)) (by (first | lia | omega)) ?_
        rintro r2 h10 t10 ρ10 S10 hle10 ⟨u2, rfl⟩
        refine CNx.intro S10 hle10 (isI_of ?_)
        rw [stL_cps, stL_cps]
        unfold cmpT b2i
        by_cases h1 : (ws.getD i [] : List Nat) < z <;> by_cases h2 : (z : List Nat) < ws.getD i [] <;> simp [h1, h2]
      intro d9 ρ9 h9 t9 hle9 hd9 S9
      rw [filt_true] at hd9
      refine cps fun X hX => ?_; obtain ⟨ovs, on, ho9, hr9⟩ := hd9; refine hX ?_; clear hX X
      (repeat (walk_at "w"))
      with_reducible refine R_gmCount (S9.get ho9) ?_
      (repeat (walk_at "w"))
      with_reducible refine R_count (S9.get ho9) hr9 ?_
      intro _ _
      (repeat (walk_at "w"))
      have hovs : ovs.length = ws.length := by rw [hr9.len, List.length_map]
      refine R_ltake S9 ho9 (by (first | lia | omega)) (by (first | lia | omega)) ?_ (by first | exact .inr (by with_unfolding_all rfl) | exact .inl (by with_unfolding_all rfl))
      intro d11 h11 S11
      with_reducible refine R_gmCount (S11.get (Rl.at_add _ _ _)) ?_
      (repeat (walk_at "w"))
      with_reducible refine R_count (S11.get (Rl.at_add _ _ _)) (hr9.take i) ?_
      intro _ _
      (repeat (walk_at "w"))
      have hpl : placeT ws i < ws.length := place_lt hi
      rw [show ((List.count (-1) (ws.map fun x => cmpT x (ws.getD i [])) : Nat) : Int) + ((List.count 0 ((ws.map fun x => cmpT x (ws.getD i [])).take i) : Nat) : Int) = ((placeT ws i : Nat) : Int) from by
        unfold placeT ordersT; (first | lia | omega)]
      with_reducible refine R_sitem (itemK ⟨placeT ws i, by (first | lia | omega)⟩) (by rw [lenK]; show placeT ws i < 4; (first | lia | omega)) (by rw [lenK]; (first | lia | omega)) ?_ (by (first | exact rfl | with_unfolding_all rfl | (intro _; exact rfl) | (intro _; with_unfolding_all rfl))) (by (first | exact rfl | with_unfolding_all rfl | (intro _; exact rfl) | (intro _; with_unfolding_all rfl)))
      intro _ _
      (repeat (walk_at "w"))
      with_reducible refine R_sitem (itemk ⟨i, by (first | lia | omega)⟩) (by rw [lenk]; show i < 4; (first | lia | omega)) (by rw [lenk]; (first | lia | omega)) ?_ (by (first | exact rfl | with_unfolding_all rfl | (intro _; exact rfl) | (intro _; with_unfolding_all rfl))) (by (first | exact rfl | with_unfolding_all rfl | (intro _; exact rfl) | (intro _; with_unfolding_all rfl)))
      intro _ _
      (repeat (walk_at "w"))
      with_reducible refine R_sitem (itemK ⟨i, by (first | lia | omega)⟩) (by rw [lenK]; show i < 4; (first | lia | omega)) (by rw [lenK]; (first | lia | omega)) ?_ (by (first | exact rfl | with_unfolding_all rfl | (intro _; exact rfl) | (intro _; with_unfolding_all rfl))) (by (first | exact rfl | with_unfolding_all rfl | (intro _; exact rfl) | (intro _; with_unfolding_all rfl)))
      intro _ _
      (repeat (walk_at "w"))
      rename St _ _ _ _ _ => S12
      with_reducible refine R_tupNew S12 (by simp) ?_
      intro T13 h13 S13
      refine R_iter_tup (P := fun v (l : Txs) => IsS v (stL l)) (xs := [[107 + i], [75 + i]]) B.hh S13 ⟨_, _, Rl.at_add _ _ _, .cons ⟨_, rfl⟩ (.cons ⟨_, rfl⟩ .nil)⟩ ?_
      intro I14 o14 h14 WS14 T14 hw14 S14 hfz14
      have hxi : xs[i]? = some (xs.getD i 0) := by rw [List.getD_eq_getElem?_getD, List.getElem?_eq_getElem (by (first | lia | omega))]; rfl
      have hltr : ∀ c ∈ ([letT ws xs i] : List Nat), 65 ≤ c ∧ c ≤ 122 := by
        intro c hc
        rw [List.mem_singleton.mp hc]
        unfold letT; split <;> (first | lia | omega)
      with_reducible refine' R_forLoop (fun j l mu ρ' => ∃ hvs n oK tk m3 m4 m5, l = [some (.ref b), some r, m3, some (.str (stL [75 + placeT ws i]) m4), m5] ∧ mu = [(I, o6), (H, lstO hvs n), (L + 1 + 1, oK), (L + 1, o₂)] ∧ oK.data = .cell (some (.int (i : Nat) tk)) ∧ Are (PairIs ρ') hvs (stepT (pairsT ws xs i) i (letT ws xs i) j)) T14 hw14 S14 hfz14 ?hJ2 ?turn2 ?done2 ?ht2
      case hJ2 => exact ⟨_, _, _, _, _, _, _, rfl, rfl, ‹_›, hP.mono fun v p q => q.le (hle9.trans ((Rl.le_add _ _ _).trans (Rl.le_add _ _ _)))⟩
      case ht2 => intro _; exact rfl
      case turn2 =>
        intro j v l mu ρ₂ h15 t15 o15 E3 QQ hQQ hj z231k12 hle15 S15 z231k15; refine cps fun X hX => ?_; obtain ⟨nm, hnm, ⟨tn, rfl⟩⟩ := z231k12; obtain ⟨hvs2, n2, oK, tk, m3', m4', m5', rfl, rfl, hK, hP2⟩ := z231k15; refine hX ?_; clear hX X
        (repeat (walk_at "w"))
        with_reducible refine R_item (P := IsN) (xs := xs) (by with_reducible assumption) (hb.le (hle0.trans (hle9.trans (((Rl.le_add _ _ _).trans (Rl.le_add _ _ _)).trans hle15)))) (by (first | lia | omega)) (by (first | lia | omega)) (x := xs.getD i 0) (by simpa using hxi) ?_ (by (first | exact rfl | with_unfolding_all rfl | (intro _; exact rfl) | (intro _; with_unfolding_all rfl))) (by (first | exact rfl | with_unfolding_all rfl | (intro _; exact rfl) | (intro _; with_unfolding_all rfl)))
        rintro _ ⟨tx, rfl⟩
        (repeat (walk_at "w"))
        with_reducible refine R_mod (by decide) ?_
        intro _ _
        (repeat (walk_at "w"))
        refine R_ite (fun hz => ?_) (fun hz => ?_)
        · (repeat (walk_at "w"))
          with_reducible refine R_lower (y := stL [letT ws xs i]) ?_ (short_st1 _) ?_
          · have h1 : Txt.lower (stL [75 + placeT ws i]) = stL (lowL [75 + placeT ws i]) := low_st ⟨fun c hc => by rw [List.mem_singleton.mp hc]; (first | lia | omega), by simp⟩
            rw [h1, (low1 (show placeT ws i < 4 by (first | lia | omega))).1]
            have hodd : xs.getD i 0 % 2 = 1 := by
              rw [show (2 : Int) = ((2 : Nat) : Int) from rfl, fmod_nat] at hz
              have : ((xs.getD i 0 % 2 : Nat) : Int) ≠ 0 := by simpa using hz
              (first | lia | omega)
            unfold letT
            rw [if_pos hodd]
            congr 2; (first | lia | omega)
          intro _ _
          (repeat (walk_at "w"))
          rename St _ _ _ _ _ => S16
          have hH16 : HdrIs ρ₂ r H := by
            refine cps fun X hX => ?_; obtain ⟨x, dx, hs, tkk, n0, rfl, hx, hdx⟩ := hH; refine hX ?_; clear hX X
            have hle16 := ((hle4.trans hle).trans hle9).trans (((Rl.le_add _ _ _).trans (Rl.le_add _ _ _)).trans hle15)
            exact ⟨x, dx, hs, tkk, n0, rfl, hle16 _ _ hx, hle16 _ _ hdx⟩
          have hH17 := hH16
          refine cps fun X hX => ?_; obtain ⟨x, dx, hs, tkk, n0, hrx, hx, hdx⟩ := hH17; refine hX ?_; clear hX X
          subst hrx
          have hnmok : OkT nm := nm_ok (by (first | lia | omega)) hnm
          have hsok := step_ok (ws := ws) (xs := xs) (lt := letT ws xs i) (show i < 4 by (first | lia | omega)) j
          with_reducible refine' R_setItemI B S16 (S16.get hx) (S16.get hdx) ?hq ?hs ?hf ?_
          case hq => k_is
          case hs => k_is
          case hf => k_is
          have S17 := S16.perm (List.perm_middle (l₁ := [_, _]) (l₂ := [_, _])).symm
          refine (setitem_ok w _ H nm [letT ws xs i] _ _ hvs2 n2 _ _ _ hH16 hP2 hnmok ⟨hltr, by simp⟩ hsok.1 hsok.2).use (rest := [_, _, _, _]) B S17 (by (first | lia | omega)) (by (first | lia | omega)) ?_
          intro r18 h18 t18 ρ18 own18 ho18 S18 hle18 z269k8; refine cps fun X hX => ?_; obtain ⟨rfl, hvs3, n3, rfl, hP3⟩ := z269k8; refine hX ?_; clear hX X
          rw [step_next (show i < 4 by (first | lia | omega)) hnm] at hP3
          (repeat (walk_at "w"))
          have S19 := S18.perm (mu' := [_, _, _, _, _]) (List.perm_middle (l₁ := [_, _]) (l₂ := [_, _]))
          refine hQQ _ _ ?_; exact Nxt.intro S19 ⟨_, rfl, hle18, _, _, _, _, _, _, _, rfl, rfl, hK, hP3⟩
        · (repeat (walk_at "w"))
          rename St _ _ _ _ _ => S16
          have hH16 : HdrIs ρ₂ r H := by
            refine cps fun X hX => ?_; obtain ⟨x, dx, hs, tkk, n0, rfl, hx, hdx⟩ := hH; refine hX ?_; clear hX X
            have hle16 := ((hle4.trans hle).trans hle9).trans (((Rl.le_add _ _ _).trans (Rl.le_add _ _ _)).trans hle15)
            exact ⟨x, dx, hs, tkk, n0, rfl, hle16 _ _ hx, hle16 _ _ hdx⟩
          have heven : xs.getD i 0 % 2 ≠ 1 := by
            rw [show (2 : Int) = ((2 : Nat) : Int) from rfl, fmod_nat] at hz
            have : ((xs.getD i 0 % 2 : Nat) : Int) = 0 := by simpa using hz
            (first | lia | omega)
          have hv : 75 + placeT ws i = letT ws xs i := by unfold letT; rw [if_neg heven]
          have hH17 := hH16
          refine cps fun X hX => ?_; obtain ⟨x, dx, hs, tkk, n0, hrx, hx, hdx⟩ := hH17; refine hX ?_; clear hX X
          subst hrx
          have hnmok : OkT nm := nm_ok (by (first | lia | omega)) hnm
          have hsok := step_ok (ws := ws) (xs := xs) (lt := letT ws xs i) (show i < 4 by (first | lia | omega)) j
          with_reducible refine' R_setItemI B S16 (S16.get hx) (S16.get hdx) ?hq ?hs ?hf ?_
          case hq => k_is
          case hs => k_is
          case hf => k_is
          have S17 := S16.perm (List.perm_middle (l₁ := [_, _]) (l₂ := [_, _])).symm
          refine (setitem_ok w _ H nm [75 + placeT ws i] _ _ hvs2 n2 _ _ _ hH16 hP2 hnmok (ok1 (by (first | lia | omega))) hsok.1 hsok.2).use (rest := [_, _, _, _]) B S17 (by (first | lia | omega)) (by (first | lia | omega)) ?_
          intro r18 h18 t18 ρ18 own18 ho18 S18 hle18 z296k8; refine cps fun X hX => ?_; obtain ⟨rfl, hvs3, n3, rfl, hP3⟩ := z296k8; refine hX ?_; clear hX X
          rw [hv, step_next (show i < 4 by (first | lia | omega)) hnm] at hP3
          (repeat (walk_at "w"))
          have S19 := S18.perm (mu' := [_, _, _, _, _]) (List.perm_middle (l₁ := [_, _]) (l₂ := [_, _]))
          refine hQQ _ _ ?_; exact Nxt.intro S19 ⟨_, rfl, hle18, _, _, _, _, _, _, _, rfl, rfl, hK, hP3⟩
      case done2 =>
        intro l mu ρ₂ h15 t15 hle15 z302k6 S15; refine cps fun X hX => ?_; obtain ⟨hvs2, n2, oK, tk, m3', m4', m5', rfl, rfl, hK, hP2⟩ := z302k6; refine hX ?_; clear hX X
        (repeat (walk_at "w"))
        rw [show stepT (pairsT ws xs i) i (letT ws xs i) [[107 + i], [75 + i]].length = pairsT ws xs (i + 1) from by show stepT _ _ _ 2 = _; unfold pairsT stepT; rw [List.range_succ, List.map_append]; rfl] at hP2
        refine hQQ _ _ ?_; exact Nxt.intro S15 ⟨_, rfl, hle9.trans (((Rl.le_add _ _ _).trans (Rl.le_add _ _ _)).trans hle15), _, _, _, _, _, _, _, rfl, rfl, hK, hP2⟩
    case done =>
      intro l mu ρ₁ h6 t6 hle6 z307k6 S6; refine cps fun X hX => ?_; obtain ⟨hvs, n, o₁', v', m3, m4, m5, rfl, rfl, hk1, hP⟩ := z307k6; refine hX ?_; clear hX X
      (repeat (walk_at "w"))
      refine cps fun X hX => ?_; obtain ⟨x, dx, hs, tkk, n0, rfl, hx, hdx⟩ := hH; refine hX ?_; clear hX X
      have hle7 := (hle4.trans hle6).trans (Rl.le_add ρ₁ H (lstO hvs n))
      refine hQ0 _ _ ?_; exact Fin.intro (S6.freeze (k := 0) rfl) ⟨H, ⟨x, dx, hs, tkk, n0, rfl, hle7 _ _ hx, hle7 _ _ hdx⟩, _, _, Rl.at_add _ _ _, hP.mono fun v p q => q.le (Rl.le_add _ _ _)⟩
theorem itemsS_ok (w : World) (self : Value) (H : Addr) (pairs : List (Txs × Txs)) (h : Heap) (ρ : Rl) (hself : HdrIs ρ self H) (hp : Lst (PairIs ρ) ρ H pairs) (hz : pairs.length ≤ 900) :
    CallOK PG w (hd.heap_1 w.params) (.ref 146) ⟨[self], []⟩ 1 10 h ρ (fun ρ' r => ∃ d, r = .ref d ∧ Lst (PairIs ρ') ρ' d pairs) := by
  refine cps fun X hX => ?_; obtain ⟨x, dx, hs, tk, n0, rfl, hx0, hd0⟩ := hself; refine hX ?_; clear hX X
  refine cps fun X hX => ?_; obtain ⟨hvs, n, hH, hp⟩ := hp; refine hX ?_; clear hX X
  refine' call_def0 (ns := ["self"]) (l₀ := [some (.ref x)]) (dn := 0) (un := 7) ?ho ?hcd ?hb ?hl ?hns ?hnd ?hln ?h1 ?h2 ?h3 ?h4 ?body
  case ho => k_is
  case hcd => k_is
  case hb => intro s _; exact BindsTo.of_eq rfl
  case hl => exact locs rfl
  case hns => exact binds1 []
  case hnd => decide
  case hln => rfl
  case h1 => rfl
  case h2 => rfl
  case h3 => rfl
  case h4 => decide
  case body =>
    intro A L h₁ G D O t E B hd hu S Q0 hQ0
    (repeat (walk_at "w"))
    ((with_reducible refine' R_getOwn ?Xx270 (S.get hx0) (S.get hd0) ?hgx270 ?hhx270 ?hax270 ?hnx270 ?hlx270 ?hvx270 ?_); (case Xx270 => exact (Gl.X (Bx.gl' (by with_reducible assumption) (by with_reducible assumption)))); (case hgx270 => k_is); (case hhx270 => k_is); (case hax270 => k_is); (case hnx270 => k_is); (case hlx270 => first | with_reducible assumption | exact rfl); (case hvx270 => first | exact rfl | (simp only [handedIn]; done)); intro _)
    (repeat (walk_at "w"))
    have S1 := S.sub (Sub.push h₁ { cls := .type "slice", data := .fields #[.none, .none, .none] })
    have hHl := IsList.of_get (S1.get hH)
    show wpAny _ _ (subscriptTail _ _ (.ref H) (.ref h₁.objs.size)) _ _ _
    refine tail_any hHl.typeIs list_getitem_lookup (wpAny_getItem_list_slice (lo := none) (hi := none) (st := none) hHl (Heap.IsSliceOf.new _ _ _ _) .none .none .none (by simp) ?_ (by rw [sizeLine_eq]; have := hp.len; simp; (first | lia | omega))) (by with_unfolding_all rfl)
    rw [slicePick_all]
    (repeat (walk_at "w"))
    refine hQ0 _ _ ?_; exact Fin.intro (S1.push (lstO hvs 0)) ⟨_, rfl, _, _, Rl.at_add _ _ _, hp.mono fun v p q => q.le (Rl.le_add _ _ _)⟩
section
variable {prog : Program} {w : World} {K : Frag} {A : Around} {E : Value → Shared → Prop} {env : Env} {c : FrC} {l : List (Option Value)} {mu : List (Addr × Obj)} {ρ : Rl} {h : Heap} {G : Array GenState} {D : Drawn} {O : OsState} {t : Nat}
theorem R_range' {n : Nat} {u : Tok} {Q : Value → Shared → Prop} (S : St c l mu ρ h) (k : ∀ r h' t' ρ' t1 t2 t3, St c l mu ρ' h' → ρ.le ρ' → ρ' r { cls := .type "range", dict := none, data := .fields #[.int 0 t1, .int n t2, .int 1 t3], slots := #[] } → Q (.ref r) ⟨h', G, D, t', O⟩) :
    wpAny (model prog w) A (call (.type "range") [.int (n : Nat) u]) Q E ⟨h, G, D, t, O⟩ :=
  call_range_1 (s := ⟨h, G, D, t, O⟩) (k _ _ _ _ _ _ _ (S.push _) (ρ.le_add _ _) (ρ.at_add _ _))
theorem R_ncS {x : Str} {pos : Pos} {v : Value} {a : Addr} {o : Obj} {Q : Value → Shared → Prop} {s : Shared} (V : env.scope.kind = .function) (hv : s.heap.get? a = some o) (hc : env.cells.lookup x = some a) (hd : o.data = .cell (some v)) (q : Q v s)
    (hx : env.kindOf x = some .cell) (hb : (x == ("__debug__" : Str)) = false) : wpAny (model prog w) A (eval (.Name x pos) env) Q E s :=
  wpAny_Name (wpAny_loadName_cell V hx hc ⟨o, hv, hd⟩ q) hb
theorem R_nfS {x : Str} {pos : Pos} {v : Value} {a : Addr} {o : Obj} {Q : Value → Shared → Prop} {s : Shared} (V : env.scope.kind = .function) (hv : s.heap.get? a = some o) (hc : env.cells.lookup x = some a) (hd : o.data = .cell (some v)) (q : Q v s)
    (hx : env.kindOf x = some .free) (hb : (x == ("__debug__" : Str)) = false) (hn : (x == ("__classdict__" : Str)) = false) : wpAny (model prog w) A (eval (.Name x pos) env) Q E s :=
  wpAny_Name (wpAny_loadName_free V hx hc ⟨o, hv, hd⟩ q hn) hb
theorem St.kept (S : St c l mu ρ h) : ∀ xs : List (Addr × Obj), (∀ x ∈ xs, ρ x.1 x.2) → ∃ fr : List (Addr × Obj), (∀ p ∈ fr, ρ p.1 p.2 ∧ c.h₀.get? p.1 = none) ∧ ∀ ρ' : Rl, c.ρ₀.le ρ' → (∀ p ∈ fr, ρ' p.1 p.2) → ∀ x ∈ xs, ρ' x.1 x.2
  | [], _ => ⟨[], by simp, by simp⟩
  | x :: xs, hx => by
    refine cps fun X hX => ?_; obtain ⟨fr, h1, h2⟩ := S.kept xs fun y hy => hx y (.tail _ hy); refine hX ?_; clear hX X
    rcases S.ex _ _ (hx x (.head _)) with q | q
    · refine ⟨fr, h1, fun ρ' hle hfr y hy => ?_⟩
      rcases List.mem_cons.mp hy with rfl | hy
      · exact hle _ _ q
      · exact h2 ρ' hle hfr y hy
    · refine ⟨x :: fr, fun p hp => ?_, fun ρ' hle hfr y hy => ?_⟩
      · rcases List.mem_cons.mp hp with rfl | hp
        · exact ⟨hx _ (.head _), q⟩
        · exact h1 p hp
      · rcases List.mem_cons.mp hy with rfl | hy
        · exact hfr _ (.head _)
        · exact h2 ρ' hle (fun p hp => hfr p (.tail _ hp)) y hy
end
section
variable {prog : Program} {w : World} {K : Frag} {A : Around} {E : Value → Shared → Prop} {env : Env} {c : FrC} {l : List (Option Value)} {mu : List (Addr × Obj)} {ρ : Rl} {h : Heap} {G : Array GenState} {D : Drawn} {O : OsState} {t : Nat}
theorem R_gmLIndex {a : Addr} {vs : List Value} {n : Nat} {pl : Sem Bool} {Q : Value × List Value → Shared → Prop} (e : h.get? a = some (lstO vs n)) (k : Q (.builtin "list.index", [.ref a]) ⟨h, G, D, t, O⟩) :
    wpAny (model prog w) A (getMethod (.ref a) "index" pl) Q E ⟨h, G, D, t, O⟩ :=
  getMethod_builtin (s := ⟨h, G, D, t, O⟩) ⟨_, e, rfl⟩ F.plainAttrs_list F.slot_list_index F.type_list_index (fun a q => by cases q; exact ⟨_, e, rfl⟩) k
theorem idxOf_cast (k : Nat) : ∀ xs : List Nat, (xs.map fun n : Nat => (n : Int)).idxOf (k : Int) = xs.idxOf k
  | [] => rfl
  | x :: xs => by
    rw [List.map_cons, List.idxOf_cons, List.idxOf_cons, idxOf_cast k xs]
    have : (((x : Nat) : Int) == (k : Int)) = (x == k) := by
      rw [Bool.eq_iff_iff]; simp only [beq_iff_eq]; (first | lia | omega)
    rw [this]
theorem R_lindex {a : Addr} {vs : List Value} {n k : Nat} {xs : List Nat} {u : Tok} {Q : Value → Shared → Prop} (e : h.get? a = some (lstO vs n)) (r : Are IsN vs xs) (hz : xs.length ≤ 1000) (hk : k ∈ xs) (q : ∀ u' t', Q (.int (xs.idxOf k : Nat) u') ⟨h, G, D, t', O⟩) :
    wpAny (model prog w) A (call (.builtin "list.index") [.ref a, .int (k : Nat) u]) Q E ⟨h, G, D, t, O⟩ := by
  have hi := ints_of (natsI r)
  have hlen := hi.length
  have hk' : (k : Int) ∈ xs.map fun n : Nat => (n : Int) := List.mem_map_of_mem hk
  have hj : (xs.map fun n : Nat => (n : Int)).idxOf (k : Int) < (xs.map fun n : Nat => (n : Int)).length := List.idxOf_lt_length_iff.mpr hk'
  have hb : (xs.map fun n : Nat => (n : Int)).length ≤ 1000 := by simpa using hz
  have hQ := q t (t + 1)
  rw [← idxOf_cast] at hQ
  refine call_meets (s := ⟨h, G, D, t, O⟩) PySem.F.slot_list_index ⟨_, e, rfl⟩ PySem.F.entry_list_index (PySem.F.args_list_index_2 _ _)
    (PySem.SeqAt.list_indexAt a vs.toArray n none #[] (.int k u) (isInt k) ((xs.map fun n : Nat => (n : Int)).idxOf (k : Int)) (by simpa [hlen] using hj) (by (first | lia | omega)) ?_ ?_) ⟨e, fun y hy => (eq_isInt k u hi y (by simpa using hy)).at _ _, hQ⟩
  · show isInt k vs[(xs.map fun n : Nat => (n : Int)).idxOf (k : Int)] = true
    rw [isInt_at k hi _ (by (first | lia | omega)) hj]
    simpa using List.getElem_idxOf hj
  · intro j hjs hlt
    show isInt k vs[j] = false
    rw [isInt_at k hi j (by simpa using hjs) (by (first | lia | omega))]
    exact ne_of_lt_idxOf hlt _
end
noncomputable def leafT (P : Array Nat → Bool) : KasT (Array Nat) → Bool
  | .ret p => P p
  | .ask _ _ f => leafT P (f true) && leafT P (f false)
theorem leafT_run {P : Array Nat → Bool} {lt : Nat → Nat → Bool} : ∀ {t : KasT (Array Nat)}, leafT P t = true → P (runT lt t) = true
  | .ret p, h => h
  | .ask i j f, h => by
    simp only [leafT, Bool.and_eq_true] at h
    show P (runT lt (f (lt i j))) = true
    cases lt i j with
    | true => exact leafT_run h.1
    | false => exact leafT_run h.2
theorem leaf3 : leafT (fun p => p.toList.isPerm (List.range 3)) (kas_sort 3) = true := by decide +kernel
theorem leaf4 : leafT (fun p => p.toList.isPerm (List.range 4)) (kas_sort 4) = true := by decide +kernel
theorem Itr.bound {prog : Program} {w : World} {A : Around} {I : Addr} {fz : List Addr} {n : Nat} {P : Nat → Value → Prop} {WS : Nat → Heap → Prop} (T : Itr prog w A I fz n P WS) : Itr prog w A I fz n (fun i v => i < n ∧ P i v) WS := ⟨T.W.bound, T.al⟩
theorem CallMut.withH {prog : Program} {w : World} {K : Frag} {f : Value} {ar : Args} {dn un : Nat} {own : List (Addr × Obj)} {h : Heap} {ρ : Rl} {Post : List (Addr × Obj) → Rl → Value → Prop}
    (x : (∀ a o, ρ a o → (hide h (adr own)).get? a = some o) → CallMut prog w K f ar dn un own h ρ Post) : CallMut prog w K f ar dn un own h ρ Post :=
  fun A R G D O t C hd hu hρ ho hn hR => x (fun a o e => hide_at (hρ a o e).1 (hρ a o e).2) A R G D O t C hd hu hρ ho hn hR
noncomputable def keyN (xs : List Nat) (i : Nat) : Int × Int := if xs.getD i 0 < 16 then (16 * xs.getD i 0, 1) else (xs.getD i 0, 2)
noncomputable def orderT (xs : List Nat) : List Nat := (runT (ltK (keyN xs)) (kas_sort xs.length)).toList
noncomputable def dueT (xs : List Nat) : List (Txs × Txs) := (List.range xs.length).map fun k => ([75 + k], [(if xs.getD k 0 % 2 = 1 then 107 else 75) + (orderT xs).idxOf k])
noncomputable def duePos : Pos := ⟨172, 30, 172, 100⟩
noncomputable def dueQual : Str := "_law_due.<locals>.<lambda>"
noncomputable def ModIs (ρ : Rl) : Prop := ∃ ob, ρ 4 ob ∧ ob.cls = .type "module" ∧ ob.dict = some builtinsNs ∧ ob.data = .plain
theorem ok3 : okT 3 (kas_sort 3) = true := by decide +kernel
theorem ok4 : okT 4 (kas_sort 4) = true := by decide +kernel
theorem order_perm {xs : List Nat} (hl : xs.length = 3 ∨ xs.length = 4) : (orderT xs).Perm (List.range xs.length) := by
  unfold orderT
  rcases hl with e | e <;> rw [e]
  · exact List.isPerm_iff.mp (leafT_run (P := fun p => p.toList.isPerm (List.range 3)) leaf3)
  · exact List.isPerm_iff.mp (leafT_run (P := fun p => p.toList.isPerm (List.range 4)) leaf4)
theorem dueQual_eq : (Str.ofString "_law_due" ++ ".<locals>.") ++ Str.ofString "<lambda>" = dueQual := by decide +kernel
theorem code_hd (p : Params) : codeHdIn (hd.heap_1 p) 282 280 = true := by kernel_rfl
theorem due_ok (w : World) (a : Addr) (xs : List Nat) (ps : Array Value) (h : Heap) (ρ : Rl) (ha : Lst IsN ρ a xs) (hl : xs.length = 3 ∨ xs.length = 4) (hx : ∀ x ∈ xs, x ≤ 1000) (hT : TabIs duePos dueQual ρ ps) (hob : ModIs ρ) :
    CallMut PG w (hd.heap_1 w.params) (.ref 283) ⟨[.ref a], []⟩ 5 50 [(280, tabObj ps)] h ρ (fun own ρ' r => ∃ ps' d, own = [(280, tabObj ps')] ∧ TabIs duePos dueQual ρ' ps' ∧ r = .ref d ∧ Lst (PairIs ρ') ρ' d (dueT xs)) := by
  refine CallMut.withH fun hρ => ?_
  have hok : okT xs.length (kas_sort xs.length) = true := by
    rcases hl with e | e <;> rw [e]
    · exact ok3
    · exact ok4
  have h24 : 2 ≤ xs.length ∧ xs.length ≤ 4 := by (first | lia | omega)
  refine' call_defCM (ns := ["lamps"]) (l₀ := [none]) (dn := 4) (un := 47) ?ho ?hcd ?hb ?hkd ?hndc ?hns ?hnd ?hln ?h1 ?h2 ?h3 ?body
  case ho => k_is
  case hcd => k_is
  case hb => intro s _; exact BindsTo.of_eq rfl
  case hkd => exact rfl
  case hndc => decide
  case hns => funext y; simp only [lk]; split <;> rfl
  case hnd => decide
  case hln => rfl
  case h1 => rfl
  case h2 => rfl
  case h3 => rfl
  case body =>
    intro A L h₁ G D O t cells E Y B hd hu S Q0 hQ0
    refine cps fun X hX => ?_; obtain ⟨o₁, o₂, rfl, q1, q2⟩ := Y.two; refine hX ?_; clear hX X
    change o₂.data = .cell (some (.ref a)) at q2
    (repeat (walk_at "w"))
    with_reducible refine R_len_list S ha (by (first | lia | omega)) ?_
    intro _ _
    (repeat (walk_at "w"))
    with_reducible refine R_range' S ?_
    intro rg h4 t4 ρ4 u1 u2 u3 S4 hle4 hrg
    (repeat (walk_at "w"))
    refine wpAny_Call_Name_kw ?_
    (repeat (walk_at "w"))
    with_reducible refine' callWith_kw ?_ ?he ?hp ?hall ?hkw
    case he => exact rfl
    case hp => exact rfl
    case hall => exact rfl
    case hkw => exact rfl
    (repeat (walk_at "w"))
    rename St _ _ _ _ _ => S5
    refine cps fun X hX => ?_; obtain ⟨ob, hob, ho1, ho2, ho3⟩ := hob; refine hX ?_; clear hX X
    have S6 := S5.freeze (k := 1) rfl
    refine R_lambda (k := 1) (P := 280) (cA := 282) (bm := 4) (pos := duePos) (qual := dueQual) (clos := [("numbers", L + 1)]) B S6 rfl ((hT.le hle4).le (Rl.le_add _ _ _)) ?_ ?_ ?_ ?_ ?_ ?_ ?_ ?_ (.inl (hle4 _ _ hob)) ho1 ho2 ho3 ?_
    · exact dueQual_eq
    · exact rfl
    · exact code_hd w.params
    · exact rfl
    · exact rfl
    · k_is
    · decide
    · decide
    intro fa h7 t7 ρ7 ps7 S7 hle7 hT7 hlam
    (repeat (walk_at "w"))
    show wpAny _ _ (call (.builtin "sorted") [.ref rg] [(Str.ofString "key", .ref fa)]) _ _ _
    obtain ⟨tl, htl, hTk⟩ : ∃ tl : List (Addr × Obj), (∀ x ∈ tl, ρ7 x.1 x.2) ∧ ∀ ρ' : Rl, (∀ x ∈ tl, ρ' x.1 x.2) → TabIs duePos dueQual ρ' ps7 := by
      rcases hT7 with e | ⟨c', e, oc, vs, tt, e1, e2, e3⟩
      · exact ⟨[], by simp, fun ρ' _ => .inl e⟩
      · exact ⟨[(c', oc)], by simpa using e1, fun ρ' hx => .inr ⟨c', e, oc, vs, tt, hx (c', oc) (by simp), e2, e3⟩⟩
    refine cps fun X hX => ?_; obtain ⟨pm, c', ctv, hf1, oc, vs, tt, hf2, hf3, hf4⟩ := hlam; refine hX ?_; clear hX X
    have hrg7 := hle7 _ _ (Rl.le_add ρ4 (L + 1) o₂ _ _ hrg)
    obtain ⟨fr, hfr1, hfr2⟩ := S7.kept ([(rg, _), (L + 1, o₂), (fa, _), (c', oc)] ++ tl) (by
      intro x hx
      rcases List.mem_append.mp hx with hx | hx
      · rcases List.mem_cons.mp hx with rfl | hx
        · exact hrg7
        · rcases List.mem_cons.mp hx with rfl | hx
          · exact hle7 _ _ (Rl.at_add _ _ _)
          · rcases List.mem_cons.mp hx with rfl | hx
            · exact hf1
            · rcases List.mem_cons.mp hx with rfl | hx
              · exact hf2
              · exact absurd hx (by simp)
      · exact htl x hx)
    refine R_sortKey (key := keyN xs) (n := xs.length) (dn := 1) (un := 20) (fr := fr) B hρ S7 (S7.get hrg7) h24.1 (by (first | lia | omega)) hok hfr1 ?hcall (by (first | lia | omega)) (by (first | lia | omega)) ?_
    case hcall =>
      rintro hh ρ' i v hp hle hi ⟨tv, rfl⟩
      have Kp := hfr2 ρ' hle hp
      refine (call_lam (dn := 0) (un := 17) (binds := [("k", .int i tv)]) (ns := ["k"]) (l₀ := [some (.int i tv)]) ⟨pm, c', ctv, Kp _ (List.mem_append_left _ (.tail _ (.tail _ (.head _)))), oc, vs, tt, Kp _ (List.mem_append_left _ (.tail _ (.tail _ (.tail _ (.head _))))), hf3, hf4⟩ ?hbind ?hloc ?hns ?hnd ?hln ?h1 ?h2 ?h3 ?h4 ?body)
      case hbind => intro pm c' ctv; exact rfl
      case hloc => exact locs rfl
      case hns => exact binds1 []
      case hnd => decide
      case hln => rfl
      case h1 => rfl
      case h2 => rfl
      case h3 => rfl
      case h4 => decide
      case body =>
        intro A L2 h1' G D O t E cdv B hd hu S
        have hc2 := S.get (Kp _ (List.mem_append_left _ (.tail _ (.head _))))
        have hxi : xs[i]? = some (xs.getD i 0) := by rw [List.getD_eq_getElem?_getD, List.getElem?_eq_getElem (by (first | lia | omega))]; rfl
        (repeat (walk_at "w"))
        refine R_nfS rfl hc2 rfl q2 ?_ rfl (by decide) (by decide)
        (repeat (walk_at "w"))
        with_reducible refine R_item (P := IsN) (xs := xs) S (ha.le hle) (by (first | lia | omega)) (by (first | lia | omega)) (x := xs.getD i 0) (by simpa using hxi) ?_ (by (first | exact rfl | with_unfolding_all rfl | (intro _; exact rfl) | (intro _; with_unfolding_all rfl))) (by (first | exact rfl | with_unfolding_all rfl | (intro _; exact rfl) | (intro _; with_unfolding_all rfl)))
        rintro _ ⟨tx, rfl⟩
        (repeat (walk_at "w"))
        refine R_ite (fun hz => ?_) (fun hz => ?_)
        · have hz' : xs.getD i 0 < 16 := by have := of_decide_eq_true hz; (first | lia | omega)
          (repeat (walk_at "w"))
          refine R_nfS rfl hc2 rfl q2 ?_ rfl (by decide) (by decide)
          (repeat (walk_at "w"))
          with_reducible refine R_item (P := IsN) (xs := xs) S (ha.le hle) (by (first | lia | omega)) (by (first | lia | omega)) (x := xs.getD i 0) (by simpa using hxi) ?_ (by (first | exact rfl | with_unfolding_all rfl | (intro _; exact rfl) | (intro _; with_unfolding_all rfl))) (by (first | exact rfl | with_unfolding_all rfl | (intro _; exact rfl) | (intro _; with_unfolding_all rfl)))
          rintro _ ⟨tx2, rfl⟩
          (repeat (walk_at "w"))
          with_reducible refine R_tupNew S (by simp) ?_
          intro T5 h5 S5
          refine Fin.intro S5 ⟨T5, _, _, _, rfl, Rl.at_add _ _ _, isI_of ?_, isI_of ?_⟩ <;> (unfold keyN; rw [if_pos hz'])
        · have hz' : ¬ xs.getD i 0 < 16 := by
            intro q
            exact hz (decide_eq_true (by (first | lia | omega)))
          (repeat (walk_at "w"))
          refine R_nfS rfl hc2 rfl q2 ?_ rfl (by decide) (by decide)
          (repeat (walk_at "w"))
          with_reducible refine R_item (P := IsN) (xs := xs) S (ha.le hle) (by (first | lia | omega)) (by (first | lia | omega)) (x := xs.getD i 0) (by simpa using hxi) ?_ (by (first | exact rfl | with_unfolding_all rfl | (intro _; exact rfl) | (intro _; with_unfolding_all rfl))) (by (first | exact rfl | with_unfolding_all rfl | (intro _; exact rfl) | (intro _; with_unfolding_all rfl)))
          rintro _ ⟨tx2, rfl⟩
          (repeat (walk_at "w"))
          with_reducible refine R_tupNew S (by simp) ?_
          intro T5 h5 S5
          refine Fin.intro S5 ⟨T5, _, _, _, rfl, Rl.at_add _ _ _, isI_of ?_, isI_of ?_⟩ <;> (unfold keyN; rw [if_neg hz'])
    intro d h8 t8 ρ8 S8 hle8 hk8 hd8
    (repeat (walk_at "w"))
    rename St _ _ _ _ _ => S9
    have Kp := hfr2 ρ8 hle8 hk8
    have hrg8 := Kp _ (List.mem_append_left _ (.head _))
    have hc8 := Kp _ (List.mem_append_left _ (.tail _ (.head _)))
    with_reducible refine R_iter_range B.hh S9 (S9.get hrg8) (by (first | lia | omega)) ?_
    intro I o10 h10 WS10 T10 hw10 S10 hfz10
    rw [← List.length_range (n := xs.length)] at T10
    have T10 := T10.bound
    with_reducible refine' R_fE (P := fun _ v z => IsN v z) (xs := List.range xs.length) (fun _ => true) (fun k => ([75 + k], [(if xs.getD k 0 % 2 = 1 then 107 else 75) + (orderT xs).idxOf k])) (fun ρ' => PairIs ρ') ?hm T10 ?hP hw10 S10 hfz10 ?_ ?hcell ?hkind ?hx ?_ ?_
    case hm => exact fun _ _ _ _ hle q => q.le hle
    case hP =>
      intro i v z224k2; refine cps fun X hX => ?_; obtain ⟨hi, tt, rfl⟩ := z224k2; refine hX ?_; clear hX X
      exact ⟨i, List.getElem?_range (by simpa using hi), fun _ _ => ⟨tt, rfl⟩⟩
    case hcell => decide
    case hkind => exact rfl
    case hx => exact rfl
    · simp; (first | lia | omega)
    · intro i v z C ρ₁ d1 d2 d3 h t E' hz ⟨u, hu'⟩ hle hcv S11
      subst hu'
      have hzl : z < xs.length := by
        have := List.mem_of_getElem? hz
        exact List.mem_range.mp this
      have hxi : xs[z]? = some (xs.getD z 0) := by rw [List.getD_eq_getElem?_getD, List.getElem?_eq_getElem hzl]; rfl
      refine R_noIf ⟨rfl, ?_⟩
      rw [if_pos rfl]
      (repeat (walk_at "w"))
      with_reducible refine R_sitem (itemK ⟨z, by (first | lia | omega)⟩) (by rw [lenK]; show z < 4; (first | lia | omega)) (by rw [lenK]; (first | lia | omega)) ?_ (by (first | exact rfl | with_unfolding_all rfl | (intro _; exact rfl) | (intro _; with_unfolding_all rfl))) (by (first | exact rfl | with_unfolding_all rfl | (intro _; exact rfl) | (intro _; with_unfolding_all rfl)))
      intro _ _
      (repeat (walk_at "w"))
      rename St _ _ _ _ _ => S12
      with_reducible refine R_tupNew S12 (by simp) ?_
      intro T13 h13 S13
      (repeat (walk_at "w"))
      refine R_ncS rfl (S13.get (.inl (hle _ _ hc8))) rfl q2 ?_ rfl (by decide)
      (repeat (walk_at "w"))
      with_reducible refine R_item (P := IsN) (xs := xs) S13 (ha.le (hle8.trans (hle.trans (Rl.le_add _ _ _)))) (by (first | lia | omega)) (by (first | lia | omega)) (x := xs.getD z 0) (by simpa using hxi) ?_ (by (first | exact rfl | with_unfolding_all rfl | (intro _; exact rfl) | (intro _; with_unfolding_all rfl))) (by (first | exact rfl | with_unfolding_all rfl | (intro _; exact rfl) | (intro _; with_unfolding_all rfl)))
      rintro _ ⟨tx, rfl⟩
      (repeat (walk_at "w"))
      with_reducible refine R_mod (by decide) ?_
      intro _ _
      (repeat (walk_at "w"))
      have e0 : ((xs.getD z 0 : Nat) : Int).fmod 2 = ((xs.getD z 0 % 2 : Nat) : Int) := by rw [show (2 : Int) = ((2 : Nat) : Int) from rfl, fmod_nat]
      by_cases hp : xs.getD z 0 % 2 = 1
      · rw [e0, hp]
        refine kba_turn (value' := PySem.Expr.Name (PySem.Str.ofString "x") ⟨0, 0, 0, 0⟩) (fun _ => rfl) ?_
        with_reducible refine R_titem (i := ((1 : Nat) : Int)) (j := 1) (S13.get (Rl.at_add _ _ _)) (by decide) (by decide) rfl rfl ?_ (by (first | exact rfl | with_unfolding_all rfl | (intro _; exact rfl) | (intro _; with_unfolding_all rfl))) (by (first | exact rfl | with_unfolding_all rfl | (intro _; exact rfl) | (intro _; with_unfolding_all rfl)))
        (repeat (walk_at "w"))
        rename St _ _ _ _ _ => S14
        refine cps fun X hX => ?_; obtain ⟨dvs, dn, hd9, hr9⟩ := (show Lst IsN ρ8 d (orderT xs) from hd8); refine hX ?_; clear hX X
        have hd10 := S14.get (.inl (hle _ _ hd9))
        with_reducible refine R_gmLIndex hd10 ?_
        (repeat (walk_at "w"))
        have hop := order_perm hl
        have hmem : z ∈ orderT xs := hop.mem_iff.mpr (List.mem_range.mpr hzl)
        with_reducible refine R_lindex hd10 hr9 (by rw [hop.length_eq, List.length_range]; (first | lia | omega)) hmem ?_
        intro _ _
        (repeat (walk_at "w"))
        have hix : (orderT xs).idxOf z < 4 := by
          have := List.idxOf_lt_length_iff.mpr hmem
          rw [hop.length_eq, List.length_range] at this; (first | lia | omega)
        with_reducible refine R_sitem (itemk ⟨(orderT xs).idxOf z, hix⟩) (by rw [lenk]; exact hix) (by rw [lenk]; (first | lia | omega)) ?_ (by (first | exact rfl | with_unfolding_all rfl | (intro _; exact rfl) | (intro _; with_unfolding_all rfl))) (by (first | exact rfl | with_unfolding_all rfl | (intro _; exact rfl) | (intro _; with_unfolding_all rfl)))
        intro _ _
        (repeat (walk_at "w"))
        rename St _ _ _ _ _ => S15
        with_reducible refine R_tupNew S15 (by simp) ?_
        intro T16 h16 S16
        refine CNx.intro S16 ((Rl.le_add _ _ _).trans (Rl.le_add _ _ _)) ⟨T16, _, _, _, rfl, Rl.at_add _ _ _, ⟨_, rfl⟩, isS_of ?_⟩
        dsimp only; rw [if_pos hp]
      · rw [e0, show xs.getD z 0 % 2 = 0 by (first | lia | omega)]
        refine kba_turn (value' := PySem.Expr.Name (PySem.Str.ofString "x") ⟨0, 0, 0, 0⟩) (fun _ => rfl) ?_
        with_reducible refine R_titem (i := ((0 : Nat) : Int)) (j := 0) (S13.get (Rl.at_add _ _ _)) (by decide) (by decide) rfl rfl ?_ (by (first | exact rfl | with_unfolding_all rfl | (intro _; exact rfl) | (intro _; with_unfolding_all rfl))) (by (first | exact rfl | with_unfolding_all rfl | (intro _; exact rfl) | (intro _; with_unfolding_all rfl)))
        (repeat (walk_at "w"))
        rename St _ _ _ _ _ => S14
        refine cps fun X hX => ?_; obtain ⟨dvs, dn, hd9, hr9⟩ := (show Lst IsN ρ8 d (orderT xs) from hd8); refine hX ?_; clear hX X
        have hd10 := S14.get (.inl (hle _ _ hd9))
        with_reducible refine R_gmLIndex hd10 ?_
        (repeat (walk_at "w"))
        have hop := order_perm hl
        have hmem : z ∈ orderT xs := hop.mem_iff.mpr (List.mem_range.mpr hzl)
        with_reducible refine R_lindex hd10 hr9 (by rw [hop.length_eq, List.length_range]; (first | lia | omega)) hmem ?_
        intro _ _
        (repeat (walk_at "w"))
        have hix : (orderT xs).idxOf z < 4 := by
          have := List.idxOf_lt_length_iff.mpr hmem
          rw [hop.length_eq, List.length_range] at this; (first | lia | omega)
        with_reducible refine R_sitem (itemK ⟨(orderT xs).idxOf z, hix⟩) (by rw [lenK]; exact hix) (by rw [lenK]; (first | lia | omega)) ?_ (by (first | exact rfl | with_unfolding_all rfl | (intro _; exact rfl) | (intro _; with_unfolding_all rfl))) (by (first | exact rfl | with_unfolding_all rfl | (intro _; exact rfl) | (intro _; with_unfolding_all rfl)))
        intro _ _
        (repeat (walk_at "w"))
        rename St _ _ _ _ _ => S15
        with_reducible refine R_tupNew S15 (by simp) ?_
        intro T16 h16 S16
        refine CNx.intro S16 ((Rl.le_add _ _ _).trans (Rl.le_add _ _ _)) ⟨T16, _, _, _, rfl, Rl.at_add _ _ _, ⟨_, rfl⟩, isS_of ?_⟩
        dsimp only; rw [if_neg hp]
    intro Dd ρ9 h9 t9 hle9 hD9 S17
    rw [filt_true] at hD9
    (repeat (walk_at "w"))
    refine hQ0 _ _ ?_; exact FinM.intro (S17.drop (mu' := [(280, tabObj ps7)]) (.cons _ (.cons_cons _ .slnil))) ⟨ps7, Dd, rfl, hTk ρ9 (fun x hx => hle9 _ _ (Kp _ (List.mem_append_right _ hx))), rfl, hD9⟩ rfl
section
variable {prog : Program} {w : World} {K : Frag} {A : Around} {E : Value → Shared → Prop} {h : Heap} {G : Array GenState} {D : Drawn} {O : OsState} {t : Nat}
theorem R_fdiv {a b : Nat} {u v : Tok} {Q : Value → Shared → Prop} (hb : b ≠ 0) (ha : a ≤ 1000) (hb2 : b ≤ 1000) (q : ∀ u' t', Q (.int ((a / b : Nat) : Int) u') ⟨h, G, D, t', O⟩) : wpAny (model prog w) A (binaryOp .FloorDiv (.int (a : Nat) u) (.int (b : Nat) v)) Q E ⟨h, G, D, t, O⟩ :=
  PyProof.Rows.floordiv_int (by (first | lia | omega)) (by
    have : ((a : Nat) : Int).fdiv (b : Nat) = ((a / b : Nat) : Int) := by rw [Int.fdiv_eq_ediv_of_nonneg _ (by (first | lia | omega))]; rfl
    rw [this]; exact q _ _)
end
noncomputable def apT (n : Nat) : Txs := (apL n).map (·.toNat)
theorem ap_chars : ∀ n : _root_.Fin 128, 1 ≤ n.val → 1 ≤ (apL n.val).length ∧ (∀ c ∈ apT n.val, 65 ≤ c ∧ c < 81) ∧ readL (apT n.val) = (n.val : Int) := by decide +kernel
theorem ap_two : ∀ a : _root_.Fin 32, lowL (apT (32 + a.val)) = [99 + a.val / 16, 97 + a.val % 16] ∧ lowL (lowL (apT (32 + a.val))) = [99 + a.val / 16, 97 + a.val % 16] ∧ lowL [67 + a.val / 16, 97 + a.val % 16] = [99 + a.val / 16, 97 + a.val % 16] := by decide +kernel
theorem ap_ok {n : Nat} (h1 : 1 ≤ n) (h2 : n < 128) : OkT (apT n) := by
  have h := ap_chars ⟨n, h2⟩ h1
  refine ⟨fun c hc => by have := h.2.1 c hc; (first | lia | omega), ?_⟩
  unfold apT; rw [List.length_map]; exact Nat.le_trans (apL_len n) (by decide)
noncomputable def bookK (lab : Nat → Nat) (many : Nat) (far : List (List Nat)) (k : Nat) : Txs × Txs := (if k % 2 = 1 then apT (32 + wordK lab many far k) else lowL (apT (32 + wordK lab many far k)), apT (64 + k))
noncomputable def bookT (lab : Nat → Nat) (many : Nat) (far : List (List Nat)) (n : Nat) : List (Txs × Txs) := (List.range n).map (bookK lab many far)
theorem TwiceOK.word {lab : Nat → Nat} {many : Nat} {near far : List (List Nat)} (H : TwiceOK lab many near far) (k : Nat) : wordK lab many far k < 32 := by
  unfold wordK
  have h1 := H.hm
  refine H.hlt _ ?_
  have := Nat.mod_lt ((far.getD k []).headD 0) (show many > 0 by (first | lia | omega))
  (first | lia | omega)
theorem told_pure {lab : Nat → Nat} {many a n : Nat} {far : List (List Nat)} (hw : ∀ k, wordK lab many far k < 32) (ha : a < 32) (hn : n ≤ 32) :
    ((bookT lab many far n).filter (sameT [67 + a / 16, 97 + a % 16])).map (fun p => readL p.2 - 64) = ((List.range n).filter fun k => wordK lab many far k == a).map fun k : Nat => (k : Int) := by
  unfold bookT
  rw [List.filter_map, List.map_map]
  have e1 : (List.range n).filter (sameT [67 + a / 16, 97 + a % 16] ∘ bookK lab many far) = (List.range n).filter fun k => wordK lab many far k == a := by
    refine List.filter_congr fun k hk => ?_
    have h1 := ap_two ⟨wordK lab many far k, hw k⟩
    have h2 := ap_two ⟨a, ha⟩
    dsimp only at h1 h2
    show (lowL (bookK lab many far k).1 == lowL [67 + a / 16, 97 + a % 16]) = _
    rw [h2.2.2]
    have e : lowL (bookK lab many far k).1 = [99 + wordK lab many far k / 16, 97 + wordK lab many far k % 16] := by
      unfold bookK; split
      · exact h1.1
      · exact h1.2.1
    rw [e, Bool.eq_iff_iff]
    simp only [beq_iff_eq, List.cons.injEq, and_true]
    generalize wordK lab many far k = b
    exact ⟨fun q => by rw [← Nat.div_add_mod b 16, ← Nat.div_add_mod a 16, Nat.add_left_cancel q.1, Nat.add_left_cancel q.2], fun q => by rw [q]; exact ⟨rfl, rfl⟩⟩
  rw [e1]
  refine List.map_congr_left fun k hk => ?_
  have hk' : k < n := List.mem_range.mp (List.mem_filter.mp hk).1
  have := (ap_chars ⟨64 + k, by (first | lia | omega)⟩ (by show 1 ≤ 64 + k; (first | lia | omega))).2.2
  show readL (apT (64 + k)) - 64 = _
  dsimp only at this
  rw [this]; (first | lia | omega)
theorem HdrIs.le {ρ ρ' : Rl} {v : Value} {H : Addr} (x : HdrIs ρ v H) (h : ρ.le ρ') : HdrIs ρ' v H := let ⟨x, dx, hs, tk, n, e, a, b⟩ := x; ⟨x, dx, hs, tk, n, e, h _ _ a, h _ _ b⟩
theorem itemCD : ∀ j : _root_.Fin 2, Txt.item "CD" (j.val : Int) = stL [67 + j.val] := by decide +kernel
theorem itemap : ∀ j : _root_.Fin 16, Txt.item "abcdefghijklmnop" (j.val : Int) = stL [97 + j.val] := by decide +kernel
theorem lenCD : ("CD" : Str).length = 2 := by decide +kernel
theorem lenap : ("abcdefghijklmnop" : Str).length = 16 := by decide +kernel
theorem kds_code (p : Params) : kdsCode (hd.heap_1 p) (.ref 309) = true := by kernel_rfl
theorem twice_ok (w : World) (la na fa : Addr) (tm : Tok) (lab : Nat → Nat) (label : List Int) (many : Nat) (near far : List (List Nat)) (h : Heap) (ρ : Rl) (hl : Lst IsI ρ la label) (hlab : ∀ i, i < 4 * many → label[i]? = some ((lab i : Nat) : Int))
    (hn : Lst (RowIs ρ) ρ na near) (hf : Lst (RowIs ρ) ρ fa far) (H : TwiceOK lab many near far) :
    CallOK PG w (hd.heap_1 w.params) (.ref 310) ⟨[.ref la, .ref na, .ref fa, .int (many : Nat) tm], []⟩ 6 100 h ρ (fun ρ' r => ∃ t, r = .int (twS lab many far near : Nat) t) := by
  have hm := H.hm
  refine' call_def0 (ns := ["label", "near", "far", "many", "book", "k", "name", "twice", "row", "at", "told"]) (l₀ := [some (.ref la), some (.ref na), some (.ref fa), some (.int (many : Nat) tm), none, none, none, none, none, none, none]) (dn := 5) (un := 97) ?ho ?hcd ?hb ?hl ?hns ?hnd ?hln ?h1 ?h2 ?h3 ?h4 ?body
  case ho => k_is
  case hcd => k_is
  case hb => intro s _; exact BindsTo.of_eq rfl
  case hl => exact locs rfl
  case hns => exact binds4 _ (by decide) (by decide) (by decide) (by decide) (by decide) (by decide)
  case hnd => decide
  case hln => rfl
  case h1 => rfl
  case h2 => rfl
  case h3 => rfl
  case h4 => decide
  case body =>
    intro A L h₁ G D O t E B hd hu S Q0 hQ0
    (repeat (walk_at "w"))
    refine (hdr_ok w h₁ ρ).use B S (by (first | lia | omega)) (by (first | lia | omega)) ?_
    intro r h2 t2 ρ2 S2' hle2' z73k6; refine cps fun X hX => ?_; obtain ⟨Hd, hH2, hHl, hHn⟩ := z73k6; refine hX ?_; clear hX X
    obtain ⟨S2, hle2⟩ := S.thaw S2' hle2' hHl hHn
    have hH : HdrIs (ρ2.drop Hd) r Hd := by
      refine cps fun X hX => ?_; obtain ⟨x, dx, hs, tk, n, rfl, hx, hdx⟩ := hH2; refine hX ?_; clear hX X
      refine ⟨x, dx, hs, tk, n, rfl, ⟨hx, fun q => ?_⟩, ⟨hdx, fun q => ?_⟩⟩
      · have := S2'.get hx; rw [q, S2'.get hHl] at this; simp at this
      · have := S2'.get hdx; rw [q, S2'.get hHl] at this; simp at this
    generalize ρ2.drop Hd = ρ3 at S2 hle2 hH
    (repeat (walk_at "w"))
    rename St _ _ _ _ _ => S3
    have hf3 := hf.le hle2
    with_reducible refine R_len_list S3 (hf.le hle2) (by have := H.h32; (first | lia | omega)) ?_
    intro _ _
    (repeat (walk_at "w"))
    with_reducible refine R_range S3 ?_
    intro rg h4 t4 ρ4 u1 u2 u3 S4 hle4 hrg
    (repeat (walk_at "w"))
    with_reducible refine R_iter_range B.hh S4 hrg (by have := H.h32; (first | lia | omega)) ?_
    intro I o h5 WS T hw S5 hfz
    with_reducible refine' R_forLoop (fun i l mu ρ' => ∃ hvs n m5 m6, l = [some (.ref la), some (.ref na), some (.ref fa), some (.int (many : Nat) tm), some r, m5, m6, none, none, none, none] ∧ mu = [(Hd, lstO hvs n)] ∧ Are (PairIs ρ') hvs (bookT lab many far i)) T hw S5 hfz ?hJ ?turn ?done ?ht
    case hJ => exact ⟨_, _, _, _, rfl, rfl, .nil⟩
    case ht => intro _; exact rfl
    case turn =>
      intro i v l mu ρ₁ h6 t6 o6 E' QQ hQQ hi z96k12 hle S6 z96k15; refine cps fun X hX => ?_; obtain ⟨tv, rfl⟩ := z96k12; obtain ⟨hvs, n, m5, m6, rfl, rfl, hP⟩ := z96k15; refine hX ?_; clear hX X
      have hle0 : ρ.le ρ₁ := hle2.trans (hle4.trans hle)
      obtain ⟨row, hrow⟩ : ∃ row, far[i]? = some row := ⟨_, List.getElem?_eq_getElem hi⟩
      refine cps fun X hX => ?_; obtain ⟨d0, rest, hrw, hd0⟩ := H.hfar row (List.mem_of_getElem? hrow); refine hX ?_; clear hX X
      have h32 := H.h32
      have hwk : wordK lab many far i = lab (many + d0 % many) := by
        unfold wordK
        rw [List.getD_eq_getElem?_getD, hrow, hrw]; rfl
      have hwl := H.word i
      have hmod : d0 % many < many := Nat.mod_lt _ (by (first | lia | omega))
      (repeat (walk_at "w"))
      rename St _ _ _ _ _ => S7
      with_reducible refine R_item (P := RowIs ρ) (xs := far) S7 (hf.le hle0) (by (first | lia | omega)) (by (first | lia | omega)) (x := row) (by simpa using hrow) ?_ (by (first | exact rfl | with_unfolding_all rfl | (intro _; exact rfl) | (intro _; with_unfolding_all rfl))) (by (first | exact rfl | with_unfolding_all rfl | (intro _; exact rfl) | (intro _; with_unfolding_all rfl)))
      intro _ z109k1; refine cps fun X hX => ?_; obtain ⟨ra, rfl, hra⟩ := z109k1; refine hX ?_; clear hX X
      (repeat (walk_at "w"))
      refine kba_turn (value' := PySem.Expr.Name (PySem.Str.ofString "x") ⟨0, 0, 0, 0⟩) (fun _ => rfl) ?_
      with_reducible refine R_item (P := IsN) (xs := row) S7 (hra.le hle0) (by decide) (by decide) (x := d0) (by rw [hrw]; simp) ?_ (by (first | exact rfl | with_unfolding_all rfl | (intro _; exact rfl) | (intro _; with_unfolding_all rfl))) (by (first | exact rfl | with_unfolding_all rfl | (intro _; exact rfl) | (intro _; with_unfolding_all rfl)))
      rintro _ ⟨tx, rfl⟩
      (repeat (walk_at "w"))
      with_reducible refine R_mod (by (first | lia | omega)) ?_
      intro _ _
      rw [fmod_nat]
      (repeat (walk_at "w"))
      rw [show ((many : Nat) : Int) + ((d0 % many : Nat) : Int) = ((many + d0 % many : Nat) : Int) from by (first | lia | omega)]
      with_reducible refine R_item (P := IsI) (xs := label) S7 (hl.le hle0) (by (first | lia | omega)) (by (first | lia | omega)) (x := ((wordK lab many far i : Nat) : Int)) (by rw [Int.toNat_natCast, hwk]; exact hlab _ (by (first | lia | omega))) ?_ (by (first | exact rfl | with_unfolding_all rfl | (intro _; exact rfl) | (intro _; with_unfolding_all rfl))) (by (first | exact rfl | with_unfolding_all rfl | (intro _; exact rfl) | (intro _; with_unfolding_all rfl)))
      rintro _ ⟨ty, rfl⟩
      (repeat (walk_at "w"))
      refine (int2ap_ok w _ _ _ _ (by (first | lia | omega))).use B S7 (by (first | lia | omega)) (by (first | lia | omega)) ?_
      rintro _ h8 t8 ρ8 S8 hle8 ⟨tz, rfl⟩
      rw [show (32 + ((wordK lab many far i : Nat) : Int)).natAbs = 32 + wordK lab many far i from by (first | lia | omega)]
      have hap := ap_chars ⟨32 + wordK lab many far i, by (first | lia | omega)⟩ (by show 1 ≤ 32 + _; (first | lia | omega))
      dsimp only at hap
      (repeat (walk_at "w"))
      with_reducible refine R_gmDecode ?_
      (repeat (walk_at "w"))
      refine R_decode (ls := apT (32 + wordK lab many far i)) rfl hap.1 (apL_len _) (fun c hc => by have := hap.2.1 c hc; (first | lia | omega)) ?_
      intro _ _
      (repeat (walk_at "w"))
      rename St _ _ _ _ _ => S9
      have hH9 : HdrIs ρ8 r Hd := hH.le (hle4.trans (hle.trans hle8))
      refine cps fun X hX => ?_; obtain ⟨x, dx, hs, tkk, n0, hrx, hx, hdx⟩ := id hH9; refine hX ?_; clear hX X
      subst hrx
      have hap2 := ap_chars ⟨64 + i, by (first | lia | omega)⟩ (by show 1 ≤ 64 + i; (first | lia | omega))
      dsimp only at hap2
      have hok := ap_ok (n := 32 + wordK lab many far i) (by (first | lia | omega)) (by (first | lia | omega))
      ((with_reducible refine' R_method ?Xx340 (S9.get hx) (S9.get hdx) ?hgx340 ?hfx340 ?htx340 ?hlx340 ?_); (case Xx340 => exact (Gl.X (Bx.gl' (by with_reducible assumption) (by with_reducible assumption)))); (case hgx340 => k_is); (case hfx340 => k_is); (case htx340 => k_is); (case hlx340 => first | with_reducible assumption | exact rfl))
      (repeat (walk_at "w"))
      with_reducible refine R_mod (by decide) ?_
      intro _ _
      have e0 : ((i : Nat) : Int).fmod 2 = ((i % 2 : Nat) : Int) := by rw [show (2 : Int) = ((2 : Nat) : Int) from rfl, fmod_nat]
      rw [e0]
      (repeat (walk_at "w"))
      refine R_ite (fun hz => ?_) (fun hz => ?_)
      · have hodd : i % 2 = 1 := by
          have : ((i % 2 : Nat) : Int) ≠ 0 := by simpa using hz
          (first | lia | omega)
        · (repeat (walk_at "w"))
          rename St _ _ _ _ _ => S10
          refine (int2ap_ok w _ _ _ _ (by (first | lia | omega))).use B S10 (by (first | lia | omega)) (by (first | lia | omega)) ?_
          rintro _ h11 t11 ρ11 S11 hle11 ⟨tz2, rfl⟩
          rw [show (64 + ((i : Nat) : Int)).natAbs = 64 + i from by (first | lia | omega)]
          (repeat (walk_at "w"))
          with_reducible refine R_gmDecode ?_
          (repeat (walk_at "w"))
          refine R_decode (ls := apT (64 + i)) rfl hap2.1 (apL_len _) (fun c hc => by have := hap2.2.1 c hc; (first | lia | omega)) ?_
          intro _ _
          (repeat (walk_at "w"))
          have S12 := S11.perm (mu' := [(Hd, lstO hvs n), (I, o6)]) (.swap _ _ _)
          have hPl : (bookT lab many far i).length ≤ 900 := by unfold bookT; rw [List.length_map, List.length_range]; (first | lia | omega)
          refine (addh_ok w _ Hd (apT (32 + wordK lab many far i)) (apT (64 + i)) _ _ hvs n (bookT lab many far i) _ _ (hH9.le hle11) (hP.mono fun v p q => q.le (hle8.trans hle11)) hok (ap_ok (by (first | lia | omega)) (by (first | lia | omega))) hPl).use (rest := [(I, o6)]) B S12 (by (first | lia | omega)) (by (first | lia | omega)) ?_
          intro r13 h13 t13 ρ13 own13 ho13 S13 hle13 z166k8; refine cps fun X hX => ?_; obtain ⟨rfl, hvs3, n3, rfl, hP3⟩ := z166k8; refine hX ?_; clear hX X
          (repeat (walk_at "w"))
          have S14 := S13.perm (mu' := [(I, o6), (Hd, lstO hvs3 n3)]) (.swap _ _ _)
          refine hQQ _ _ ?_; refine Nxt.intro S14 ⟨_, rfl, (hle8.trans hle11).trans hle13, hvs3, n3, _, _, rfl, rfl, ?_⟩
          have eb : bookT lab many far (i + 1) = bookT lab many far i ++ [((apT (32 + wordK lab many far i)), apT (64 + i))] := by
            unfold bookT; rw [List.range_succ, List.map_append]
            show _ ++ [bookK lab many far i] = _
            unfold bookK
            rw [if_pos hodd]
          rw [eb]; exact hP3
      · have heven : ¬ i % 2 = 1 := by
          have : ((i % 2 : Nat) : Int) = 0 := by simpa using hz
          (first | lia | omega)
        · (repeat (walk_at "w"))
          with_reducible refine R_lower (low_st hok) (short hok.low.len) ?_
          intro _ _
          (repeat (walk_at "w"))
          rename St _ _ _ _ _ => S10
          refine (int2ap_ok w _ _ _ _ (by (first | lia | omega))).use B S10 (by (first | lia | omega)) (by (first | lia | omega)) ?_
          rintro _ h11 t11 ρ11 S11 hle11 ⟨tz2, rfl⟩
          rw [show (64 + ((i : Nat) : Int)).natAbs = 64 + i from by (first | lia | omega)]
          (repeat (walk_at "w"))
          with_reducible refine R_gmDecode ?_
          (repeat (walk_at "w"))
          refine R_decode (ls := apT (64 + i)) rfl hap2.1 (apL_len _) (fun c hc => by have := hap2.2.1 c hc; (first | lia | omega)) ?_
          intro _ _
          (repeat (walk_at "w"))
          have S12 := S11.perm (mu' := [(Hd, lstO hvs n), (I, o6)]) (.swap _ _ _)
          have hPl : (bookT lab many far i).length ≤ 900 := by unfold bookT; rw [List.length_map, List.length_range]; (first | lia | omega)
          refine (addh_ok w _ Hd (lowL (apT (32 + wordK lab many far i))) (apT (64 + i)) _ _ hvs n (bookT lab many far i) _ _ (hH9.le hle11) (hP.mono fun v p q => q.le (hle8.trans hle11)) hok.low (ap_ok (by (first | lia | omega)) (by (first | lia | omega))) hPl).use (rest := [(I, o6)]) B S12 (by (first | lia | omega)) (by (first | lia | omega)) ?_
          intro r13 h13 t13 ρ13 own13 ho13 S13 hle13 z196k8; refine cps fun X hX => ?_; obtain ⟨rfl, hvs3, n3, rfl, hP3⟩ := z196k8; refine hX ?_; clear hX X
          (repeat (walk_at "w"))
          have S14 := S13.perm (mu' := [(I, o6), (Hd, lstO hvs3 n3)]) (.swap _ _ _)
          refine hQQ _ _ ?_; refine Nxt.intro S14 ⟨_, rfl, (hle8.trans hle11).trans hle13, hvs3, n3, _, _, rfl, rfl, ?_⟩
          have eb : bookT lab many far (i + 1) = bookT lab many far i ++ [((lowL (apT (32 + wordK lab many far i))), apT (64 + i))] := by
            unfold bookT; rw [List.range_succ, List.map_append]
            show _ ++ [bookK lab many far i] = _
            unfold bookK
            rw [if_neg heven]
          rw [eb]; exact hP3
    case done =>
      intro l mu ρ₁ h6 t6 hle6 z207k6 S6; refine cps fun X hX => ?_; obtain ⟨hvs, n, m5, m6, rfl, rfl, hP⟩ := z207k6; refine hX ?_; clear hX X
      have hle0 : ρ.le ρ₁ := hle2.trans (hle4.trans hle6)
      (repeat (walk_at "w"))
      rename St _ _ _ _ _ => S7
      with_reducible refine R_iter_lst (P := RowIs ρ) (xs := near) B.hh S7 (hn.le hle0) ?_
      intro I8 o8 h8 WS8 T8 hw8 S8 hfz8
      with_reducible refine' R_forLoop (fun i l mu ρ' => ∃ tz m8 m9 m10, l = [some (.ref la), some (.ref na), some (.ref fa), some (.int (many : Nat) tm), some r, m5, m6, some (.int ((twS lab many far (near.take i) : Nat) : Int) tz), m8, m9, m10] ∧ mu = [(Hd, lstO hvs n)]) T8 hw8 S8 hfz8 ?hJ2 ?turn2 ?done2 ?ht2
      case hJ2 => exact ⟨_, _, _, _, rfl, rfl⟩
      case ht2 => intro _; exact rfl
      case turn2 =>
        intro i v l mu ρ₂ h9 t9 o9 E' QQ hQQ hi z217k12 hle9 S9 z217k15; refine cps fun X hX => ?_; obtain ⟨row, hrow, ra, rfl, hra⟩ := z217k12; obtain ⟨tz, m8, m9, m10, rfl, rfl⟩ := z217k15; refine hX ?_; clear hX X
        have hle2' : ρ.le ρ₂ := hle0.trans hle9
        refine cps fun X hX => ?_; obtain ⟨x0, rest, hrw, hx0⟩ := H.hnear row (List.mem_of_getElem? hrow); refine hX ?_; clear hX X
        have htk : twS lab many far (near.take (i + 1)) = twS lab many far (near.take i) + (if many ≤ x0 then (toldT lab many far (lab x0)).length - 1 else 0) := by
          unfold twS
          rw [List.take_add_one, hrow, List.map_append, List.sum_append]
          simp [hrw]
          try rfl
        (repeat (walk_at "w"))
        rename St _ _ _ _ _ => S10
        with_reducible refine R_item (P := IsN) (xs := row) S10 (hra.le hle2') (by decide) (by decide) (x := x0) (by rw [hrw]; simp) ?_ (by (first | exact rfl | with_unfolding_all rfl | (intro _; exact rfl) | (intro _; with_unfolding_all rfl))) (by (first | exact rfl | with_unfolding_all rfl | (intro _; exact rfl) | (intro _; with_unfolding_all rfl)))
        rintro _ ⟨tx, rfl⟩
        (repeat (walk_at "w"))
        refine R_ite (fun hz => ?_) (fun hz => ?_)
        · have hge : many ≤ x0 := by have := of_decide_eq_true hz; (first | lia | omega)
          have hl32 := H.hlt x0 hx0
          (repeat (walk_at "w"))
          rename St _ _ _ _ _ => S11
          with_reducible refine R_item (P := IsN) (xs := row) S11 (hra.le hle2') (by decide) (by decide) (x := x0) (by rw [hrw]; simp) ?_ (by (first | exact rfl | with_unfolding_all rfl | (intro _; exact rfl) | (intro _; with_unfolding_all rfl))) (by (first | exact rfl | with_unfolding_all rfl | (intro _; exact rfl) | (intro _; with_unfolding_all rfl)))
          rintro _ ⟨tx2, rfl⟩
          (repeat (walk_at "w"))
          with_reducible refine R_item (P := IsI) (xs := label) S11 (hl.le hle2') (by (first | lia | omega)) (by (first | lia | omega)) (x := ((lab x0 : Nat) : Int)) (by rw [Int.toNat_natCast]; exact hlab _ (by (first | lia | omega))) ?_ (by (first | exact rfl | with_unfolding_all rfl | (intro _; exact rfl) | (intro _; with_unfolding_all rfl))) (by (first | exact rfl | with_unfolding_all rfl | (intro _; exact rfl) | (intro _; with_unfolding_all rfl)))
          rintro _ ⟨ta, rfl⟩
          (repeat (walk_at "w"))
          rename St _ _ _ _ _ => S12
          have hH12 : HdrIs ρ₂ r Hd := hH.le (hle4.trans (hle6.trans hle9))
          refine cps fun X hX => ?_; obtain ⟨x, dx, hs, tkk, n0, hrx, hx, hdx⟩ := id hH12; refine hX ?_; clear hX X
          subst hrx
          ((with_reducible refine' R_method ?Xx366 (S12.get hx) (S12.get hdx) ?hgx366 ?hfx366 ?htx366 ?hlx366 ?_); (case Xx366 => exact (Gl.X (Bx.gl' (by with_reducible assumption) (by with_reducible assumption)))); (case hgx366 => k_is); (case hfx366 => k_is); (case htx366 => k_is); (case hlx366 => first | with_reducible assumption | exact rfl))
          (repeat (walk_at "w"))
          refine R_fdiv (a := lab x0) (b := 16) (by decide) (by (first | lia | omega)) (by decide) ?_
          intro _ _
          (repeat (walk_at "w"))
          with_reducible refine R_sitem (itemCD ⟨lab x0 / 16, by (first | lia | omega)⟩) (by rw [lenCD]; show lab x0 / 16 < 2; (first | lia | omega)) (by rw [lenCD]; (first | lia | omega)) ?_ (by (first | exact rfl | with_unfolding_all rfl | (intro _; exact rfl) | (intro _; with_unfolding_all rfl))) (by (first | exact rfl | with_unfolding_all rfl | (intro _; exact rfl) | (intro _; with_unfolding_all rfl)))
          intro _ _
          (repeat (walk_at "w"))
          refine R_mod (b := ((16 : Nat) : Int)) (by decide) ?_
          intro _ _
          rw [fmod_nat]
          (repeat (walk_at "w"))
          with_reducible refine R_sitem (itemap ⟨lab x0 % 16, by (first | lia | omega)⟩) (by rw [lenap]; show lab x0 % 16 < 16; (first | lia | omega)) (by rw [lenap]; (first | lia | omega)) ?_ (by (first | exact rfl | with_unfolding_all rfl | (intro _; exact rfl) | (intro _; with_unfolding_all rfl))) (by (first | exact rfl | with_unfolding_all rfl | (intro _; exact rfl) | (intro _; with_unfolding_all rfl)))
          intro _ _
          (repeat (walk_at "w"))
          with_reducible refine R_sadd (by rw [stL_cps, stL_cps]; simp) ?_
          intro z uz tz2 hz2
          obtain rfl : z = stL [67 + lab x0 / 16, 97 + lab x0 % 16] := str_of (by rw [hz2, stL_cps, stL_cps]; rfl)
          (repeat (walk_at "w"))
          rename St _ _ _ _ _ => S13
          have S14 := S13.perm (mu' := [(Hd, lstO hvs n), (I8, o9)]) (.swap _ _ _)
          have hPl : (bookT lab many far far.length).length ≤ 900 := by unfold bookT; rw [List.length_map, List.length_range]; have := H.h32; (first | lia | omega)
          have hbook : ∀ p ∈ bookT lab many far far.length, OkT p.1 ∧ ∃ k, k < far.length ∧ p.2 = apT (64 + k) := by
            intro p hp
            refine cps fun X hX => ?_; obtain ⟨k, hk, rfl⟩ := List.mem_map.mp hp; refine hX ?_; clear hX X
            have hwk := H.word k
            have hok := ap_ok (n := 32 + wordK lab many far k) (by (first | lia | omega)) (by (first | lia | omega))
            refine ⟨?_, k, List.mem_range.mp hk, rfl⟩
            unfold bookK; split
            · exact hok
            · exact hok.low
          have hnmok : OkT [67 + lab x0 / 16, 97 + lab x0 % 16] := ⟨fun c hc => by
            rcases List.mem_cons.mp hc with e | hc
            · (first | lia | omega)
            · have := List.mem_singleton.mp hc; (first | lia | omega), by simp⟩
          refine (getall_ok w _ Hd [67 + lab x0 / 16, 97 + lab x0 % 16] _ hvs n (bookT lab many far far.length) _ _ hH12 (hP.mono fun v p q => q.le hle9) hnmok (fun p hp => (hbook p hp).1) (by (first | lia | omega))).use (rest := [(I8, o9)]) B S14 (by (first | lia | omega)) (by (first | lia | omega)) ?_
          intro _ h15 t15 ρ15 own15 ho15 S15 hle15 z281k8; refine cps fun X hX => ?_; obtain ⟨rfl, d15, rfl, hd15⟩ := z281k8; refine hX ?_; clear hX X
          have S16 := S15.perm (mu' := [(I8, o9), (Hd, lstO hvs n)]) (.swap _ _ _)
          (repeat (walk_at "w"))
          with_reducible refine R_iter_lst B.hh S16 hd15 ?_
          intro I17 o17 h17 WS17 T17 hw17 S17 hfz17
          ((with_reducible refine' R_fA (j := 10) B ?hjx378 ?hkx378 (P := (fun _ v l => IsS v (stL l))) (fun _ => true) (fun l : Txs => readL l - 64) (fun _ => IsI) ?hmx378 T17 ?hPx378 hw17 S17 hfz17 ?_ ?hcellx378 ?hkindx378 ?hxx378 ?_ ?_); (case hjx378 => exact rfl); (case hkx378 => exact rfl); (case hmx378 => first | exact fun _ _ _ _ _ q => q | exact fun _ _ _ _ hle q => q.le hle); (case hPx378 => first | exact fun _ _ ⟨z, hz, q⟩ => ⟨z, hz, fun _ _ => q⟩ | exact fun _ _ ⟨z, hz, q⟩ => ⟨z, hz, fun _ hle => q.le hle⟩); (case hcellx378 => decide); (case hkindx378 => exact rfl); (case hxx378 => exact rfl))
          · rw [List.length_map]
            exact Nat.le_trans (List.length_filter_le _ _) (by (first | lia | omega))
          · intro i' v z C ρ₃ d e f' h t E' hz ⟨u, hu'⟩ hle18 hcv S18
            subst hu'
            refine cps fun X hX => ?_; obtain ⟨p, hp, rfl⟩ := List.mem_map.mp (List.mem_of_getElem? hz); refine hX ?_; clear hX X
            refine cps fun X hX => ?_; obtain ⟨_, k, hk, hpk⟩ := hbook p (List.mem_filter.mp hp).1; refine hX ?_; clear hX X
            have h32 := H.h32
            have hap := ap_chars ⟨64 + k, by (first | lia | omega)⟩ (by show 1 ≤ 64 + k; (first | lia | omega))
            dsimp only at hap
            rw [← hpk] at hap
            refine R_noIf ⟨rfl, ?_⟩
            rw [if_pos rfl]
            (repeat (walk_at "w"))
            refine (read_ok w (stL p.2) _ _ _ (by rw [stL_cps]; exact hap.2.1) (by
              have : p.2.length ≤ 2 := by rw [hpk]; unfold apT; rw [List.length_map]; exact apL_len _
              show p.2.toArray.size ≤ 8
              rw [List.size_toArray]; (first | lia | omega))).use B S18 (by (first | lia | omega)) (by (first | lia | omega)) ?_
            rintro _ h19 t19 ρ19 S19 hle19 ⟨tr, rfl⟩
            rw [stL_cps]
            (repeat (walk_at "w"))
            exact CNx.intro S19 hle19 ⟨_, rfl⟩
          intro d20 ρ20 h20 t20 hle20 hd20 S20
          rw [filt_true, List.map_map] at hd20
          have hpure := told_pure (lab := lab) (many := many) (a := lab x0) (n := far.length) (far := far) H.word hl32 H.h32
          rw [show ((bookT lab many far far.length).filter (sameT [67 + lab x0 / 16, 97 + lab x0 % 16])).map ((fun l : Txs => readL l - 64) ∘ fun p => p.2) = (toldT lab many far (lab x0)).map fun k : Nat => (k : Int) from hpure] at hd20
          have htold := H.told row (List.mem_of_getElem? hrow) x0 rest hrw hge
          have hup1 := H.hup (many + (many + (x0 - many))) (by (first | lia | omega)) (by (first | lia | omega))
          have hup2 := H.hup (2 * many + x0) (by (first | lia | omega)) (by (first | lia | omega))
          rw [show many + (many + (x0 - many)) = many + x0 from by (first | lia | omega)] at hup1
          have hn32 := H.n32
          obtain ⟨p, hpe⟩ : ∃ p, lab (many + x0) - near.length = p := ⟨_, rfl⟩
          obtain ⟨q, hqe⟩ : ∃ q, lab (2 * many + x0) - near.length = q := ⟨_, rfl⟩
          rw [hpe, hqe] at htold
          (repeat (walk_at "w"))
          rename St _ _ _ _ _ => S21
          with_reducible refine R_Set2 B S21 ?hc ?hp ?_
          case hc => exact kds_code w.params
          case hp => rfl
          intro a22 h22 S22
          (repeat (walk_at "w"))
          with_reducible refine R_item (P := IsN) (xs := row) S22 (hra.le (hle2'.trans (hle15.trans hle20))) (by decide) (by decide) (x := x0) (by rw [hrw]; simp) ?_ (by (first | exact rfl | with_unfolding_all rfl | (intro _; exact rfl) | (intro _; with_unfolding_all rfl))) (by (first | exact rfl | with_unfolding_all rfl | (intro _; exact rfl) | (intro _; with_unfolding_all rfl)))
          rintro _ ⟨tx3, rfl⟩
          (repeat (walk_at "w"))
          rw [show ((many : Nat) : Int) + ((x0 : Nat) : Int) = ((many + x0 : Nat) : Int) from by (first | lia | omega)]
          with_reducible refine R_item (P := IsI) (xs := label) S22 (hl.le (hle2'.trans (hle15.trans hle20))) (by (first | lia | omega)) (by (first | lia | omega)) (x := ((lab (many + x0) : Nat) : Int)) (by rw [Int.toNat_natCast]; exact hlab _ (by (first | lia | omega))) ?_ (by (first | exact rfl | with_unfolding_all rfl | (intro _; exact rfl) | (intro _; with_unfolding_all rfl))) (by (first | exact rfl | with_unfolding_all rfl | (intro _; exact rfl) | (intro _; with_unfolding_all rfl)))
          rintro _ ⟨ta3, rfl⟩
          (repeat (walk_at "w"))
          with_reducible refine R_len_list S22 (hn.le (hle2'.trans (hle15.trans hle20))) (by (first | lia | omega)) ?_
          intro _ _
          (repeat (walk_at "w"))
          with_reducible refine R_item (P := IsN) (xs := row) S22 (hra.le (hle2'.trans (hle15.trans hle20))) (by decide) (by decide) (x := x0) (by rw [hrw]; simp) ?_ (by (first | exact rfl | with_unfolding_all rfl | (intro _; exact rfl) | (intro _; with_unfolding_all rfl))) (by (first | exact rfl | with_unfolding_all rfl | (intro _; exact rfl) | (intro _; with_unfolding_all rfl)))
          rintro _ ⟨tx4, rfl⟩
          (repeat (walk_at "w"))
          rw [show (2 : Int) * ((many : Nat) : Int) + ((x0 : Nat) : Int) = ((2 * many + x0 : Nat) : Int) from by (first | lia | omega)]
          with_reducible refine R_item (P := IsI) (xs := label) S22 (hl.le (hle2'.trans (hle15.trans hle20))) (by (first | lia | omega)) (by (first | lia | omega)) (x := ((lab (2 * many + x0) : Nat) : Int)) (by rw [Int.toNat_natCast]; exact hlab _ (by (first | lia | omega))) ?_ (by (first | exact rfl | with_unfolding_all rfl | (intro _; exact rfl) | (intro _; with_unfolding_all rfl))) (by (first | exact rfl | with_unfolding_all rfl | (intro _; exact rfl) | (intro _; with_unfolding_all rfl)))
          rintro _ ⟨ta4, rfl⟩
          (repeat (walk_at "w"))
          with_reducible refine R_len_list S22 (hn.le (hle2'.trans (hle15.trans hle20))) (by (first | lia | omega)) ?_
          intro _ _
          (repeat (walk_at "w"))
          rw [show ((lab (many + x0) : Nat) : Int) - ((near.length : Nat) : Int) = ((p : Nat) : Int) from by (first | lia | omega), show ((lab (2 * many + x0) : Nat) : Int) - ((near.length : Nat) : Int) = ((q : Nat) : Int) from by (first | lia | omega)]
          with_reducible refine R_fill2 S22 (by (first | lia | omega)) (by (first | lia | omega)) ?_
          intro h23 t23 es ep tb zs S23 ho23 ok23 h10 hz23 hA23 hp23
          (repeat (walk_at "w"))
          with_reducible refine R_sortedSet B.hh S23 ok23 ho23 hz23 h10 hA23 ?_
          intro d24 h24 t24 ρ24 ys24 S24 hle24 hd24 hp24 hs24
          have hys : ys24 = (toldT lab many far (lab x0)).map fun k : Nat => (k : Int) := by
            rw [htold]
            refine sorted_uniq (hp24.trans (hp23.trans ?_)) hs24 ?_
            · unfold srtN
              by_cases e : p = q
              · rw [if_pos e, if_pos e]; exact .refl _
              · rw [if_neg e, if_neg e]; split
                · exact .refl _
                · exact .swap _ _ _
            · unfold srtN
              by_cases e : p = q
              · rw [if_pos e]; simp
              · rw [if_neg e]; split <;> simp <;> (first | lia | omega)
          refine cps fun X hX => ?_; obtain ⟨vs20, n20, g20, r20⟩ := hd20; refine hX ?_; clear hX X
          refine cps fun X hX => ?_; obtain ⟨vs24, n24, g24, r24⟩ := hd24; refine hX ?_; clear hX X
          (repeat (walk_at "w"))
          with_reducible refine R_neD (d := .list (((toldT lab many far (lab x0)).map fun k : Nat => (k : Int)).map dI)) (e := .list (ys24.map dI)) ?_ ?_ ?_ ?_ (by (first | lia | omega)) ?_
          · exact RD.lst (S24.get (hle24.at g20)) (RDA.of r20 fun v x _ p => RD.int p)
          · exact RD.lst (S24.get g24) (RDA.of r24 fun v x _ p => RD.int p)
          · have := ok_ints (fun n : Int => n) 7 ((toldT lab many far (lab x0)).map fun k : Nat => (k : Int)); simp only [kqdOk]; exact this
          · have := ok_ints (fun n : Int => n) 7 ys24; simp only [kqdOk]; exact this
          intro b hb
          have hbf : b = false := by
            cases b with
            | false => rfl
            | true => exact absurd (by rw [hys]) (hb.mp rfl)
          subst hbf
          (repeat (walk_at "w"))
          refine R_no (by simp) ?_
          (repeat (walk_at "w"))
          have hd25 : Lst IsI ρ24 d20 ((toldT lab many far (lab x0)).map fun k : Nat => (k : Int)) := ⟨vs20, n20, hle24.at g20, r20⟩
          with_reducible refine R_len_list S24 hd25 (by rw [List.length_map, htold]; unfold srtN; (repeat' split) <;> simp) ?_
          intro _ _
          (repeat (walk_at "w"))
          rename St _ _ _ _ _ => S25
          have h1 : 1 ≤ (toldT lab many far (lab x0)).length := by
            rw [htold]; unfold srtN; (repeat' split) <;> simp
          rw [if_pos hge] at htk
          rw [show ((twS lab many far (near.take i) : Nat) : Int) + ((((toldT lab many far (lab x0)).map fun k : Nat => (k : Int)).length : Nat) : Int) - 1 = ((twS lab many far (near.take (i + 1)) : Nat) : Int) from by rw [htk, List.length_map]; (first | lia | omega)] at S25
          refine hQQ _ _ ?_; exact Nxt.intro S25 ⟨_, rfl, hle15.trans (hle20.trans hle24), _, _, _, _, rfl, rfl⟩
        · have hge : ¬ many ≤ x0 := fun q => hz (decide_eq_true (by (first | lia | omega)))
          (repeat (walk_at "w"))
          have htk2 : twS lab many far (near.take (i + 1)) = twS lab many far (near.take i) := by
            rw [htk, if_neg hge]; rfl
          rw [← htk2] at S10
          refine hQQ _ _ ?_; exact Nxt.intro S10 ⟨_, rfl, Rl.le.refl _, tz, _, _, _, rfl, rfl⟩
      case done2 =>
        intro l mu ρ₂ h9 t9 hle9 z400k6 S9; refine cps fun X hX => ?_; obtain ⟨tz, m8, m9, m10, rfl, rfl⟩ := z400k6; refine hX ?_; clear hX X
        (repeat (walk_at "w"))
        refine hQ0 _ _ ?_; exact Fin.intro S9 ⟨tz, by rw [List.take_length]⟩
noncomputable def letsT (xs : List Nat) : List Nat := (List.range xs.length).map (letT (xs.map apT) xs)
noncomputable def GoodNums (xs : List Nat) : Prop := (xs.length = 3 ∨ xs.length = 4) ∧ ∀ x ∈ xs, 1 ≤ x ∧ x ≤ 40
noncomputable def kv (a : Nat) : Int × Int := if a < 16 then (16 * a, 1) else (a, 2)
noncomputable def ltP (a b : Nat) : Bool := decide ((kv a).1 < (kv b).1 ∨ ((kv a).1 = (kv b).1 ∧ (kv a).2 < (kv b).2))
theorem cmp_key : ∀ a b : _root_.Fin 41, 1 ≤ a.val → 1 ≤ b.val → cmpT (apT a.val) (apT b.val) = (if ltP b.val a.val then 1 else 0) - (if ltP a.val b.val then 1 else 0) := by decide +kernel
theorem key_kv (xs : List Nat) (i j : Nat) : ltK (keyN xs) i j = ltP (xs.getD i 0) (xs.getD j 0) := rfl
noncomputable def rk (L : Nat → Nat → Bool) (n i : Nat) : Nat := ((List.range n).filter fun j => L j i).length
structure Weak (L : Nat → Nat → Bool) : Prop where
  irr : ∀ i, L i i = false
  tr : ∀ i j k, L i j = true → L j k = true → L i k = true
  ng : ∀ i j k, L i j = true → L k j = false → L i k = true
theorem weakK (key : Nat → Int × Int) : Weak (ltK key) := by
  refine ⟨fun i => ?_, fun i j k h1 h2 => ?_, fun i j k h1 h2 => ?_⟩
  · unfold ltK; simp
  · unfold ltK at *
    rw [decide_eq_true_eq] at *
    rcases h1 with a | ⟨a, a'⟩ <;> rcases h2 with b | ⟨b, b'⟩
    · exact .inl (Int.lt_trans a b)
    · exact .inl (b ▸ a)
    · exact .inl (a ▸ b)
    · exact .inr ⟨a.trans b, Int.lt_trans a' b'⟩
  · unfold ltK at *
    rw [decide_eq_true_eq] at *
    rw [decide_eq_false_iff_not] at h2
    rcases Int.lt_trichotomy (key j).1 (key k).1 with c | c | c
    · exact .inl (h1.elim (fun a => Int.lt_trans a c) fun a => a.1 ▸ c)
    · exact h1.elim (fun a => .inl (c ▸ a)) fun a => .inr ⟨a.1.trans c, Int.lt_of_lt_of_le a.2 (Int.not_lt.mp fun q => h2 (.inr ⟨c.symm, q⟩))⟩
    · exact absurd (.inl c) h2
theorem rk_lt {L : Nat → Nat → Bool} (w : Weak L) {n i j : Nat} (hi : i < n) (_hj : j < n) : L i j = decide (rk L n i < rk L n j) := by
  cases h : L i j with
  | true =>
    symm; rw [decide_eq_true_eq]
    unfold rk
    have := nodup_len (l₁ := i :: (List.range n).filter fun x => L x i) (l₂ := (List.range n).filter fun x => L x j)
      (List.nodup_cons.mpr ⟨fun hm => (by have := (List.mem_filter.mp hm).2; rw [w.irr] at this; cases this), List.nodup_range.filter _⟩) fun x hx => by
        rcases List.mem_cons.mp hx with rfl | hx
        · exact List.mem_filter.mpr ⟨List.mem_range.mpr hi, h⟩
        · have := List.mem_filter.mp hx
          exact List.mem_filter.mpr ⟨this.1, w.tr _ _ _ this.2 h⟩
    simp only [List.length_cons] at this; (first | lia | omega)
  | false =>
    symm; rw [decide_eq_false_iff_not]
    unfold rk
    have := nodup_len (l₁ := (List.range n).filter fun x => L x j) (l₂ := (List.range n).filter fun x => L x i) (List.nodup_range.filter _) fun x hx => by
      have := List.mem_filter.mp hx
      exact List.mem_filter.mpr ⟨this.1, w.ng _ _ _ this.2 h⟩
    (first | lia | omega)
theorem rk_n {L : Nat → Nat → Bool} (w : Weak L) {n i : Nat} (hi : i < n) : rk L n i < n := by
  unfold rk
  have := nodup_len (l₁ := i :: (List.range n).filter fun x => L x i) (l₂ := List.range n)
    (List.nodup_cons.mpr ⟨fun hm => (by have := (List.mem_filter.mp hm).2; rw [w.irr] at this; cases this), List.nodup_range.filter _⟩) fun x hx => by
      rcases List.mem_cons.mp hx with rfl | hx
      · exact List.mem_range.mpr hi
      · exact (List.mem_filter.mp hx).1
  simp only [List.length_cons, List.length_range] at this; (first | lia | omega)
theorem runT_congr {n : Nat} {lt lt' : Nat → Nat → Bool} (h : ∀ i j, i < n → j < n → lt i j = lt' i j) : ∀ {t : KasT (Array Nat)}, okT n t = true → runT lt t = runT lt' t
  | .ret p, _ => rfl
  | .ask i j f, hk => by
    simp only [okT, Bool.and_eq_true, decide_eq_true_eq] at hk
    show runT lt (f (lt i j)) = runT lt' (f (lt' i j))
    rw [← h i j hk.1.1.1 hk.1.1.2]
    cases lt i j with
    | true => exact runT_congr h hk.1.2
    | false => exact runT_congr h hk.2
noncomputable def cntR (r : Nat → Nat) (n k : Nat) : Nat := ((List.range n).filter fun j => decide (r j < r k)).length + ((List.range k).filter fun j => decide (r j = r k)).length
theorem cntR_congr {r r' : Nat → Nat} {n k : Nat} (h : ∀ i, i < n → r i = r' i) (hk : k < n) : cntR r n k = cntR r' n k := by
  have e : ∀ l : List Nat, (∀ j ∈ l, j < n) → (l.filter fun j => decide (r j < r k)).length = (l.filter fun j => decide (r' j < r' k)).length ∧ (l.filter fun j => decide (r j = r k)).length = (l.filter fun j => decide (r' j = r' k)).length := fun l hl => by
    constructor <;> (congr 1; refine List.filter_congr fun j hj => ?_; rw [Bool.eq_iff_iff, decide_eq_true_eq, decide_eq_true_eq, h j (hl j hj), h k hk])
  unfold cntR
  rw [(e (List.range n) fun j hj => List.mem_range.mp hj).1, (e (List.range k) fun j hj => by have := List.mem_range.mp hj; (first | lia | omega)).2]
noncomputable def sortOk (n : Nat) (l : List Nat) : Bool := (List.range n).all fun k => (runT (fun i j => decide (l.getD i 0 < l.getD j 0)) (kas_sort n)).toList.idxOf k == cntR (fun i => l.getD i 0) n k
theorem sort3 : ∀ a b c : _root_.Fin 3, sortOk 3 [a.val, b.val, c.val] = true := by decide +kernel
theorem sort4 : ∀ a b c d : _root_.Fin 4, sortOk 4 [a.val, b.val, c.val, d.val] = true := by decide +kernel
theorem sort_n {n : Nat} (hn : n = 3 ∨ n = 4) {r : Nat → Nat} (hr : ∀ i, i < n → r i < n) : ∀ k, k < n → (runT (fun i j => decide (r i < r j)) (kas_sort n)).toList.idxOf k = cntR r n k := by
  intro k hk
  rcases hn with rfl | rfl
  · have h := List.all_eq_true.mp (sort3 ⟨r 0, hr 0 (by decide)⟩ ⟨r 1, hr 1 (by decide)⟩ ⟨r 2, hr 2 (by decide)⟩) k (List.mem_range.mpr hk)
    have e : ∀ i, i < 3 → ([r 0, r 1, r 2] : List Nat).getD i 0 = r i := fun i hi => by
      have : i = 0 ∨ i = 1 ∨ i = 2 := by (first | lia | omega)
      rcases this with rfl | rfl | rfl <;> rfl
    have h := beq_iff_eq.mp h
    dsimp only at h
    rw [runT_congr (n := 3) (lt' := fun i j => decide (r i < r j)) (fun i j hi hj => by rw [e i hi, e j hj]) ok3] at h
    rw [h]
    exact cntR_congr e hk
  · have h := List.all_eq_true.mp (sort4 ⟨r 0, hr 0 (by decide)⟩ ⟨r 1, hr 1 (by decide)⟩ ⟨r 2, hr 2 (by decide)⟩ ⟨r 3, hr 3 (by decide)⟩) k (List.mem_range.mpr hk)
    have e : ∀ i, i < 4 → ([r 0, r 1, r 2, r 3] : List Nat).getD i 0 = r i := fun i hi => by
      have : i = 0 ∨ i = 1 ∨ i = 2 ∨ i = 3 := by (first | lia | omega)
      rcases this with rfl | rfl | rfl | rfl <;> rfl
    have h := beq_iff_eq.mp h
    dsimp only at h
    rw [runT_congr (n := 4) (lt' := fun i j => decide (r i < r j)) (fun i j hi hj => by rw [e i hi, e j hj]) ok4] at h
    rw [h]
    exact cntR_congr e hk
theorem map_index {α : Type} (d : α) (l : List α) : (List.range l.length).map (fun i => l.getD i d) = l := by
  apply List.ext_getElem?
  intro i
  rw [List.getElem?_map]
  by_cases h : i < l.length
  · rw [List.getElem?_range h, List.getElem?_eq_getElem h]
    simp [List.getD_eq_getElem?_getD, h]
  · rw [List.getElem?_eq_none (by simp; (first | lia | omega)), List.getElem?_eq_none (by (first | lia | omega))]; rfl
theorem place_idx {xs : List Nat} (h : GoodNums xs) {k : Nat} (hk : k < xs.length) : placeT (xs.map apT) k = (orderT xs).idxOf k := by
  have w := weakK (keyN xs)
  have hok : okT xs.length (kas_sort xs.length) = true := by
    rcases h.1 with e | e <;> rw [e]
    · exact ok3
    · exact ok4
  unfold orderT
  rw [runT_congr (n := xs.length) (lt' := fun i j => decide (rk (ltK (keyN xs)) xs.length i < rk (ltK (keyN xs)) xs.length j)) (fun i j hi hj => rk_lt w hi hj) hok,
    sort_n h.1 (fun i hi => rk_n w hi) k hk]
  have hv : ∀ j, j < xs.length → 1 ≤ xs.getD j 0 ∧ xs.getD j 0 < 41 := fun j hj => by
    have : xs.getD j 0 ∈ xs := by rw [List.getD_eq_getElem?_getD, List.getElem?_eq_getElem hj]; exact List.getElem_mem hj
    have := h.2 _ this; (first | lia | omega)
  have hw : ∀ j, j < xs.length → (xs.map apT).getD j [] = apT (xs.getD j 0) := fun j hj => by
    rw [List.getD_eq_getElem?_getD, List.getD_eq_getElem?_getD, List.getElem?_map, List.getElem?_eq_getElem hj]; rfl
  have ho : ordersT (xs.map apT) k = (List.range xs.length).map fun j => cmpT (apT (xs.getD j 0)) (apT (xs.getD k 0)) := by
    unfold ordersT
    rw [hw k hk]
    have ex : xs.map apT = (List.range xs.length).map fun j => apT (xs.getD j 0) := by
      have := congrArg (List.map apT) (map_index 0 xs)
      rw [← this, List.map_map]; rfl
    generalize apT (xs.getD k 0) = z
    rw [ex, List.map_map]
    rfl
  have hc : ∀ j, j < xs.length → cmpT (apT (xs.getD j 0)) (apT (xs.getD k 0)) = (if rk (ltK (keyN xs)) xs.length k < rk (ltK (keyN xs)) xs.length j then 1 else 0) - (if rk (ltK (keyN xs)) xs.length j < rk (ltK (keyN xs)) xs.length k then 1 else 0) := fun j hj => by
    have := cmp_key ⟨xs.getD j 0, (hv j hj).2⟩ ⟨xs.getD k 0, (hv k hk).2⟩ (hv j hj).1 (hv k hk).1
    dsimp only at this
    rw [this, ← key_kv, ← key_kv, rk_lt w hk hj, rk_lt w hj hk]
    simp only [decide_eq_true_eq]
  unfold placeT cntR
  rw [ho, ← List.map_take, List.take_range, Nat.min_eq_left (by (first | lia | omega))]
  congr 1
  · rw [List.count_eq_length_filter, List.filter_map, List.length_map]
    congr 1
    refine List.filter_congr fun j hj => ?_
    have := hc j (List.mem_range.mp hj)
    show (cmpT (apT (xs.getD j 0)) (apT (xs.getD k 0)) == -1) = _
    rw [this, Bool.eq_iff_iff, beq_iff_eq, decide_eq_true_eq]
    show _ ↔ rk (ltK (keyN xs)) xs.length j < rk (ltK (keyN xs)) xs.length k
    generalize rk (ltK (keyN xs)) xs.length k = u
    generalize rk (ltK (keyN xs)) xs.length j = v
    by_cases p : u < v <;> by_cases q : v < u <;> simp [p, q] <;> (first | lia | omega)
  · rw [List.count_eq_length_filter, List.filter_map, List.length_map]
    congr 1
    refine List.filter_congr fun j hj => ?_
    have := hc j (by have := List.mem_range.mp hj; (first | lia | omega))
    show (cmpT (apT (xs.getD j 0)) (apT (xs.getD k 0)) == 0) = _
    rw [this, Bool.eq_iff_iff, beq_iff_eq, decide_eq_true_eq]
    show _ ↔ rk (ltK (keyN xs)) xs.length j = rk (ltK (keyN xs)) xs.length k
    generalize rk (ltK (keyN xs)) xs.length k = u
    generalize rk (ltK (keyN xs)) xs.length j = v
    by_cases p : u < v <;> by_cases q : v < u <;> simp [p, q] <;> (first | lia | omega)
theorem p_due {xs : List Nat} (h : GoodNums xs) : pairsT (xs.map apT) xs xs.length = dueT xs := by
  unfold pairsT dueT
  refine List.map_congr_left fun k hk => ?_
  have := place_idx h (List.mem_range.mp hk)
  unfold letT
  rw [this]
  split <;> (congr 2 <;> (first | lia | omega))
theorem letT_ltr (ws : List Txs) (xs : List Nat) (k : Nat) : letT ws xs k = ltr (placeT ws k) (decide (xs.getD k 0 % 2 = 1)) := by
  unfold letT ltr
  by_cases q : xs.getD k 0 % 2 = 1
  · rw [if_pos q, if_pos (decide_eq_true q)]; (first | lia | omega)
  · rw [if_neg q, if_neg (by rw [decide_eq_true_eq]; exact q)]
theorem p_lets {xs : List Nat} (h : GoodNums xs) : ∀ c ∈ letsT xs, IsLet c := by
  intro c hc
  obtain ⟨k, hk, rfl⟩ := List.mem_map.mp hc
  have hk' := List.mem_range.mp hk
  have := place_lt (ws := xs.map apT) (k := k) (by simpa using hk')
  rw [List.length_map] at this
  have h4 := h.1
  unfold letT IsLet
  split <;> (first | lia | omega)
theorem place_inj {xs : List Nat} (h : GoodNums xs) {i j : Nat} (hi : i < xs.length) (hj : j < xs.length) (e : placeT (xs.map apT) i = placeT (xs.map apT) j) : i = j := by
  rw [place_idx h hi, place_idx h hj] at e
  have hp := order_perm h.1
  have mi : i ∈ orderT xs := hp.mem_iff.mpr (List.mem_range.mpr hi)
  have mj : j ∈ orderT xs := hp.mem_iff.mpr (List.mem_range.mpr hj)
  have li := List.idxOf_lt_length_iff.mpr mi
  have lj := List.idxOf_lt_length_iff.mpr mj
  have a := List.getElem_idxOf li
  have b := List.getElem_idxOf lj
  rw [← a, ← b]
  congr 1
theorem pos_ltr {p : Nat} (hp : p < 4) (b : Bool) : posOf (ltr p b) = p := by
  unfold posOf ltr
  cases b <;> simp <;> (first | lia | omega)
theorem p_mv {xs : List Nat} (h : GoodNums xs) : ∃ R f, MvOK (2 ^ xs.length) (movedN (letsT xs)) R f := by
  have hl : (letsT xs).length = xs.length := by unfold letsT; simp
  have pl : ∀ k, k < xs.length → placeT (xs.map apT) k < xs.length := fun k hk => by
    have := place_lt (ws := xs.map apT) (k := k) (by simpa using hk)
    rwa [List.length_map] at this
  have key : okCs (letsT xs) = true ∧ okPs (letsT xs).length ((letsT xs).map posOf) = true := by
    rw [hl]
    rcases h.1 with e | e
    · have el : letsT xs = [ltr (placeT (xs.map apT) 0) (decide (xs.getD 0 0 % 2 = 1)), ltr (placeT (xs.map apT) 1) (decide (xs.getD 1 0 % 2 = 1)), ltr (placeT (xs.map apT) 2) (decide (xs.getD 2 0 % 2 = 1))] := by
        unfold letsT; rw [e, ← letT_ltr, ← letT_ltr, ← letT_ltr]; rfl
      have l0 := pl 0 (by (first | lia | omega)); have l1 := pl 1 (by (first | lia | omega)); have l2 := pl 2 (by (first | lia | omega))
      have ok := ok_3 ⟨placeT (xs.map apT) 0, by (first | lia | omega)⟩ ⟨placeT (xs.map apT) 1, by (first | lia | omega)⟩ ⟨placeT (xs.map apT) 2, by (first | lia | omega)⟩ (by
        have d : ∀ i j, i < 3 → j < 3 → i ≠ j → placeT (xs.map apT) i ≠ placeT (xs.map apT) j := fun i j hi hj hne q => hne (place_inj h (by (first | lia | omega)) (by (first | lia | omega)) q)
        have d01 := d 0 1 (by decide) (by decide) (by decide)
        have d02 := d 0 2 (by decide) (by decide) (by decide)
        have d12 := d 1 2 (by decide) (by decide) (by decide)
        simp [List.nodup_cons, Fin.ext_iff, d01, d02, d12])
      dsimp only at ok
      rw [el]
      refine ⟨ok.2 _ _ _, ?_⟩
      rw [e]
      simp only [List.map_cons, List.map_nil]
      rw [pos_ltr (by (first | lia | omega)), pos_ltr (by (first | lia | omega)), pos_ltr (by (first | lia | omega))]
      exact ok.1
    · have el : letsT xs = [ltr (placeT (xs.map apT) 0) (decide (xs.getD 0 0 % 2 = 1)), ltr (placeT (xs.map apT) 1) (decide (xs.getD 1 0 % 2 = 1)), ltr (placeT (xs.map apT) 2) (decide (xs.getD 2 0 % 2 = 1)), ltr (placeT (xs.map apT) 3) (decide (xs.getD 3 0 % 2 = 1))] := by
        unfold letsT; rw [e, ← letT_ltr, ← letT_ltr, ← letT_ltr, ← letT_ltr]; rfl
      have l0 := pl 0 (by (first | lia | omega)); have l1 := pl 1 (by (first | lia | omega)); have l2 := pl 2 (by (first | lia | omega)); have l3 := pl 3 (by (first | lia | omega))
      have ok := ok_4 ⟨placeT (xs.map apT) 0, by (first | lia | omega)⟩ ⟨placeT (xs.map apT) 1, by (first | lia | omega)⟩ ⟨placeT (xs.map apT) 2, by (first | lia | omega)⟩ ⟨placeT (xs.map apT) 3, by (first | lia | omega)⟩ (by
        have d : ∀ i j, i < 4 → j < 4 → i ≠ j → placeT (xs.map apT) i ≠ placeT (xs.map apT) j := fun i j hi hj hne q => hne (place_inj h (by (first | lia | omega)) (by (first | lia | omega)) q)
        have d01 := d 0 1 (by decide) (by decide) (by decide)
        have d02 := d 0 2 (by decide) (by decide) (by decide)
        have d03 := d 0 3 (by decide) (by decide) (by decide)
        have d12 := d 1 2 (by decide) (by decide) (by decide)
        have d13 := d 1 3 (by decide) (by decide) (by decide)
        have d23 := d 2 3 (by decide) (by decide) (by decide)
        simp [List.nodup_cons, Fin.ext_iff, d01, d02, d03, d12, d13, d23])
      dsimp only at ok
      rw [el]
      refine ⟨ok.2 _ _ _ _, ?_⟩
      rw [e]
      simp only [List.map_cons, List.map_nil]
      rw [pos_ltr (by (first | lia | omega)), pos_ltr (by (first | lia | omega)), pos_ltr (by (first | lia | omega)), pos_ltr (by (first | lia | omega))]
      exact ok.1
  obtain ⟨R, f, k⟩ := mv_ok key.1 key.2
  rw [hl] at k
  exact ⟨R, f, k⟩
theorem p_moves {xs : List Nat} (h : GoodNums xs) : MovesOK (4 * 2 ^ xs.length) [movedN (letsT xs)] := by
  have := (ker_of (kern h.1) (ms := [movedN (letsT xs)]) fun m hm => by rw [List.mem_singleton.mp hm]; exact p_mv h).1.I.ok
  exact this
theorem p_kinds1 {xs : List Nat} (h : GoodNums xs) {label : List Int} {rows : List (List Nat)} (K : Kinds [movedN (letsT xs)] (4 * 2 ^ xs.length) (4 * 2 ^ xs.length) label rows) : KF true (2 ^ xs.length) label rows :=
  kf_of (kern h.1) (fun m hm => by rw [List.mem_singleton.mp hm]; exact p_mv h) K true fun _ => ⟨_, rfl⟩
theorem p_kinds2 {xs ys : List Nat} (h : GoodNums xs) (h' : GoodNums ys) (e : ys.length = xs.length) {label : List Int} {rows : List (List Nat)} (K : Kinds [movedN (letsT xs), movedN (letsT ys)] (4 * 2 ^ xs.length) (4 * 2 ^ xs.length) label rows) : KF false (2 ^ xs.length) label rows :=
  kf_of (kern h.1) (fun m hm => by
    rcases List.mem_cons.mp hm with rfl | hm
    · exact p_mv h
    · rw [List.mem_singleton.mp hm, ← e]; exact p_mv h') K false fun h => by cases h
section
variable {prog : Program} {w : World} {K : Frag} {A : Around} {E : Value → Shared → Prop} {env : Env} {c : FrC} {l : List (Option Value)} {mu : List (Addr × Obj)} {ρ : Rl} {h : Heap} {G : Array GenState} {D : Drawn} {O : OsState} {t : Nat}
theorem R_lpickL {value slice : Expr} {a : Addr} {vs ws : List Value} {x y : Value} {lo hi : Option Int} {Q : Value → Shared → Prop} (S : St c l mu ρ h) (e : h.IsList a vs.toArray) (px : IsPart x lo) (py : IsPart y hi) (hz : vs.length ≤ 10000) (hp : slicePick vs.toArray lo hi none = ws.toArray)
    (k : ∀ d h', St c l mu (ρ.add d (lstO ws 0)) h' → Q (.ref d) ⟨h', G, D, t, O⟩)
    (hs : subscripted slice false (.ref a) (.ref h.objs.size) = operate [.ref a, .ref h.objs.size] (getItem (.ref a) (.ref h.objs.size)) ∨ subscripted slice false (.ref a) (.ref h.objs.size) = operate [.ref h.objs.size, .ref a] (getItem (.ref a) (.ref h.objs.size))) :
    wpAny (model prog w) A (subscriptTail value slice (.ref a) (.ref h.objs.size)) Q E ⟨h.push { cls := .type "slice", data := .fields #[x, y, .none] }, G, D, t, O⟩ := by
  have S1 := S.sub (Sub.push h { cls := .type "slice", data := .fields #[x, y, .none] })
  have hl := e.push { cls := .type "slice", data := .fields #[x, y, .none] }
  have go : wpAny (model prog w) A (getItem (.ref a) (.ref h.objs.size)) Q E ⟨h.push { cls := .type "slice", data := .fields #[x, y, .none] }, G, D, t, O⟩ := by
    refine wpAny_getItem_list_slice (lo := lo) (hi := hi) (st := none) hl (Heap.IsSliceOf.new _ _ _ _) px py .none (by simp) ?_ (by rw [sizeLine_eq]; simp; (first | lia | omega))
    rw [hp]
    exact k _ _ (S1.push (lstO ws 0))
  rcases hs with hs | hs
  · exact tail_any (s := ⟨_, G, D, t, O⟩) hl.typeIs list_getitem_lookup go hs
  · exact tail_any (s := ⟨_, G, D, t, O⟩) hl.typeIs list_getitem_lookup go hs
theorem R_lpick {value slice : Expr} {a : Addr} {vs ws : List Value} {n : Nat} {x y : Value} {lo hi : Option Int} {Q : Value → Shared → Prop} (S : St c l mu ρ h) (e : h.get? a = some (lstO vs n)) (px : IsPart x lo) (py : IsPart y hi) (hz : vs.length ≤ 10000) (hp : slicePick vs.toArray lo hi none = ws.toArray)
    (k : ∀ d h', St c l mu (ρ.add d (lstO ws 0)) h' → Q (.ref d) ⟨h', G, D, t, O⟩)
    (hs : subscripted slice false (.ref a) (.ref h.objs.size) = operate [.ref a, .ref h.objs.size] (getItem (.ref a) (.ref h.objs.size)) ∨ subscripted slice false (.ref a) (.ref h.objs.size) = operate [.ref h.objs.size, .ref a] (getItem (.ref a) (.ref h.objs.size))) :
    wpAny (model prog w) A (subscriptTail value slice (.ref a) (.ref h.objs.size)) Q E ⟨h.push { cls := .type "slice", data := .fields #[x, y, .none] }, G, D, t, O⟩ := R_lpickL S (IsList.of_get e) px py hz hp k hs
end
noncomputable def ListAt (ρ : Rl) (a : Addr) (vs : List Value) : Prop := ∃ o n, ρ a o ∧ o.cls = .type "list" ∧ o.data = .seq vs.toArray n
theorem ListAt.isList {c : FrC} {l : List (Option Value)} {mu : List (Addr × Obj)} {ρ ρ' : Rl} {h : Heap} {a : Addr} {vs : List Value} (x : ListAt ρ a vs) (hle : ρ.le ρ') (S : St c l mu ρ' h) : h.IsList a vs.toArray := let ⟨o, n, e, hc, hd⟩ := x; ⟨o, S.get (hle _ _ e), hc, n, hd⟩
theorem Are.drop {α : Type} {P : Value → α → Prop} {vs : List Value} {xs : List α} (a : Are P vs xs) (n : Nat) : Are P (vs.drop n) (xs.drop n) := by
  refine ⟨by simp [a.1], fun i v x h1 h2 => ?_⟩
  rw [List.getElem?_drop] at h1 h2
  exact a.2 _ v x h1 h2
theorem St.pack {c : FrC} {l : List (Option Value)} {mu : List (Addr × Obj)} {ρ : Rl} {h : Heap} {a : Addr} {o : Obj} (S : St c l mu (ρ.add a o) h) : ∃ ρ', St c l mu ρ' h ∧ ρ' a o ∧ ρ.le ρ' := ⟨_, S, Rl.at_add _ _ _, Rl.le_add _ _ _⟩
noncomputable def recOf {p : Program} {n : Str} {d : DefRec} {k : List (Str × Expr)} (_h : defOf p n = some (d, k)) : DefRec := d
noncomputable def lawD : DefRec := recOf (p := PG) (n := "law") (d := _) (k := _) rfl
noncomputable def LawFin (c : FrC) (G : Array GenState) (D : Drawn) (O : OsState) (fl : Flow) (s : Shared) : Prop := ∃ l mu ρ h t ps, s = ⟨h, G, D, t, O⟩ ∧ St c l ((280, tabObj ps) :: mu) ρ h ∧ TabIs duePos dueQual ρ ps ∧ ∃ u : Bool, u = true ∧ fl = .ret (.bool u)
noncomputable def drawsL (sc : List Int) : List Int := sc.take 9 ++ ([0, 0, 1, 17, 5, 3, 16, 2, 6] : List Int).drop (sc.take 9).length
noncomputable def lampsN (sc : List Int) : Nat := 3 + ((drawsL sc).getD 0 0 % 2).toNat
noncomputable def numsT (sc : List Int) (a : Nat) : List Nat := (((drawsL sc).drop a).take (lampsN sc)).map fun x : Int => 1 + (x % 40).toNat
theorem draws_len (sc : List Int) : (drawsL sc).length = 9 := by
  unfold drawsL
  simp only [List.length_append, List.length_take, List.length_drop, List.length_cons, List.length_nil]
  (first | lia | omega)
theorem lamps_two (sc : List Int) : lampsN sc = 3 ∨ lampsN sc = 4 := by
  unfold lampsN
  have : (drawsL sc).getD 0 0 % 2 = 0 ∨ (drawsL sc).getD 0 0 % 2 = 1 := by (first | lia | omega)
  rcases this with e | e <;> rw [e] <;> simp
theorem nums_len (sc : List Int) {a : Nat} (ha : a ≤ 5) : (numsT sc a).length = lampsN sc := by
  unfold numsT
  rw [List.length_map, List.length_take, List.length_drop, draws_len]
  have := lamps_two sc; (first | lia | omega)
theorem nums_good (sc : List Int) {a : Nat} (ha : a ≤ 5) : GoodNums (numsT sc a) := by
  refine ⟨by rw [nums_len sc ha]; exact lamps_two sc, fun x hx => ?_⟩
  unfold numsT at hx
  refine cps fun X hX => ?_; obtain ⟨y, _, rfl⟩ := List.mem_map.mp hx; refine hX ?_; clear hX X
  (first | lia | omega)
theorem num40 (z : Int) : (1 : Int) + z.fmod 40 = ((1 + (z % 40).toNat : Nat) : Int) := by
  rw [Int.fmod_eq_emod_of_nonneg _ (by decide)]
  have := Int.emod_nonneg z (b := 40) (by decide)
  (first | lia | omega)
theorem ModIs.le {ρ ρ' : Rl} (x : ModIs ρ) (h : ρ.le ρ') : ModIs ρ' := let ⟨ob, a, b⟩ := x; ⟨ob, h _ _ a, b⟩
theorem strOk1 : ∀ c : _root_.Fin 128, PyData.strOk (stL [c.val]) = true := by decide +kernel
theorem gen_Q {α : Type} {M : Model} {A : Around} {P : Sem α} {E : Value → Shared → Prop} {s : Shared} {Q0 : α → Shared → Prop} (h : ∀ Q : α → Shared → Prop, (∀ v s, Q0 v s → Q v s) → wpAny M A P Q E s) : wpAny M A P Q0 E s := h Q0 fun _ _ x => x
theorem law_body (w : World) (h₀ : Heap) (ρ₀ : Rl) (L fa : Addr) (cd : Value) (a : Addr) (sc : List Int) (A : Around) (B : Bx (hd.heap_1 w.params) ⟨h₀, ρ₀, L, ["script", "draws", "lamps", "moves", "numbers", "words", "stored", "some", "label", "rows", "near", "far"]⟩ A (envOfC lawD.name lawD.scope L fa cd))
    {h : Heap} {ρ : Rl} {G : Array GenState} {D : Drawn} {O : OsState} {t : Nat} {E : Value → Shared → Prop} {o₁ : Obj}
    (S : St ⟨h₀, ρ₀, L, ["script", "draws", "lamps", "moves", "numbers", "words", "stored", "some", "label", "rows", "near", "far"]⟩ [some (.ref a), none, none, none, none, none, none, none, none, none, none, none] [(L + 1, o₁), (280, tabObj #[])] ρ h)
    (q₁ : o₁.data = .cell none) {svs : List Value} (hsa : ListAt ρ a svs) (hsr : Are IsI svs sc) (hlen : sc.length ≤ 63) (hm : ModIs ρ) (hdp : A.depth + 20 < recursionLimit) (hu : A.units + 200 < cLine) :
    wpAny (model PG w) A (execs lawD.body (envOfC lawD.name lawD.scope L fa cd)) (LawFin ⟨h₀, ρ₀, L, ["script", "draws", "lamps", "moves", "numbers", "words", "stored", "some", "label", "rows", "near", "far"]⟩ G D O) E ⟨h, G, D, t, O⟩ := by
  unfold lawD recOf at B ⊢
  dsimp only at B ⊢
  refine gen_Q fun Q0 hQ0 => ?_
  have h9 := draws_len sc
  have hla := lamps_two sc
  have hsl : svs.length = sc.length := hsr.len
  (repeat (walk_at "w"))
  refine R_lpickL (lo := none) (hi := some ((9 : Nat) : Int)) S (hsa.isList (Rl.le.refl _) S) .none (.int _ _) (by (first | lia | omega)) (slicePick_upto' svs.toArray 9) ?_ (by first | exact .inr (by with_unfolding_all rfl) | exact .inl (by with_unfolding_all rfl))
  intro d1 h1 S1
  refine cps fun X hX => ?_; obtain ⟨ρ1, S1, g1, le1⟩ := S1.pack; refine hX ?_; clear hX X
  (repeat (walk_at "w"))
  with_reducible refine R_listNew S1 (by simp) ?_
  intro d2 h2 S2
  refine cps fun X hX => ?_; obtain ⟨ρ2, S2, g2, le2⟩ := S2.pack; refine hX ?_; clear hX X
  (repeat (walk_at "w"))
  refine R_lpickL (lo := none) (hi := some ((9 : Nat) : Int)) S2 (hsa.isList (le1.trans le2) S2) .none (.int _ _) (by (first | lia | omega)) (slicePick_upto' svs.toArray 9) ?_ (by first | exact .inr (by with_unfolding_all rfl) | exact .inl (by with_unfolding_all rfl))
  intro d3 h3 S3
  refine cps fun X hX => ?_; obtain ⟨ρ3, S3, g3, le3⟩ := S3.pack; refine hX ?_; clear hX X
  (repeat (walk_at "w"))
  with_reducible refine R_len (S3.get g3) (by simp; (first | lia | omega)) ?_
  intro _ _
  (repeat (walk_at "w"))
  have e9 : (svs.toArray.toList.take 9).length = (sc.take 9).length := by simp [hsl]
  refine R_lpick (lo := some (((sc.take 9).length : Nat) : Int)) (hi := none) S3 (S3.get (le3.at g2)) (by rw [e9]; exact .int _ _) .none (by simp) (slicePick_from' _ _) ?_ (by first | exact .inr (by with_unfolding_all rfl) | exact .inl (by with_unfolding_all rfl))
  intro d4 h4 S4
  refine cps fun X hX => ?_; obtain ⟨ρ4, S4, g4, le4⟩ := S4.pack; refine hX ?_; clear hX X
  (repeat (walk_at "w"))
  with_reducible refine R_lcat S4 (S4.get (le4.at (le3.at (le2.at g1)))) (S4.get g4) (by simp; (first | lia | omega)) ?_
  intro d5 h5 S5
  refine cps fun X hX => ?_; obtain ⟨ρ5, S5, g5, le5'⟩ := S5.pack; refine hX ?_; clear hX X
  have hle5 : ρ.le ρ5 := le1.trans (le2.trans (le3.trans (le4.trans le5')))
  have hd5 : Lst IsI ρ5 d5 (drawsL sc) := by
    refine ⟨_, _, g5, ?_⟩
    refine Are.append ?_ ?_
    · have := hsr.take 9
      simpa using this
    · refine Are.drop (P := IsI) (vs := [_, _, _, _, _, _, _, _, _]) ?_ _
      exact .cons ⟨_, rfl⟩ (.cons ⟨_, rfl⟩ (.cons ⟨_, rfl⟩ (.cons ⟨_, rfl⟩ (.cons ⟨_, rfl⟩ (.cons ⟨_, rfl⟩ (.cons ⟨_, rfl⟩ (.cons ⟨_, rfl⟩ (.cons ⟨_, rfl⟩ .nil))))))))
  (repeat (walk_at "w"))
  rename St _ _ _ _ _ => S6
  have hd0 : (drawsL sc)[0]? = some ((drawsL sc).getD 0 0) := by rw [List.getD_eq_getElem?_getD, List.getElem?_eq_getElem (by (first | lia | omega))]; rfl
  with_reducible refine R_item (P := IsI) (xs := drawsL sc) S6 hd5 (by decide) (by decide) (x := (drawsL sc).getD 0 0) (by simpa using hd0) ?_ (by (first | exact rfl | with_unfolding_all rfl | (intro _; exact rfl) | (intro _; with_unfolding_all rfl))) (by (first | exact rfl | with_unfolding_all rfl | (intro _; exact rfl) | (intro _; with_unfolding_all rfl)))
  rintro _ ⟨t0, rfl⟩
  (repeat (walk_at "w"))
  with_reducible refine R_mod (by decide) ?_
  intro _ _
  (repeat (walk_at "w"))
  rename St _ _ _ _ _ => S7
  have el : (3 : Int) + ((drawsL sc).getD 0 0).fmod 2 = ((lampsN sc : Nat) : Int) := by
    unfold lampsN
    rw [Int.fmod_eq_emod_of_nonneg _ (by decide)]
    have := Int.emod_nonneg ((drawsL sc).getD 0 0) (b := 2) (by decide)
    (first | lia | omega)
  rw [el] at S7
  with_reducible refine R_pow (by (first | lia | omega)) (by (first | lia | omega)) (by decide) ?_
  intro _ _
  have em : (2 : Int) ^ (((lampsN sc : Nat) : Int)).toNat = ((2 ^ lampsN sc : Nat) : Int) := by rw [Int.toNat_natCast]; push_cast; rfl
  (repeat (walk_at "w"))
  rename St _ _ _ _ _ => S8
  rename_i oM qM
  rw [el, em] at qM
  with_reducible refine R_listNewMu S8 (by simp) ?_
  intro ms h10 S10
  (repeat (walk_at "w"))
  rename St _ _ _ _ _ => S11
  have hNl : (drawsL sc).length = 9 := h9
  refine cps fun X hX => ?_; obtain ⟨dvs, dn, hda, hdr⟩ := id hd5; refine hX ?_; clear hX X
  have hdl : dvs.length = 9 := by rw [hdr.len, h9]
  refine R_lpick (lo := some ((1 : Nat) : Int)) (hi := some ((1 + lampsN sc : Nat) : Int)) S11 (S11.get hda) (.int _ _) (by rw [show ((1 + lampsN sc : Nat) : Int) = 1 + ((lampsN sc : Nat) : Int) from by (first | lia | omega)]; exact .int _ _) (by (first | lia | omega)) (slicePick_run dvs.toArray 1 (1 + lampsN sc) (by simp; (first | lia | omega)) (by (first | lia | omega))) ?_ (by first | exact .inr (by with_unfolding_all rfl) | exact .inl (by with_unfolding_all rfl))
  intro d12 h12 S12
  refine cps fun X hX => ?_; obtain ⟨ρ12, S12, g12, le12⟩ := S12.pack; refine hX ?_; clear hX X
  have hd12 : Lst IsI ρ12 d12 (((drawsL sc).drop 1).take (lampsN sc)) := by
    refine ⟨_, _, g12, ?_⟩
    have := (hdr.drop 1).take (lampsN sc)
    rw [show 1 + lampsN sc - 1 = lampsN sc from by (first | lia | omega)]
    simpa using this
  (repeat (walk_at "w"))
  with_reducible refine R_iter_lst B.hh S12 hd12 ?_
  intro I13 o13 h13 WS13 T13 hw13 S13 hfz13
  ((with_reducible refine' R_fE (P := (fun _ => IsI)) (fun _ => true) (fun x : Int => 1 + (x % 40).toNat) (fun _ => IsN) ?hmx418 T13 ?hPx418 hw13 S13 hfz13 ?_ ?hcellx418 ?hkindx418 ?hxx418 ?_ ?_); (case hmx418 => first | exact fun _ _ _ _ _ q => q | exact fun _ _ _ _ hle q => q.le hle); (case hPx418 => first | exact fun _ _ ⟨z, hz, q⟩ => ⟨z, hz, fun _ _ => q⟩ | exact fun _ _ ⟨z, hz, q⟩ => ⟨z, hz, fun _ hle => q.le hle⟩); (case hcellx418 => decide); (case hkindx418 => exact rfl); (case hxx418 => exact rfl))
  · simp; (first | lia | omega)
  · intro i v z C ρ' d e f' h t E' hz ⟨u, hu'⟩ hle hcv S14
    subst hu'
    refine R_noIf ⟨rfl, ?_⟩
    rw [if_pos rfl]
    (repeat (walk_at "w"))
    with_reducible refine R_mod (by decide) ?_
    intro _ _
    (repeat (walk_at "w"))
    exact CNx.same S14 (isN_of (num40 z))
  intro d15 ρ15 h15 t15 hle15 hd15 S15
  rw [filt_true] at hd15
  change Lst IsN ρ15 d15 (numsT sc 1) at hd15
  (repeat (walk_at "w"))
  refine R_lpick (lo := some ((5 : Nat) : Int)) (hi := some ((5 + lampsN sc : Nat) : Int)) S15 (S15.get (hle15.at (le12.at hda))) (.int _ _) (by rw [show ((5 + lampsN sc : Nat) : Int) = 5 + ((lampsN sc : Nat) : Int) from by (first | lia | omega)]; exact .int _ _) (by (first | lia | omega)) (slicePick_run dvs.toArray 5 (5 + lampsN sc) (by simp; (first | lia | omega)) (by (first | lia | omega))) ?_ (by first | exact .inr (by with_unfolding_all rfl) | exact .inl (by with_unfolding_all rfl))
  intro d22 h22 S22
  refine cps fun X hX => ?_; obtain ⟨ρ22, S22, g22, le22⟩ := S22.pack; refine hX ?_; clear hX X
  have hd22 : Lst IsI ρ22 d22 (((drawsL sc).drop 5).take (lampsN sc)) := by
    refine ⟨_, _, g22, ?_⟩
    have := (hdr.drop 5).take (lampsN sc)
    rw [show 5 + lampsN sc - 5 = lampsN sc from by (first | lia | omega)]
    simpa using this
  (repeat (walk_at "w"))
  with_reducible refine R_iter_lst B.hh S22 hd22 ?_
  intro I23 o23 h23 WS23 T23 hw23 S23 hfz23
  ((with_reducible refine' R_fE (P := (fun _ => IsI)) (fun _ => true) (fun x : Int => 1 + (x % 40).toNat) (fun _ => IsN) ?hmx423 T23 ?hPx423 hw23 S23 hfz23 ?_ ?hcellx423 ?hkindx423 ?hxx423 ?_ ?_); (case hmx423 => first | exact fun _ _ _ _ _ q => q | exact fun _ _ _ _ hle q => q.le hle); (case hPx423 => first | exact fun _ _ ⟨z, hz, q⟩ => ⟨z, hz, fun _ _ => q⟩ | exact fun _ _ ⟨z, hz, q⟩ => ⟨z, hz, fun _ hle => q.le hle⟩); (case hcellx423 => decide); (case hkindx423 => exact rfl); (case hxx423 => exact rfl))
  · simp; (first | lia | omega)
  · intro i v z C ρ' d e f' h t E' hz ⟨u, hu'⟩ hle hcv S14
    subst hu'
    refine R_noIf ⟨rfl, ?_⟩
    rw [if_pos rfl]
    (repeat (walk_at "w"))
    with_reducible refine R_mod (by decide) ?_
    intro _ _
    (repeat (walk_at "w"))
    exact CNx.same S14 (isN_of (num40 z))
  intro d25 ρ25 h25 t25 hle25 hd25 S25
  rw [filt_true] at hd25
  change Lst IsN ρ25 d25 (numsT sc 5) at hd25
  have hd15' : Lst IsN ρ25 d15 (numsT sc 1) := hd15.le (le22.trans hle25)
  (repeat (walk_at "w"))
  with_reducible refine R_tupNew S25 (by simp) ?_
  intro T26 h26 S26
  refine cps fun X hX => ?_; obtain ⟨ρ26, S26, g26, le26⟩ := S26.pack; refine hX ?_; clear hX X
  have hle26 : ρ.le ρ26 := hle5.trans (le12.trans (hle15.trans (le22.trans (hle25.trans le26))))
  (repeat (walk_at "w"))
  refine R_iter_tup (P := RowIs ρ26) (xs := [numsT sc 1, numsT sc 5]) B.hh S26 ⟨_, _, g26, .cons ⟨_, rfl, hd15'.le le26⟩ (.cons ⟨_, rfl, hd25.le le26⟩ .nil)⟩ ?_
  intro I27 o27 h27 WS27 T27 hw27 S27 hfz27
  with_reducible refine' R_forLoop (fun i l mu ρ' => ∃ mvs n ps m4 m5 m6 tl, l = [some (.ref a), some (.ref d5), some (.int ((lampsN sc : Nat) : Int) tl), some (.ref ms), m4, m5, m6, none, none, none, none, none] ∧ mu = [(ms, lstO mvs n), (L + 1, oM), (280, tabObj ps)] ∧
    Are (RowIs ρ') mvs (([numsT sc 1, numsT sc 5].take i).map fun xs => movedN (letsT xs)) ∧ TabIs duePos dueQual ρ' ps) T27 hw27 S27 hfz27 ?hJ ?turn ?done ?ht
  case hJ => exact ⟨_, _, _, _, _, _, _, rfl, rfl, .nil, .inl rfl⟩
  case ht => intro _; exact rfl
  case turn =>
    intro i v l mu ρ₁ h t o E' QQ hQQ hi z195k12 hle30 S30 z195k15; refine cps fun X hX => ?_; obtain ⟨xs, hxs, a30, rfl, ha30⟩ := z195k12; obtain ⟨mvs, n, ps, m4, m5, m6, tl, rfl, rfl, hmv, hT⟩ := z195k15; refine hX ?_; clear hX X
    have hg : GoodNums xs := by
      match i, hxs with
      | 0, hxs => simp at hxs; subst hxs; exact nums_good sc (by decide)
      | 1, hxs => simp at hxs; subst hxs; exact nums_good sc (by decide)
      | i + 2, hxs => simp at hxs
    have hi2 : i < 2 := hi
    have hn30 : Lst IsN ρ₁ a30 xs := ha30.le hle30
    have hxl : xs.length = 3 ∨ xs.length = 4 := hg.1
    (repeat (walk_at "w"))
    rename St _ _ _ _ _ => S31
    with_reducible refine R_iter_lst B.hh S31 hn30 ?_
    intro I32 o32 h32 WS32 T32 hw32 S32 hfz32
    ((with_reducible refine' R_fA (j := 5) B ?hjx429 ?hkx429 (P := (fun _ => IsN)) (fun _ => true) apT (fun _ v l => IsS v (stL l)) ?hmx429 T32 ?hPx429 hw32 S32 hfz32 ?_ ?hcellx429 ?hkindx429 ?hxx429 ?_ ?_); (case hjx429 => exact rfl); (case hkx429 => exact rfl); (case hmx429 => first | exact fun _ _ _ _ _ q => q | exact fun _ _ _ _ hle q => q.le hle); (case hPx429 => first | exact fun _ _ ⟨z, hz, q⟩ => ⟨z, hz, fun _ _ => q⟩ | exact fun _ _ ⟨z, hz, q⟩ => ⟨z, hz, fun _ hle => q.le hle⟩); (case hcellx429 => decide); (case hkindx429 => exact rfl); (case hxx429 => exact rfl))
    · (first | lia | omega)
    · intro i' v z C ρ' d e f' h t E' hz ⟨u, hu'⟩ hle hcv S33
      subst hu'
      have hz40 := hg.2 z (List.mem_of_getElem? hz)
      have hap := ap_chars ⟨z, by (first | lia | omega)⟩ hz40.1
      dsimp only at hap
      refine R_noIf ⟨rfl, ?_⟩
      rw [if_pos rfl]
      (repeat (walk_at "w"))
      refine (int2ap_ok w _ _ _ _ (by (first | lia | omega))).use B S33 (by (first | lia | omega)) (by (first | lia | omega)) ?_
      rintro _ h8 t8 ρ8 S8 hle8 ⟨tz, rfl⟩
      rw [show (-((z : Nat) : Int)).natAbs = z from by (first | lia | omega)]
      (repeat (walk_at "w"))
      with_reducible refine R_gmDecode ?_
      (repeat (walk_at "w"))
      refine R_decode (ls := apT z) rfl hap.1 (apL_len _) (fun c hc => by have := hap.2.1 c hc; (first | lia | omega)) ?_
      intro _ _
      exact CNx.intro S8 hle8 ⟨_, rfl⟩
    intro d34 ρ34 h34 t34 hle34 hd34 S34
    rw [filt_true] at hd34
    (repeat (walk_at "w"))
    refine (move_ok w d34 a30 (xs.map apT) xs _ _ hd34 (hn30.le hle34) (by simp) (by simp; (first | lia | omega))).use B S34 (by (first | lia | omega)) (by (first | lia | omega)) ?_
    intro r35 h35 t35 ρ35 S35 hle35 z231k6; refine cps fun X hX => ?_; obtain ⟨H35, hH35, hp35⟩ := z231k6; refine hX ?_; clear hX X
    rw [List.length_map, p_due hg] at hp35
    refine cps fun X hX => ?_; obtain ⟨x, dx, hs, tkk, n0, hrx, hx, hdx⟩ := id hH35; refine hX ?_; clear hX X
    subst hrx
    (repeat (walk_at "w"))
    ((with_reducible refine' R_method ?Xx435 (S35.get hx) (S35.get hdx) ?hgx435 ?hfx435 ?htx435 ?hlx435 ?_); (case Xx435 => exact (Gl.X (Bx.gl' (by with_reducible assumption) (by with_reducible assumption)))); (case hgx435 => k_is); (case hfx435 => k_is); (case htx435 => k_is); (case hlx435 => first | with_reducible assumption | exact rfl))
    (repeat (walk_at "w"))
    have hdl : (dueT xs).length ≤ 900 := by unfold dueT; simp; (first | lia | omega)
    refine (itemsS_ok w _ H35 (dueT xs) _ _ hH35 hp35 hdl).use B S35 (by (first | lia | omega)) (by (first | lia | omega)) ?_
    intro _ h36 t36 ρ36 S36 hle36 z240k6; refine cps fun X hX => ?_; obtain ⟨d36, rfl, hd36⟩ := z240k6; refine hX ?_; clear hX X
    (repeat (walk_at "w"))
    rename St _ _ _ _ _ => S37
    have hle37 : ρ₁.le ρ36 := hle34.trans (hle35.trans hle36)
    refine wpAny_isTrue_BoolOp ?_
    refine wpAny_allTrue_Or_cons ?_
    (repeat (walk_at "w"))
    have hd37 : Lst (fun v l => IsS v (stL l)) ρ36 d34 (xs.map apT) := hd34.le (hle35.trans hle36)
    with_reducible refine R_iter_lst B.hh S37 hd37 ?_
    intro I38 o38 h38 WS38 T38 hw38 S38 hfz38
    ((with_reducible refine' R_fE (P := (fun _ v l => IsS v (stL l))) (fun _ => true) (fun l : Txs => readL l) (fun _ => IsI) ?hmx439 T38 ?hPx439 hw38 S38 hfz38 ?_ ?hcellx439 ?hkindx439 ?hxx439 ?_ ?_); (case hmx439 => first | exact fun _ _ _ _ _ q => q | exact fun _ _ _ _ hle q => q.le hle); (case hPx439 => first | exact fun _ _ ⟨z, hz, q⟩ => ⟨z, hz, fun _ _ => q⟩ | exact fun _ _ ⟨z, hz, q⟩ => ⟨z, hz, fun _ hle => q.le hle⟩); (case hcellx439 => decide); (case hkindx439 => exact rfl); (case hxx439 => exact rfl))
    · simp; (first | lia | omega)
    · intro i' v z C ρ' d e f' h t E' hz ⟨u, hu'⟩ hle hcv S39
      subst hu'
      refine cps fun X hX => ?_; obtain ⟨z0, hz0, rfl⟩ := List.mem_map.mp (List.mem_of_getElem? hz); refine hX ?_; clear hX X
      have hz40 := hg.2 z0 hz0
      have hap := ap_chars ⟨z0, by (first | lia | omega)⟩ hz40.1
      dsimp only at hap
      refine R_noIf ⟨rfl, ?_⟩
      rw [if_pos rfl]
      (repeat (walk_at "w"))
      refine (read_ok w (stL (apT z0)) _ _ _ (by rw [stL_cps]; exact hap.2.1) (by
        have : (apT z0).length ≤ 2 := by unfold apT; rw [List.length_map]; exact apL_len _
        show (apT z0).toArray.size ≤ 8
        rw [List.size_toArray]; (first | lia | omega))).use B S39 (by (first | lia | omega)) (by (first | lia | omega)) ?_
      rintro _ h19 t19 ρ19 S19 hle19 ⟨tr, rfl⟩
      rw [stL_cps]
      exact CNx.intro S19 hle19 ⟨_, rfl⟩
    intro d40 ρ40 h40 t40 hle40 hd40 S40
    rw [filt_true] at hd40
    refine cps fun X hX => ?_; obtain ⟨vs40, n40, g40, r40⟩ := hd40; refine hX ?_; clear hX X
    have hn40 := (hn30.le hle37).le hle40
    refine cps fun X hX => ?_; obtain ⟨vs41, n41, g41, r41⟩ := id hn40; refine hX ?_; clear hX X
    (repeat (walk_at "w"))
    with_reducible refine R_neD (d := .list (((xs.map apT).map readL).map dI)) (e := .list (xs.map dN)) ?_ ?_ ?_ ?_ (by (first | lia | omega)) ?_
    · exact RD.lst (S40.get g40) (RDA.of r40 fun v x _ p => RD.int p)
    · exact RD.lst (S40.get g41) (RDA.of r41 fun v x _ p => RD.nat p)
    · have := ok_ints (fun n : Int => n) 7 ((xs.map apT).map readL); simp only [kqdOk]; exact this
    · have := ok_ints (fun n : Nat => (n : Int)) 7 xs; simp only [kqdOk]; exact this
    intro b hb
    have hbf : b = false := by
      cases b with
      | false => rfl
      | true =>
        refine absurd ?_ (hb.mp rfl)
        congr 1
        rw [List.map_map, List.map_map]
        refine List.map_congr_left fun z hz => ?_
        have hz40 := hg.2 z hz
        have hap := (ap_chars ⟨z, by (first | lia | omega)⟩ hz40.1).2.2
        show dI (readL (apT z)) = dN z
        dsimp only at hap
        rw [hap]
    subst hbf
    (repeat (walk_at "w"))
    refine R_no (by simp) ?_
    refine wpAny_allTrue_Or_cons ?_
    (repeat (walk_at "w"))
    have S41 := S40.perm (mu' := [(280, tabObj ps), (I27, o), (ms, lstO mvs n), (L + 1, oM)]) (List.perm_append_comm (l₁ := [_]) (l₂ := [_, _, _]))
    have hleB : ρ.le ρ40 := hle26.trans (hle30.trans (hle37.trans hle40))
    refine (due_ok w a30 xs ps _ _ hn40 hxl (fun x hx => by have := hg.2 x hx; (first | lia | omega)) (hT.le (hle37.trans hle40)) (hm.le hleB)).use (rest := [(I27, o), (ms, lstO mvs n), (L + 1, oM)]) B S41 (by (first | lia | omega)) (by (first | lia | omega)) ?_
    intro _ h42 t42 ρ42 own42 ho42 S42 hle42 z301k8; refine cps fun X hX => ?_; obtain ⟨ps2, d42, rfl, hT2, rfl, hd42⟩ := z301k8; refine hX ?_; clear hX X
    have S43 := S42.perm (mu' := [(I27, o), (ms, lstO mvs n), (L + 1, oM), (280, tabObj ps2)]) (List.perm_append_comm (l₁ := [_, _, _]) (l₂ := [_]))
    (repeat (walk_at "w"))
    refine cps fun X hX => ?_; obtain ⟨vs36, n36, g36, r36⟩ := id hd36; refine hX ?_; clear hX X
    refine cps fun X hX => ?_; obtain ⟨vs42, n42, g42, r42⟩ := hd42; refine hX ?_; clear hX X
    have okD : kqdOk 8 (.list ((dueT xs).map fun p => Dat.tuple [.str (stL p.1), .str (stL p.2)])) = true := by
      simp only [kqdOk, List.all_map, List.all_eq_true]
      intro p hp
      refine cps fun X hX => ?_; obtain ⟨k, hk, rfl⟩ := List.mem_map.mp hp; refine hX ?_; clear hX X
      have hk4 := List.mem_range.mp hk
      have hop := order_perm hxl
      have hix : (orderT xs).idxOf k < 4 := by
        have := List.idxOf_lt_length_iff.mpr (hop.mem_iff.mpr hk)
        rw [hop.length_eq, List.length_range] at this; (first | lia | omega)
      have h1 := strOk1 ⟨75 + k, by (first | lia | omega)⟩
      have h2 := strOk1 ⟨(if xs.getD k 0 % 2 = 1 then 107 else 75) + (orderT xs).idxOf k, by split <;> (first | lia | omega)⟩
      simp only [Function.comp, kqdOk, List.all_cons, List.all_nil, Bool.and_true, Bool.and_eq_true]
      exact ⟨h1, h2⟩
    with_reducible refine R_neD (d := .list ((dueT xs).map fun p => Dat.tuple [.str (stL p.1), .str (stL p.2)])) (e := .list ((dueT xs).map fun p => Dat.tuple [.str (stL p.1), .str (stL p.2)])) ?_ ?_ okD okD (by (first | lia | omega)) ?_
    · refine RD.lst (S43.get ((hle40.trans hle42).at g36)) (RDA.of r36 fun v x _ p => ?_)
      refine cps fun X hX => ?_; obtain ⟨T, b1, b2, m, rfl, hT', hb1, hb2⟩ := p; refine hX ?_; clear hX X
      exact RD.tup (S43.get ((hle40.trans hle42).at hT')) (.cons (RD.str hb1) (.cons (RD.str hb2) .nil))
    · refine RD.lst (S43.get g42) (RDA.of r42 fun v x _ p => ?_)
      refine cps fun X hX => ?_; obtain ⟨T, b1, b2, m, rfl, hT', hb1, hb2⟩ := p; refine hX ?_; clear hX X
      exact RD.tup (S43.get hT') (.cons (RD.str hb1) (.cons (RD.str hb2) .nil))
    intro b hb
    have hbf : b = false := by
      cases b with
      | false => rfl
      | true => exact absurd rfl (hb.mp rfl)
    subst hbf
    (repeat (walk_at "w"))
    refine R_no (by simp) ?_
    refine wpAny_allTrue_Or_nil ?_
    refine R_no (by simp) ?_
    (repeat (walk_at "w"))
    have hd43 : Lst (PairIs ρ42) ρ42 d36 (dueT xs) := (hd36.le (hle40.trans hle42)).mono fun v p q => q.le (hle40.trans hle42)
    with_reducible refine R_iter_lst B.hh S43 hd43 ?_
    intro I44 o44 h44 WS44 T44 hw44 S44 hfz44
    ((with_reducible refine' R_fE (P := (fun ρ' => PairIs ρ')) (fun _ => true) (fun p : Txs × Txs => p.2.headD 0) (fun _ v c => IsS v (ch c)) ?hmx447 T44 ?hPx447 hw44 S44 hfz44 ?_ ?hcellx447 ?hkindx447 ?hxx447 ?_ ?_); (case hmx447 => first | exact fun _ _ _ _ _ q => q | exact fun _ _ _ _ hle q => q.le hle); (case hPx447 => first | exact fun _ _ ⟨z, hz, q⟩ => ⟨z, hz, fun _ _ => q⟩ | exact fun _ _ ⟨z, hz, q⟩ => ⟨z, hz, fun _ hle => q.le hle⟩); (case hcellx447 => decide); (case hkindx447 => exact rfl); (case hxx447 => exact rfl))
    · (first | lia | omega)
    · intro i' v z C ρ' d e f' h t E' hz z342k12 hle hcv S45; refine cps fun X hX => ?_; obtain ⟨T1, a1, b1, m1, he1, hT1, ha1, hb1⟩ := z342k12; refine hX ?_; clear hX X
      subst he1
      refine cps fun X hX => ?_; obtain ⟨k, hk, hzk⟩ := List.mem_map.mp (List.mem_of_getElem? hz); refine hX ?_; clear hX X
      refine R_noIf ⟨rfl, ?_⟩
      rw [if_pos rfl]
      (repeat (walk_at "w"))
      with_reducible refine R_titem (i := 1) (j := 1) (S45.get hT1) (by decide) (by decide) rfl rfl ?_ (by (first | exact rfl | with_unfolding_all rfl | (intro _; exact rfl) | (intro _; with_unfolding_all rfl))) (by (first | exact rfl | with_unfolding_all rfl | (intro _; exact rfl) | (intro _; with_unfolding_all rfl)))
      refine CNx.same S45 ?_
      rw [← hzk] at hb1 ⊢
      exact hb1
    intro d46 ρ46 h46 t46 hle46 hd46 S46
    rw [filt_true, ← p_due hg] at hd46
    have hcs : (pairsT (xs.map apT) xs xs.length).map (fun p : Txs × Txs => p.2.headD 0) = letsT xs := by
      unfold pairsT letsT; rw [List.map_map]; rfl
    rw [hcs] at hd46
    (repeat (walk_at "w"))
    refine (moved_ok w d46 (letsT xs) _ _ (p_lets hg) (by unfold letsT; simp; (first | lia | omega)) hd46).use B S46 (by (first | lia | omega)) (by (first | lia | omega)) ?_
    intro _ h47 t47 ρ47 S47 hle47 z359k6; refine cps fun X hX => ?_; obtain ⟨d47, rfl, hd47⟩ := z359k6; refine hX ?_; clear hX X
    (repeat (walk_at "w"))
    have hmvl : mvs.length ≤ 2 := by rw [hmv.len, List.length_map, List.length_take]; simp; (first | lia | omega)
    with_reducible refine R_append (k := 1) S47 rfl (by (first | lia | omega)) ?_
    intro h48 n48 S48
    (repeat (walk_at "w"))
    have hleZ : ρ₁.le ρ47 := hle37.trans (hle40.trans (hle42.trans (hle46.trans hle47)))
    refine hQQ _ _ ?_; refine Nxt.intro S48 ⟨_, rfl, hleZ, _, n48, ps2, _, _, _, tl, rfl, rfl, ?_, hT2.le (hle46.trans hle47)⟩
    rw [List.take_add_one, hxs, List.map_append]
    exact (hmv.mono fun v p q => q.le hleZ).append (.cons ⟨d47, rfl, hd47⟩ .nil)
  case done =>
    intro l mu ρ₁ h t hle30 z370k6 S30; refine cps fun X hX => ?_; obtain ⟨mvs, n, ps, m4, m5, m6, tl, rfl, rfl, hmv, hT⟩ := z370k6; refine hX ?_; clear hX X
    (repeat (walk_at "w"))
    have hmv' : Are (RowIs ρ₁) mvs [movedN (letsT (numsT sc 1)), movedN (letsT (numsT sc 5))] := hmv
    have S31 := S30.freeze (k := 0) rfl
    refine cps fun X hX => ?_; obtain ⟨ρ31, S31, g31, le31⟩ := S31.pack; refine hX ?_; clear hX X
    have hN : (2 ^ lampsN sc = 8 ∨ 2 ^ lampsN sc = 16) := by rcases hla with e | e <;> rw [e] <;> simp
    have hgA := nums_good sc (a := 1) (by decide)
    have hgB := nums_good sc (a := 5) (by decide)
    have hlA := nums_len sc (a := 1) (by decide)
    have hlB := nums_len sc (a := 5) (by decide)
    have hmvl : mvs.length = 2 := hmv'.len
    refine R_lpick (lo := none) (hi := some ((1 : Nat) : Int)) S31 (S31.get g31) .none (.int _ _) (by (first | lia | omega)) (slicePick_upto' mvs.toArray 1) ?_ (by first | exact .inr (by with_unfolding_all rfl) | exact .inl (by with_unfolding_all rfl))
    intro d51 h51 S51
    refine cps fun X hX => ?_; obtain ⟨ρ51, S51, g51, le51⟩ := S51.pack; refine hX ?_; clear hX X
    (repeat (walk_at "w"))
    rename St _ _ _ _ _ => S52
    with_reducible refine R_tupNew S52 (by simp) ?_
    intro T53 h53 S53
    refine cps fun X hX => ?_; obtain ⟨ρ53, S53, g53, le53⟩ := S53.pack; refine hX ?_; clear hX X
    have hle53 : ρ₁.le ρ53 := le31.trans (le51.trans le53)
    (repeat (walk_at "w"))
    have hx1 : Lst (RowIs ρ53) ρ53 d51 [movedN (letsT (numsT sc 1))] := ⟨_, _, le53.at g51, by
      have := (hmv'.mono fun v p q => RowIs.le q hle53).take 1
      simpa using this⟩
    have hx2 : Lst (RowIs ρ53) ρ53 ms [movedN (letsT (numsT sc 1)), movedN (letsT (numsT sc 5))] := ⟨_, _, (le51.trans le53).at g31, hmv'.mono fun v p q => RowIs.le q hle53⟩
    refine R_iter_tup (P := fun v (x : List (List Nat)) => ∃ a, v = .ref a ∧ Lst (RowIs ρ53) ρ53 a x) (xs := [[movedN (letsT (numsT sc 1))], [movedN (letsT (numsT sc 1)), movedN (letsT (numsT sc 5))]]) B.hh S53 ⟨_, _, g53, .cons ⟨_, rfl, hx1⟩ (.cons ⟨_, rfl, hx2⟩ .nil)⟩ ?_
    intro I54 o54 h54 WS54 T54 hw54 S54 hfz54
    with_reducible refine' R_forLoop (fun i l mu ρ' => ∃ m4 m5 m6 m7 m8 m9 m10 m11 tl, l = [some (.ref a), some (.ref d5), some (.int ((lampsN sc : Nat) : Int) tl), some (.ref ms), m4, m5, m6, m7, m8, m9, m10, m11] ∧ mu = [(L + 1, oM), (280, tabObj ps)] ∧
      (i = 2 → ∃ la na fa label rows, m8 = some (.ref la) ∧ m10 = some (.ref na) ∧ m11 = some (.ref fa) ∧ Lst IsI ρ' la label ∧ Lst (RowIs ρ') ρ' na (nearR (2 ^ lampsN sc) rows) ∧ Lst (RowIs ρ') ρ' fa (farR (2 ^ lampsN sc) rows) ∧ KF false (2 ^ lampsN sc) label rows)) T54 hw54 S54 hfz54 ?hJ2 ?turn2 ?done2 ?ht2
    case hJ2 => exact ⟨_, _, _, _, _, _, _, _, _, rfl, rfl, fun e => absurd e (by decide)⟩
    case ht2 => intro _; exact rfl
    case turn2 =>
      intro i v l mu ρ₂ h t o E' QQ hQQ hi z402k12 hle60 S60 z402k15; refine cps fun X hX => ?_; obtain ⟨x, hx, a60, rfl, ha60⟩ := z402k12; obtain ⟨m4, m5, m6, m7, m8, m9, m10, m11, tl, rfl, rfl, hJ⟩ := z402k15; refine hX ?_; clear hX X
      have hi2 : i < 2 := hi
      have hx60 : Lst (RowIs ρ₂) ρ₂ a60 x := (ha60.le hle60).mono fun v p q => RowIs.le q hle60
      obtain ⟨hmo, hx0, hxl, hkf⟩ : MovesOK (4 * 2 ^ lampsN sc) x ∧ x ≠ [] ∧ x.length = i + 1 ∧ ∀ label rows, Kinds x (4 * 2 ^ lampsN sc) (4 * 2 ^ lampsN sc) label rows → KF (decide (i = 0)) (2 ^ lampsN sc) label rows := by
        have mA := p_moves hgA
        have mB := p_moves hgB
        rw [hlA] at mA
        rw [hlB] at mB
        match i, hx with
        | 0, hx =>
          simp at hx; subst hx
          exact ⟨mA, by simp, rfl, fun label rows K => by have := p_kinds1 hgA (label := label) (rows := rows) (by rw [hlA]; exact K); rw [hlA] at this; exact this⟩
        | 1, hx =>
          simp at hx; subst hx
          refine ⟨fun m hm => ?_, by simp, rfl, fun label rows K => by have := p_kinds2 hgA hgB (hlB.trans hlA.symm) (label := label) (rows := rows) (by rw [hlA]; exact K); rw [hlA] at this; exact this⟩
          rcases List.mem_cons.mp hm with rfl | hm
          · exact mA _ (by simp)
          · exact mB _ hm
        | i + 2, hx => simp at hx
      (repeat (walk_at "w"))
      rename St _ _ _ _ _ => S61
      refine (kinds_ok w a60 x (4 * 2 ^ lampsN sc) _ _ hmo (by (first | lia | omega)) hx0 (by (first | lia | omega)) hx60).use B S61 (by (first | lia | omega)) (by (first | lia | omega)) ?_
      intro r62 h62 t62 ρ62 S62 hle62 z424k6; refine cps fun X hX => ?_; obtain ⟨label, rows, ⟨T62, u62, v62, n62, rfl, hT62, hlab62, hrows62⟩, hK⟩ := z424k6; refine hX ?_; clear hX X
      have kf := hkf label rows hK
      (repeat (walk_at "w"))
      refine wpAny_assign_Tuple (items := [.ref u62, .ref v62].toArray) B.hh (IsTuple.of_get (S62.get hT62)) rfl rfl fun h63 he63 => ?_
      have S63 := S62.sub (h' := h63) (fun b o e => he63 b o (Nat.ne_of_lt (Heap.lt_size e)) e)
      refine wpAny_assignInOrder_more ?_
      (repeat (walk_at "w"))
      refine wpAny_assignInOrder_more ?_
      (repeat (walk_at "w"))
      refine wpAny_assignInOrder_none ?_
      (repeat (walk_at "w"))
      rename St _ _ _ _ _ => S64
      have hNn : 1 ≤ 2 ^ lampsN sc ∧ 2 ^ lampsN sc ≤ 16 := by (first | lia | omega)
      have hrl := kf.rl
      with_reducible refine R_iter_lst B.hh S64 hrows62 ?_
      intro I65 o65 h65 WS65 T65 hw65 S65 hfz65
      ((with_reducible refine' R_fA (j := 10) B ?hjx462 ?hkx462 (P := (fun ρ' => RowIs ρ')) (fun r : List Nat => decide (r.headD 0 < 2 * 2 ^ lampsN sc)) (fun r : List Nat => r) (fun ρ' => RowIs ρ') ?hmx462 T65 ?hPx462 hw65 S65 hfz65 ?_ ?hcellx462 ?hkindx462 ?hxx462 ?_ ?_); (case hjx462 => exact rfl); (case hkx462 => exact rfl); (case hmx462 => first | exact fun _ _ _ _ _ q => q | exact fun _ _ _ _ hle q => q.le hle); (case hPx462 => first | exact fun _ _ ⟨z, hz, q⟩ => ⟨z, hz, fun _ _ => q⟩ | exact fun _ _ ⟨z, hz, q⟩ => ⟨z, hz, fun _ hle => q.le hle⟩); (case hcellx462 => decide); (case hkindx462 => exact rfl); (case hxx462 => exact rfl))
      · (first | lia | omega)
      · intro i' v z C ρ' d e f' h t E' hz z442k12 hle hcv S66; refine cps fun X hX => ?_; obtain ⟨ra, rfl, hra⟩ := z442k12; refine hX ?_; clear hX X
        have hzne := kf.ne z (List.mem_of_getElem? hz)
        have hz0 : z[0]? = some (z.headD 0) := by
          cases z with
          | nil => exact absurd rfl hzne
          | cons y ys => rfl
        refine R_oneIf ?_
        (repeat (walk_at "w"))
        with_reducible refine R_item (P := IsN) (xs := z) S66 hra (by decide) (by decide) (x := z.headD 0) (by simpa using hz0) ?_ (by (first | exact rfl | with_unfolding_all rfl | (intro _; exact rfl) | (intro _; with_unfolding_all rfl))) (by (first | exact rfl | with_unfolding_all rfl | (intro _; exact rfl) | (intro _; with_unfolding_all rfl)))
        rintro _ ⟨tx, rfl⟩
        (repeat (walk_at "w"))
        refine ⟨?_, ?_⟩
        · rw [decide_eq_decide]; (first | lia | omega)
        refine R_ite (fun hq => ?_) (fun hq => ?_)
        · (repeat (walk_at "w"))
          exact CNx.same S66 ⟨ra, rfl, hra⟩
        · exact CNx.same S66 trivial
      intro d66 ρ66 h66 t66 hle66 hd66 S66
      rw [List.map_id'] at hd66
      change Lst (RowIs ρ66) ρ66 d66 (nearR (2 ^ lampsN sc) rows) at hd66
      (repeat (walk_at "w"))
      rename St _ _ _ _ _ => S67
      have hrows67 : Lst (RowIs ρ66) ρ66 v62 rows := (hrows62.le hle66).mono fun v p q => RowIs.le q hle66
      with_reducible refine R_iter_lst B.hh S67 hrows67 ?_
      intro I75 o75 h75 WS75 T75 hw75 S75 hfz75
      ((with_reducible refine' R_fA (j := 11) B ?hjx469 ?hkx469 (P := (fun ρ' => RowIs ρ')) (fun r : List Nat => decide (2 * 2 ^ lampsN sc ≤ r.headD 0)) (fun r : List Nat => r) (fun ρ' => RowIs ρ') ?hmx469 T75 ?hPx469 hw75 S75 hfz75 ?_ ?hcellx469 ?hkindx469 ?hxx469 ?_ ?_); (case hjx469 => exact rfl); (case hkx469 => exact rfl); (case hmx469 => first | exact fun _ _ _ _ _ q => q | exact fun _ _ _ _ hle q => q.le hle); (case hPx469 => first | exact fun _ _ ⟨z, hz, q⟩ => ⟨z, hz, fun _ _ => q⟩ | exact fun _ _ ⟨z, hz, q⟩ => ⟨z, hz, fun _ hle => q.le hle⟩); (case hcellx469 => decide); (case hkindx469 => exact rfl); (case hxx469 => exact rfl))
      · (first | lia | omega)
      · intro i' v z C ρ' d e f' h t E' hz z469k12 hle hcv S76; refine cps fun X hX => ?_; obtain ⟨ra, rfl, hra⟩ := z469k12; refine hX ?_; clear hX X
        have hzne := kf.ne z (List.mem_of_getElem? hz)
        have hz0 : z[0]? = some (z.headD 0) := by
          cases z with
          | nil => exact absurd rfl hzne
          | cons y ys => rfl
        refine R_oneIf ?_
        (repeat (walk_at "w"))
        with_reducible refine R_item (P := IsN) (xs := z) S76 hra (by decide) (by decide) (x := z.headD 0) (by simpa using hz0) ?_ (by (first | exact rfl | with_unfolding_all rfl | (intro _; exact rfl) | (intro _; with_unfolding_all rfl))) (by (first | exact rfl | with_unfolding_all rfl | (intro _; exact rfl) | (intro _; with_unfolding_all rfl)))
        rintro _ ⟨tx, rfl⟩
        (repeat (walk_at "w"))
        refine ⟨?_, ?_⟩
        · rw [decide_eq_decide]; (first | lia | omega)
        refine R_ite (fun hq => ?_) (fun hq => ?_)
        · (repeat (walk_at "w"))
          exact CNx.same S76 ⟨ra, rfl, hra⟩
        · exact CNx.same S76 trivial
      intro d76 ρ76 h76 t76 hle76 hd76 S76
      rw [List.map_id'] at hd76
      change Lst (RowIs ρ76) ρ76 d76 (farR (2 ^ lampsN sc) rows) at hd76
      have hd66' : Lst (RowIs ρ76) ρ76 d66 (nearR (2 ^ lampsN sc) rows) := (hd66.le hle76).mono fun v p q => RowIs.le q hle76
      (repeat (walk_at "w"))
      refine wpAny_isTrue_Not ?_
      (repeat (walk_at "w"))
      with_reducible refine R_len_list S76 (hx60.le (hle62.trans (hle66.trans hle76))) (by (first | lia | omega)) ?_
      intro _ _
      (repeat (walk_at "w"))
      have nn : ∀ row ∈ nearR (2 ^ lampsN sc) rows, row ∈ rows := fun row hr => (List.mem_filter.mp hr).1
      have nf : ∀ row ∈ farR (2 ^ lampsN sc) rows, row ∈ rows := fun row hr => (List.mem_filter.mp hr).1
      have hnl := kf.nl
      have hfl := kf.fl
      refine (alike_ok w d66 d76 _ (nearR (2 ^ lampsN sc) rows) (farR (2 ^ lampsN sc) rows) _ _ hd66' hd76 (fun row hr => kf.ne row (nn row hr)) (fun row hr => kf.ne row (nf row hr)) kf.ll kf.lf (by (first | lia | omega)) (by (first | lia | omega)) (fun row hr => kf.rz row (nn row hr)) (fun row hr => kf.rz row (nf row hr))).use B S76 (by (first | lia | omega)) (by (first | lia | omega)) ?_
      intro _ h80 t80 ρ80 S80 hle80 z501k6; refine cps fun X hX => ?_; obtain ⟨q, rfl, hq⟩ := z501k6; refine hX ?_; clear hX X
      have hqt : q = true := by
        rw [hq]
        have e1 : (((x.length : Nat) : Int) == 1) = decide (i = 0) := by
          rw [hxl, Bool.eq_iff_iff]; simp only [beq_iff_eq, decide_eq_true_eq]; (first | lia | omega)
        rw [e1]
        exact kf.alike
      subst hqt
      (repeat (walk_at "w"))
      refine R_no (by simp) ?_
      (repeat (walk_at "w"))
      have hleZ : ρ₂.le ρ80 := hle62.trans (hle66.trans (hle76.trans hle80))
      refine hQQ _ _ ?_; refine Nxt.intro S80 ⟨_, rfl, hleZ, _, _, _, _, _, _, _, _, tl, rfl, rfl, fun e => ?_⟩
      have hi1 : i = 1 := by (first | lia | omega)
      subst hi1
      exact ⟨_, _, _, label, rows, rfl, rfl, rfl, hlab62.le (hle66.trans (hle76.trans hle80)), (hd66'.le hle80).mono fun v p q => RowIs.le q hle80, (hd76.le hle80).mono fun v p q => RowIs.le q hle80, kf⟩
    case done2 =>
      intro l mu ρ₂ h t hle60 z518k6 S60; refine cps fun X hX => ?_; obtain ⟨m4, m5, m6, m7, m8, m9, m10, m11, tl, rfl, rfl, hJ⟩ := z518k6; refine hX ?_; clear hX X
      refine cps fun X hX => ?_; obtain ⟨la, na, fa2, label, rows, rfl, rfl, rfl, hl70, hn70, hf70, kf⟩ := hJ rfl; refine hX ?_; clear hX X
      refine cps fun X hX => ?_; obtain ⟨lab, hlab, htw, hcount⟩ := kf.lab; refine hX ?_; clear hX X
      (repeat (walk_at "w"))
      refine (twice_ok w la na fa2 _ lab label (2 ^ lampsN sc) (nearR (2 ^ lampsN sc) rows) (farR (2 ^ lampsN sc) rows) _ _ hl70 hlab (hn70) (hf70) htw).use B S60 (by (first | lia | omega)) (by (first | lia | omega)) ?_
      rintro _ h71 t71 ρ71 S71 hle71 ⟨tz, rfl⟩
      (repeat (walk_at "w"))
      have hn71 : Lst (RowIs ρ71) ρ71 na (nearR (2 ^ lampsN sc) rows) := (hn70.le hle71).mono fun v p q => RowIs.le q hle71
      have hnl := kf.nl
      with_reducible refine R_iter_lst B.hh S71 hn71 ?_
      intro I75 o75 h75 WS75 T75 hw75 S75 hfz75
      ((with_reducible refine' R_fE (P := (fun ρ' => RowIs ρ')) (fun r : List Nat => decide (r.headD 0 < 2 ^ lampsN sc)) (fun r : List Nat => r) (fun ρ' => RowIs ρ') ?hmx482 T75 ?hPx482 hw75 S75 hfz75 ?_ ?hcellx482 ?hkindx482 ?hxx482 ?_ ?_); (case hmx482 => first | exact fun _ _ _ _ _ q => q | exact fun _ _ _ _ hle q => q.le hle); (case hPx482 => first | exact fun _ _ ⟨z, hz, q⟩ => ⟨z, hz, fun _ _ => q⟩ | exact fun _ _ ⟨z, hz, q⟩ => ⟨z, hz, fun _ hle => q.le hle⟩); (case hcellx482 => decide); (case hkindx482 => exact rfl); (case hxx482 => exact rfl))
      · (first | lia | omega)
      · intro i' v z C ρ' d e f' h t E' hz z531k12 hle hcv S76; refine cps fun X hX => ?_; obtain ⟨ra, rfl, hra⟩ := z531k12; refine hX ?_; clear hX X
        have hzne := kf.ne z (List.mem_filter.mp (List.mem_of_getElem? hz)).1
        have hz0 : z[0]? = some (z.headD 0) := by
          cases z with
          | nil => exact absurd rfl hzne
          | cons y ys => rfl
        refine R_oneIf ?_
        (repeat (walk_at "w"))
        with_reducible refine R_item (P := IsN) (xs := z) S76 hra (by decide) (by decide) (x := z.headD 0) (by simpa using hz0) ?_ (by (first | exact rfl | with_unfolding_all rfl | (intro _; exact rfl) | (intro _; with_unfolding_all rfl))) (by (first | exact rfl | with_unfolding_all rfl | (intro _; exact rfl) | (intro _; with_unfolding_all rfl)))
        rintro _ ⟨tx, rfl⟩
        (repeat (walk_at "w"))
        refine ⟨?_, ?_⟩
        · rw [decide_eq_decide]; (first | lia | omega)
        refine R_ite (fun hq => ?_) (fun hq => ?_)
        · (repeat (walk_at "w"))
          exact CNx.same S76 ⟨ra, rfl, hra⟩
        · exact CNx.same S76 trivial
      intro d76 ρ76 h76 t76 hle76 hd76 S76
      rw [List.map_id'] at hd76
      (repeat (walk_at "w"))
      with_reducible refine R_len_list S76 hd76 (by have := List.length_filter_le (fun r : List Nat => decide (r.headD 0 < 2 ^ lampsN sc)) (nearR (2 ^ lampsN sc) rows); (first | lia | omega)) ?_
      intro _ _
      (repeat (walk_at "w"))
      refine hQ0 _ _ ?_
      refine ⟨_, _, _, _, _, ps, rfl, S76.perm (mu' := [(280, tabObj ps), (L + 1, oM)]) (.swap _ _ _), hT.le (hle53.trans (hle60.trans (hle71.trans hle76))), _, ?_, rfl⟩
      rw [hcount]; simp
theorem law_end (w : World) {ghost h₁ : Heap} {L fa a : Addr} {cd : Value} {vs : List Value} {sc : List Int} {o₁ : Obj} {mg mb m : Str → Option Value} {p : Program} {loose : List Str} {mean : ExcName → Option Value} {G : Array GenState} {D : Drawn} {O : OsState} {t : Nat} {E : Value → Shared → Prop} {Q : Flow → Shared → Prop}
    (X' : (hd.heap_1 w.params).In ghost) (T' : Top p loose mean mg mb ghost) (K' : Below callerA ghost [] ghost) (F' : Fr ghost L h₁ m) (hm : m = lk ["script", "draws", "lamps", "moves", "numbers", "words", "stored", "some", "label", "rows", "near", "far"] [some (.ref a), none, none, none, none, none, none, none, none, none, none, none])
    (N' : News ghost L h₁ [(L + 1, o₁), (280, tabObj #[])]) (hne : L + 1 ≠ 280) (q₁ : o₁.data = .cell none) (hL : ghost.IsList a vs.toArray) (hI : IntsAre vs sc) (hlen : sc.length ≤ 63)
    (k : ∀ h' t' m' ps, Fr ghost L h' m' → h'.get? 280 = some (tabObj ps) → Q (.ret (.bool true)) ⟨h', G, D, t', O⟩) :
    wpAny (model PG w) (callerA.deeper (envOfC lawD.name lawD.scope L fa cd)) (execs lawD.body (envOfC lawD.name lawD.scope L fa cd)) Q E ⟨h₁, G, D, t, O⟩ := by
  obtain ⟨ob, hob, hoc, hd1, hd2⟩ : ∃ ob, ghost.get? 4 = some ob ∧ ob.cls = .type "module" ∧ ob.dict = some builtinsNs ∧ ob.data = .plain := by
    obtain ⟨bm, ob, b1, b2, b3, b4, b5, b6⟩ := T'.bmain
    have e : mg "__builtins__" = some (.ref 4) := mg_of X' T'.g (by k_is)
    rw [e] at b1; cases b1
    exact ⟨ob, b3, b4, b5, b6⟩
  obtain ⟨oa, hoa, hca, na, hda⟩ := hL
  have hoa' : ghost.get? a = some oa := hoa
  have hsz : ∀ b o, ghost.get? b = some o → b ≠ L := fun b o e => Nat.ne_of_lt (Nat.lt_of_lt_of_le (Heap.lt_size e) F'.above)
  have S : St ⟨ghost, fun b o => ghost.get? b = some o, L, ["script", "draws", "lamps", "moves", "numbers", "words", "stored", "some", "label", "rows", "near", "far"]⟩ [some (.ref a), none, none, none, none, none, none, none, none, none, none, none] [(L + 1, o₁), (280, tabObj #[])] (fun b o => ghost.get? b = some o) h₁ := {
    F := hm ▸ F'
    ln := rfl
    nd := by
      show List.Nodup (["script", "draws", "lamps", "moves", "numbers", "words", "stored", "some", "label", "rows", "near", "far"] : List Str)
      decide
    N := N'
    md := by simp [hne]
    fz := fun b o e => ⟨F'.keep b o e, hsz b o e, fun q => by
      obtain ⟨pp, hpp, rfl⟩ := List.mem_map.mp q
      have := (N' pp hpp).2.2
      rw [this] at e; cases e⟩
    ex := fun b o e => .inl e
    le := fun b o e => e }
  have B : Bx (hd.heap_1 w.params) ⟨ghost, fun b o => ghost.get? b = some o, L, ["script", "draws", "lamps", "moves", "numbers", "words", "stored", "some", "label", "rows", "near", "far"]⟩ (callerA.deeper (envOfC lawD.name lawD.scope L fa cd)) (envOfC lawD.name lawD.scope L fa cd) :=
    ⟨⟨[], callerA, ghost, Around.frames_deeper K'.stack, K'⟩, rfl, rfl, rfl, rfl, rfl, rfl, X', p, loose, mg, mb, topRead_of T'⟩
  refine wpAny_mono (law_body w ghost _ L fa cd a sc _ B S q₁ ⟨oa, na, hoa', hca, hda⟩ (of_ints hI) hlen ⟨ob, hob, hoc, hd1, hd2⟩ (by show 1 + claimMargin + 1 + 20 < recursionLimit; decide +kernel) (by show 4 + 3 + 200 < cLine; decide +kernel)) (fun fl s' hf => ?_) fun _ _ e => e
  obtain ⟨l, mu, ρ, h, t, ps, rfl, S', _, u, rfl, rfl⟩ := hf
  exact k h t _ ps S'.F (S'.muget (k := 0) rfl)
noncomputable def hdAs : List Addr := [2, 3, 32, 34, 35, 37, 38, 42, 43, 47, 48, 52, 53, 54, 55, 57, 58, 60, 61, 69, 70, 72, 73, 75, 76, 77, 79, 80, 82, 83, 84, 86, 87, 89, 90, 91, 93, 94, 96, 97, 98, 101, 102, 103, 105, 106, 108, 109, 110, 112, 113, 115, 116, 117, 120, 121, 122, 123, 125, 126, 128, 129, 130, 133, 134, 135, 138, 139, 140, 142, 143, 145, 146, 147, 149, 150, 152, 153, 154, 157, 158, 159, 161, 162, 164, 165, 166, 168, 169, 171, 172, 173, 175, 176, 178, 179, 180, 181, 182, 183, 184, 187, 189, 190, 192, 193, 194, 196, 197, 199, 200, 211, 213, 214, 216, 217, 218, 220, 221, 223, 224, 225, 227, 228, 230, 231, 232, 234, 235, 237, 238, 239, 241, 242, 244, 245, 246, 248, 249, 251, 252, 253, 255, 256, 258, 259, 260, 261, 262, 263, 264, 267, 269, 270, 272, 273, 274, 277, 278, 279, 282, 283, 284, 287, 288, 289, 291, 292, 294, 295, 296, 299, 300, 301, 304, 305, 306, 309, 310, 311, 314, 315]
theorem hx.tw7117039502732272165 : True := trivial
theorem hx.tw12020592557208862846 : True := trivial
theorem hx.tw13994185481600150508 : True := trivial
theorem hx.tw2848357750357388338 : True := trivial
theorem hx.tw663058311725963850 : True := trivial
theorem hx.tw16403607636861804150 : True := trivial
theorem hx.tw16937982806788184370 : True := trivial
theorem hx.tw4311935586957980807 : True := trivial
theorem hx.tw2087738239193673434 : True := trivial
theorem hx.tw1415654423932628287 : True := trivial
theorem hx.tw13764951562285276426 : True := trivial
theorem hx.tw6836243782229160083 : True := trivial
theorem hx.tw13327334872544604925 : True := trivial
theorem hx.tw4232555702244796835 : True := trivial
theorem hx.tw5987738072841988675 : True := trivial
theorem hx.tw11542809368468670571 : True := trivial
theorem hx.tw2580623763806008135 : True := trivial
theorem hx.tw18163383231904437410 : True := trivial
theorem hx.tw14609227045513297931 : True := trivial
theorem hx.tw10793050097425451903 : True := trivial
theorem hx.tw6700631356736508036 : True := trivial
theorem hx.tw11652467807154655573 : True := trivial
theorem hx.tw7462397087798485187 : True := trivial
theorem hx.tw3457709029089074591 : True := trivial
theorem hx.tw13273623471580055978 : True := trivial
theorem hx.tw7891766511613034010 : True := trivial
theorem hx.tw14626987222883238387 : True := trivial
theorem hx.tw14564351093087913541 : True := trivial
theorem hx.tw11605663943579434254 : True := trivial
theorem hx.tw10807983823035302247 : True := trivial
theorem hx.tw1089165632158530400 : True := trivial
theorem hx.tw13970432741380693950 : True := trivial
theorem hx.tw3840107357115572158 : True := trivial
theorem hx.tw12770057050171300576 : True := trivial
theorem hx.tw16503919762052067167 : True := trivial
theorem hx.tw7291546937901893924 : True := trivial
theorem hx.tw8758266848800754368 : True := trivial
theorem hx.tw10413734220558041264 : True := trivial
theorem hx.tw18141915107381044649 : True := trivial
theorem hx.tw6961461927457948173 : True := trivial
theorem hx.tw4699661331268117588 : True := trivial
theorem hx.tw16562810249119712046 : True := trivial
theorem hx.tw3245460484126576377 : True := trivial
theorem hx.tw1100523350065315309 : True := trivial
theorem hx.tw8812941233019382706 : True := trivial
theorem hx.tw8013753438709209555 : True := trivial
theorem hx.tw15414558616249902002 : True := trivial
theorem hx.tw7118774718363930462 : True := trivial
theorem hx.tw18215676871104998399 : True := trivial
theorem hx.tw396350801418547936 : True := trivial
theorem hx.tw16220354117797179089 : True := trivial
theorem hx.tw663216957817655072 : True := trivial
theorem hx.tw4621005963601903657 : True := trivial
theorem hx.tw16653890388018469145 : True := trivial
theorem hx.tw17708868029167115550 : True := trivial
theorem hx.tw16070838663392740651 : True := trivial
theorem hx.tw4835485041952420608 : True := trivial
theorem hx.tw292709383975957704 : True := trivial
theorem hx.tw8280520150143245440 : True := trivial
theorem hx.tw16044307587897543647 : True := trivial
theorem hx.tw6234722803267601620 : True := trivial
theorem hx.tw12294144641388205969 : True := trivial
theorem hx.tw1362163949497883158 : True := trivial
theorem hx.tw13173629366862862663 : True := trivial
theorem hx.tw15396066670179936615 : True := trivial
theorem hx.tw15549499891164636150 : True := trivial
theorem hx.tw2101144305115712416 : True := trivial
theorem hx.tw6912957689366828898 : True := trivial
theorem hx.tw12389214559413477026 : True := trivial
theorem hx.tw9838419238923530799 : True := trivial
theorem hx.tw6150637109426312374 : True := trivial
theorem hx.tw2598453218603719200 : True := trivial
theorem hx.tw17809212181156274236 : True := trivial
theorem hx.tw5973647403945334939 : True := trivial
theorem hx.tw12764173250460046966 : True := trivial
theorem hx.tw18436102530548493083 : True := trivial
theorem hx.tw1749809594243765621 : True := trivial
theorem hx.tw8346943369959206681 : True := trivial
theorem hx.tw7135545248255827829 : True := trivial
theorem hx.tw919350103801827390 : True := trivial
theorem hx.tw5229663503899665235 : True := trivial
theorem hx.tw16530790135194553822 : True := trivial
theorem hx.tw15719070241404046249 : True := trivial
theorem hx.tw11235557421540341822 : True := trivial
theorem hx.tw14648767878841662682 : True := trivial
theorem hx.tw10939141181510983603 : True := trivial
theorem hx.tw14958249954385249000 : True := trivial
theorem hx.tw15192764956840726322 : True := trivial
theorem hx.tw15871474243252748558 : True := trivial
theorem hx.tw4790614838382506437 : True := trivial
theorem hx.tw8210334511716523686 : True := trivial
theorem hx.tw4305392701558362954 : True := trivial
theorem hx.tw8089808293607095345 : True := trivial
theorem hx.tw16751661018229691023 : True := trivial
theorem hx.tw3064612590093021604 : True := trivial
theorem hx.tw4778239293986166988 : True := trivial
theorem hx.tw4638685165426952821 : True := trivial
theorem hx.tw17626744831489513375 : True := trivial
theorem hx.tw4205994103841450751 : True := trivial
theorem hx.tw8916866690797206258 : True := trivial
theorem hx.tw11576060578404032109 : True := trivial
theorem hx.tw11153277219916700167 : True := trivial
theorem hx.tw13887421244684101553 : True := trivial
theorem hx.tw1837536587343590555 : True := trivial
theorem hx.tw3772895889506965678 : True := trivial
theorem hx.tw9728688711462037987 : True := trivial
theorem hx.tw14728151803300476778 : True := trivial
theorem hx.tw11529457255951468018 : True := trivial
theorem hx.tw13348707166376220045 : True := trivial
theorem hx.tw540753489051694059 : True := trivial
theorem hx.tw8313530265402521625 : True := trivial
theorem hx.tw4925180145992722077 : True := trivial
theorem hx.tw13418063953174990607 : True := trivial
theorem hx.tw16670953707802882552 : True := trivial
theorem hx.tw8866640492970853812 : True := trivial
theorem hx.tw7924969997821631868 : True := trivial
theorem hx.tw14681370447187412957 : True := trivial
theorem hx.tw4081245987573513101 : True := trivial
theorem hx.tw16439351170449580089 : True := trivial
theorem hx.tw12886684066980348408 : True := trivial
theorem hx.tw3126803895974666599 : True := trivial
theorem hx.tw811370354263480444 : True := trivial
theorem hx.tw8374021121780711109 : True := trivial
theorem hx.tw5663202204576575629 : True := trivial
theorem hx.tw8791178820788453978 : True := trivial
theorem hx.tw440200682837978379 : True := trivial
theorem hx.tw1623351667710231897 : True := trivial
theorem hx.tw9279888435216144913 : True := trivial
theorem hx.tw2884559834261289398 : True := trivial
theorem hx.tw3423346011291521542 : True := trivial
theorem hx.tw10596243801935397713 : True := trivial
theorem hx.tw11876859455004161157 : True := trivial
theorem hx.tw9115037031211061566 : True := trivial
theorem hx.tw3127049559752940807 : True := trivial
theorem hx.tw8644560031705490810 : True := trivial
theorem hx.tw11068126759796092325 : True := trivial
theorem hx.tw6225824510542169761 : True := trivial
theorem hx.tw5707194690098638471 : True := trivial
theorem hx.tw2618490190428073017 : True := trivial
theorem hx.tw3461369719786860586 : True := trivial
theorem hx.tw4277992108151645805 : True := trivial
theorem hx.tw1463196147053303394 : True := trivial
theorem hx.tw3228090532262280768 : True := trivial
theorem hx.tw10147221347258369205 : True := trivial
theorem hx.tw4247352520941429780 : True := trivial
theorem hx.tw17573937718456619690 : True := trivial
theorem hx.tw12377959399836290067 : True := trivial
theorem hx.tw899982699746041680 : True := trivial
theorem hx.tw16328980522917596230 : True := trivial
theorem hx.tw14438402075193673188 : True := trivial
theorem hx.tw3548908381971391680 : True := trivial
theorem hx.tw18318817810866021139 : True := trivial
theorem hx.tw990764820897086996 : True := trivial
theorem hx.tw12087079219971932454 : True := trivial
theorem hx.tw9463795675075205437 : True := trivial
theorem hx.tw8078265402885471976 : True := trivial
theorem hx.tw16625174259953595169 : True := trivial
theorem hx.tw2559257357635606366 : True := trivial
theorem hx.tw4216420034110358939 : True := trivial
theorem hx.tw9876159777357936899 : True := trivial
theorem hx.tw3169126796184166851 : True := trivial
theorem hx.tw2745991006798580251 : True := trivial
theorem hx.tw3809554658679441229 : True := trivial
theorem hx.tw12042423166086850324 : True := trivial
theorem hx.tw14919038862432082165 : True := trivial
theorem hx.tw6948474134290792126 : True := trivial
theorem hx.tw10471693372546886218 : True := trivial
theorem hx.tw13588689596132362657 : True := trivial
theorem hx.tw15656486127985483219 : True := trivial
theorem hx.tw18112682675998309622 : True := trivial
theorem hx.tw9592554324860578136 : True := trivial
theorem hx.tw17453721029707611201 : True := trivial
theorem hx.tw3597224387928761530 : True := trivial
theorem hx.tw6821187626703829088 : True := trivial
theorem hx.tw829882407734958542 : True := trivial
theorem hx.tw15031465929163138751 : True := trivial
theorem hx.tw7822962280082496512 : True := trivial
theorem hx.tw2927320300579833983 : True := trivial
theorem hx.tw12531592957024129060 : True := trivial
theorem hx.tw7611442656274437139 : True := trivial
theorem hx.tw4443683451718327492 : True := trivial
theorem hx.tw4400082454429041863 : True := trivial
theorem hx.tw12840931332580689146 : True := trivial
theorem hx.tw8383832312975943185 : True := trivial
theorem hx.tw12112647759870957014 : True := trivial
theorem hx.tw15020162214462287587 : True := trivial
theorem hx.tw8294567603793468075 : True := trivial
theorem hx.tw17871362266857658384 : True := trivial
theorem hx.tw9440667166201527827 : True := trivial
theorem hx.tw10259550172225532679 : True := trivial
theorem hx.tw14311561367197305191 : True := trivial
theorem hx.tw10704556739469484813 : True := trivial
theorem hx.tw18025658111944671314 : True := trivial
theorem hx.tw1624557340753844931 : True := trivial
theorem hx.tw2660992353704633501 : True := trivial
theorem hx.tw3221206007101484751 : True := trivial
theorem hx.tw145932963246128051 : True := trivial
theorem hx.tw17016924944305248243 : True := trivial
theorem hx.tw1890682559011639224 : True := trivial
theorem hx.tw9313591890549905059 : True := trivial
theorem hx.tw2822907071458423533 : True := trivial
theorem hx.tw10742297795112918153 : True := trivial
theorem hx.tw11516083673652718094 : True := trivial
theorem hx.tw11873219079051621416 : True := trivial
theorem hx.tw5151445886737355997 : True := trivial
theorem hx.tw8153351105357841641 : True := trivial
theorem hx.tw11511833604947660874 : True := trivial
theorem hx.tw4035567117447141005 : True := trivial
theorem hx.tw3722370046394560457 : True := trivial
theorem hx.tw13944549294047831903 : True := trivial
theorem hx.tw5254291218172806239 : True := trivial
theorem hx.tw13904747866207299807 : True := trivial
theorem hx.tw5644764048023550207 : True := trivial
theorem hx.tw10116244012155279326 : True := trivial
theorem hx.tw17557955846509285157 : True := trivial
theorem hx.tw14221590416393904004 : True := trivial
theorem hx.tw15003182733627720372 : True := trivial
theorem hx.tw15097703535185493621 : True := trivial
theorem hx.tw1658197193684275316 : True := trivial
theorem hx.tw16058991070295768540 : True := trivial
theorem hx.tw14992983214800064602 : True := trivial
theorem hx.tw16038111126348386163 : True := trivial
theorem hx.tw14169341511654307922 : True := trivial
theorem hx.tw9737313789580327028 : True := trivial
theorem hx.tw13360980773314081272 : True := trivial
theorem hx.tw1881273628141950129 : True := trivial
theorem hx.tw6111261592326885668 : True := trivial
theorem hx.tw9504622745713830366 : True := trivial
theorem hx.tw288411641489606368 : True := trivial
theorem hx.tw764732042479237497 : True := trivial
theorem hx.tw16179723595558240676 : True := trivial
theorem hx.tw1972047601138287618 : True := trivial
theorem hx.tw7160642757287845954 : True := trivial
theorem hx.tw16896803200496902077 : True := trivial
theorem hx.tw7010757331310601657 : True := trivial
theorem hx.tw7992169660659198757 : True := trivial
theorem hx.tw5060404574720663952 : True := trivial
theorem hx.tw568883250039891352 : True := trivial
theorem hx.tw2063962012853046974 : True := trivial
theorem hx.tw7492030116529166354 : True := trivial
theorem hx.tw16051292036045715728 : True := trivial
theorem hx.tw3897231576808763883 : True := trivial
theorem hx.tw6905475023927656221 : True := trivial
theorem hx.tw4003515419551643288 : True := trivial
theorem hx.tw15902653346226055279 : True := trivial
theorem hx.tw9425653185733914764 : True := trivial
theorem hx.tw5286479519828484009 : True := trivial
theorem hx.tw4643808109359329299 : True := trivial
theorem hx.tw5002266203513084153 : True := trivial
theorem hx.tw9538226051533269152 : True := trivial
theorem hx.tw2911593502983421243 : True := trivial
theorem hx.tw17001873279354605088 : True := trivial
theorem hx.tw17393156024033759196 : True := trivial
theorem hx.tw11501113234145657499 : True := trivial
theorem hx.tw10610913765530660747 : True := trivial
theorem hx.tw12821517133369311258 : True := trivial
theorem hx.tw16584103675982884176 : True := trivial
theorem hx.tw9067985455519472299 : True := trivial
theorem hx.tw6810229405824084477 : True := trivial
theorem hx.tw11648549221805079087 : True := trivial
theorem hx.tw6940656872036309266 : True := trivial
theorem hx.tw4987836685589693749 : True := trivial
theorem hx.tw30516888858077971 : True := trivial
theorem hx.tw1164759201082787303 : True := trivial
theorem hx.tw10683619853160712676 : True := trivial
theorem hx.tw12476055800596261357 : True := trivial
theorem hx.tw7204223631911439854 : True := trivial
theorem hx.tw13923397955430767758 : True := trivial
theorem hx.tw4546395012647954685 : True := trivial
theorem hx.tw5984905357544954840 : True := trivial
theorem hx.tw15695149568941424871 : True := trivial
theorem hx.tw8800404311707590821 : True := trivial
theorem hx.tw11133863230559657982 : True := trivial
theorem hx.tw15571626766152387222 : True := trivial
theorem hx.tw551878033868750631 : True := trivial
theorem hx.tw10973832126581270915 : True := trivial
theorem hx.tw8576703452051888039 : True := trivial
theorem hx.tw18288557733248936724 : True := trivial
theorem hx.tw5074251886428752240 : True := trivial
theorem hx.tw2404633205489611897 : True := trivial
theorem hx.tw3105936464211144054 : True := trivial
theorem hx.tw8069092538493481521 : True := trivial
theorem hx.tw2822385975729611342 : True := trivial
theorem hx.tw10784503099230923102 : True := trivial
theorem hx.tw14547076071350101635 : True := trivial
theorem hx.tw11578488819760341122 : True := trivial
theorem hx.tw16617463825281310940 : True := trivial
theorem hx.tw8059141126832881916 : True := trivial
theorem hx.tw5132135861922131789 : True := trivial
theorem hx.tw4820356001183778062 : True := trivial
theorem hx.tw9071423850677124175 : True := trivial
theorem hx.tw8016503042654326230 : True := trivial
theorem hx.tw9728156084186220081 : True := trivial
theorem hx.tw10783175264176337430 : True := trivial
theorem hx.tw13458227961471406816 : True := trivial
theorem hx.tw3502533989761060701 : True := trivial
theorem hx.tw16619632684288853345 : True := trivial
theorem hx.tw4870609095116367995 : True := trivial
theorem hx.tw11868710178002341650 : True := trivial
theorem hx.tw16600827452279821873 : True := trivial
theorem hx.tw3089318795281737075 : True := trivial
theorem hx.tw14364079368883715770 : True := trivial
theorem hx.tw10307356883056191786 : True := trivial
theorem hx.tw14349752981382075830 : True := trivial
theorem hx.tw7876969669924440321 : True := trivial
theorem hx.tw5044532516427930034 : True := trivial
theorem hx.tw9883119432925730071 : True := trivial
theorem hx.tw2049375122918656981 : True := trivial
theorem hx.tw12545834286116690562 : True := trivial
theorem hx.tw4951867800294161291 : True := trivial
theorem hx.tw5971702529781738994 : True := trivial
theorem hx.tw7411675879612560423 : True := trivial
theorem hx.tw358558379371031262 : True := trivial
theorem hx.tw8629640164197408899 : True := trivial
theorem hx.tw6382291294955211999 : True := trivial
theorem hx.tw14938798612039523107 : True := trivial
theorem hx.tw2146883442004570292 : True := trivial
theorem hx.tw9942352244345169381 : True := trivial
theorem hx.tw15964317271155168136 : True := trivial
theorem hx.tw16831101020866358490 : True := trivial
theorem hx.tw9960968122618143832 : True := trivial
theorem hx.tw9356179824560524543 : True := trivial
theorem hx.tw7789537453598603269 : True := trivial
theorem hx.tw1619734644172420774 : True := trivial
theorem hx.tw15369465458315143963 : True := trivial
theorem hx.tw11874976274172590891 : True := trivial
theorem hx.tw64630411898889128 : True := trivial
theorem hx.tw10957201520833865598 : True := trivial
theorem hx.tw5012581791309765258 : True := trivial
theorem hx.tw5548490626718368004 : True := trivial
theorem hx.tw10872142100059809350 : True := trivial
theorem hx.tw17478428059220288493 : True := trivial
theorem hx.tw18021650032858729757 : True := trivial
theorem hx.tw9819894657917094784 : True := trivial
theorem hx.tw1642644004600895762 : True := trivial
theorem hx.tw576899675763343441 : True := trivial
theorem hx.tw14775527904853000749 : True := trivial
theorem hx.tw1709533345360563255 : True := trivial
theorem hx.tw9580440979016352591 : True := trivial
theorem hx.tw18383182533153586477 : True := trivial
theorem hx.tw12677999345953698985 : True := trivial
theorem hx.tw9733707994341241046 : True := trivial
theorem hx.tw17493533222571850228 : True := trivial
theorem hx.tw7196959931366684185 : True := trivial
theorem hx.tw9160301636639237467 : True := trivial
theorem hx.tw15784146693891255721 : True := trivial
theorem hx.tw13071191126500404010 : True := trivial
theorem hx.tw17093792507239897499 : True := trivial
theorem hx.tw18119002219515010161 : True := trivial
theorem hx.tw16447564128994577934 : True := trivial
theorem hx.tw12247584602314355929 : True := trivial
theorem hx.tw1352479365382649514 : True := trivial
theorem hx.tw2497926436135343631 : True := trivial
theorem hx.tw3313114576310721804 : True := trivial
theorem hx.tw8435280521333064917 : True := trivial
theorem hx.tw17832744011254776289 : True := trivial
theorem hx.tw13733715944362664559 : True := trivial
theorem hx.tw12122080299700438669 : True := trivial
theorem hx.tw15637220148305887217 : True := trivial
theorem hx.tw432897219053493142 : True := trivial
theorem hx.tw18286160104727862462 : True := trivial
theorem hx.tw3264777137382535416 : True := trivial
theorem hx.tw5546299256372968745 : True := trivial
theorem hx.tw15088266657895807461 : True := trivial
theorem hx.tw8339939058450410749 : True := trivial
theorem hx.tw4155468523610585343 : True := trivial
theorem hx.tw6938760501003799309 : True := trivial
theorem hx.tw7494296812056875437 : True := trivial
theorem hx.tw3169779510389522523 : True := trivial
theorem hx.tw16929762562273154506 : True := trivial
theorem hx.tw12867322890000570906 : True := trivial
theorem hx.tw3643914471317708621 : True := trivial
theorem hx.tw9926087939513100535 : True := trivial
theorem hx.tw11950744475718057257 : True := trivial
theorem hx.tw1514262835583746478 : True := trivial
theorem hx.tw1628044414854275119 : True := trivial
theorem hx.tw7445733027249461639 : True := trivial
theorem hx.tw14150925457611720700 : True := trivial
theorem hx.tw16503685224865804450 : True := trivial
theorem hx.tw4354437142168371049 : True := trivial
theorem hx.tw13664180898379951855 : True := trivial
theorem hx.tw5785601672118008014 : True := trivial
theorem hx.tw1533005365617712450 : True := trivial
theorem hx.tw1472627028676479429 : True := trivial
theorem hx.tw17601551063327761115 : True := trivial
theorem hx.tw10804217046144596232 : True := trivial
theorem hx.tw15890461587552314789 : True := trivial
theorem hx.tw2313343453469587 : True := trivial
theorem hx.tw17365841796568000854 : True := trivial
theorem hx.tw7864485984771250624 : True := trivial
theorem hx.tw10782636077873877296 : True := trivial
theorem hx.tw16422446190411312259 : True := trivial
theorem hx.tw7086268270985402415 : True := trivial
theorem hx.tw3952756967378608505 : True := trivial
theorem hx.tw10864032600957282309 : True := trivial
theorem hx.tw14693721518964817596 : True := trivial
theorem hx.tw4207117747809975320 : True := trivial
theorem hx.tw14629616601678125156 : True := trivial
theorem hx.tw8063799498105216150 : True := trivial
theorem hx.tw11255313108558152148 : True := trivial
theorem hx.tw3778313439561597904 : True := trivial
theorem hx.tw5033423968699698886 : True := trivial
theorem hx.tw5602258624995510178 : True := trivial
theorem hx.tw4709067958626073384 : True := trivial
theorem hx.tw1765193833724418456 : True := trivial
theorem hx.tw17967490135107311282 : True := trivial
theorem hx.tw8072070048918887560 : True := trivial
theorem hx.tw14829580396654412330 : True := trivial
theorem hx.tw10606685759059100015 : True := trivial
theorem hx.tw17469929296604087836 : True := trivial
theorem hx.tw13028522948772262508 : True := trivial
theorem hx.tw45817232647829279 : True := trivial
theorem hx.tw2702912257362749870 : True := trivial
theorem hx.tw15880504448479711350 : True := trivial
theorem hx.tw2786521351924353169 : True := trivial
theorem hx.tw6810358813687007468 : True := trivial
theorem hx.tw4518221268279412019 : True := trivial
theorem hx.tw8683918616840425538 : True := trivial
theorem hx.tw7105652820812284432 : True := trivial
theorem hx.tw6598653712756694132 : True := trivial
theorem hx.tw15102594672415386349 : True := trivial
theorem hx.tw8462949007004437653 : True := trivial
theorem hx.tw9661119599188179355 : True := trivial
theorem hx.tw13251139996166171883 : True := trivial
theorem hx.tw3864814513713628098 : True := trivial
theorem hx.tw2174435470470850508 : True := trivial
theorem hx.tw16131195338128503568 : True := trivial
theorem hx.tw11419140202800805772 : True := trivial
theorem hx.tw13051606616835114215 : True := trivial
theorem hx.tw357486453476387696 : True := trivial
set_option Elab.async true in
theorem hx : PySem.Challenge.rw_wk0045_01.Holds := by
  w_on
  o_law
  o_head (kHook Mine.hd.heap_1 Mine.hdAs (fun _ => by kernel_rfl))
  case hw => w_witness2
  k_go0
  rename Below _ _ _ _ => zK
  rename Top _ _ _ _ _ _ => zT
  rename Fr _ _ _ _ => zF
  rename News _ _ _ _ => zN
  rename Frag.In _ _ => zX
  rename IntsAre _ _ => zI
  rename _ = Data.cell _ => zq
  refine Mine.law_end _ zX zT zK zF ?zhm zN ?zhne ?zqq lifted zI ?zhlen ?zkk
  case zhm => exact Mine.lk1 _
  case zhne => exact Nat.ne_of_gt (Nat.lt_succ_of_lt (by assumption))
  case zqq => exact zq
  case zhlen => (first | lia | omega)
  case zkk =>
    intro h' t' m' ps F hP
    refine ⟨goodW_bool F ?zhg ?zhn ?zhp, ⟨ps, hP⟩, trivial⟩
    case zhg => assumption
    case zhn => exact raisesW_false (by wrow_none_raised)
    case zhp => kc_post
end Mine
end
theorem PySem.Challenge.cw_wk0045_01_holds : PySem.Challenge.rw_wk0045_01.Holds :=
  Mine.hx
