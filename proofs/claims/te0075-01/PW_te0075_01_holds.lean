import PyProof.Rows.All
import Wide.All
import OpenK.AllK
import Wide.FinOn
import PySem.Challenge.RW_te0075_01
open PySem PySem.W PyProof.Rows
set_option Elab.async false
set_option maxRecDepth 100000
set_option maxHeartbeats 8000000
set_option rowWalk.seconds 0
set_option linter.unusedVariables false
namespace Mine
-- the text's top is walked by the kernel at one go, by the kit's quick words: the head's own way in pieces writes ten megabytes of compiled twins
noncomputable def quickEnds (p : Program) (w : World) (N : Nat) : {f : Option Shared // openEnds treeTable p w N = f} :=
  ⟨_, by
    unfold openEnds fencedOpening topFrom
    rw [PySem.W.Fast.te10274390034422433532, PySem.W.Fast.te1435165496053646825, PySem.W.Fast.te14082659384304107361, PySem.W.Fast.te14289696077712309145, PySem.W.Fast.te8920871248978507458, PySem.W.Fast.te14364793385576792824]⟩
abbrev atOnce (p q : Program) (loose : List Str) (Xt : Shared → Bool) {α : Type} (Yf : Shared → α) (Ya : World → α) (N : Nat) : {P : Prop // P → LeftO p q loose Xt Yf Ya N} :=
  ⟨∀ w : World, _, fun h w => by
    rw [(quickEnds p w N).2, PySem.W.Fast.te4187177175401517315]
    exact h w⟩
end Mine
-- the head is to find this one: its first premise is not put in pieces
theorem Mine.PySem.W.holds_open {r : OpenRow} {q : Program} {loose : List Str} {Xt : Shared → Bool} {XP : (Str → Option Value) → Heap → Prop} {α : Type} {Yf : Shared → α} {Ya : World → α} {YP : World → Heap → Prop} {d : DefRec} {kwd : List (Str × PySem.Expr)} {N : Nat}
    (a1 : (Mine.atOnce r.prog q loose Xt Yf Ya N).1) (a2 : ∀ w s, Yf s = Ya w → YP w s.heap)
    (a3 : ∀ w h h', YP w h → (∀ b o, h.get? b = some o → h'.get? b = some o) → YP w h')
    (a4 : ∀ s, Xt s = true → XP (s.heap.nsMap mainGlobals) s.heap)
    (a5 : ∀ mg h h', XP mg h → (∀ b o, h.get? b = some o → h'.get? b = some o) → XP mg h')
    (a6 : defOf q r.name = some (d, kwd)) (a7 : r.prog.theDef r.name = some (d.params, d.body, d.scope))
    (a8 : kwWritten? d.params.kwonlyargs d.params.kw_defaults = some kwd)
    (a9 : ∀ s, Xt s = true → RecFacts r.records s.heap) (b1 : (!r.writes || r.records.isEmpty) = true)
    (b2 : r.wellSaid = true) (b3 : (chainsOk q && opensWell r.prog && (frees r.toRowW && r.within.isEmpty)) = true)
    (b4 : r.prog.bare) (b5 : r.toRowW.promised)
    (b6 : WalkO q loose XP YP r.toRowW d kwd fun f vs => PySem.call f vs) : r.Holds :=
  _root_.PySem.W.holds_open ((Mine.atOnce _ _ _ _ _ _ _).2 a1) a2 a3 a4 a5 a6 a7 a8 a9 b1 b2 b3 b4 b5 b6
namespace Mine
open_top hd for PySem.Challenge.rw_te0075_01
end Mine
section
open PySem PySem.StrLaws PySem.Builtin PySem.Builtin.Str
set_option Elab.async false
namespace Mine

/-- a text by its codes -/
abbrev tx (l : List Nat) : Str := ⟨l.toArray⟩

theorem tx_toList (x : Str) : x = tx x.cps.toList := by
  apply Str.ext'
  simp

theorem subAt_tx (l : List Nat) (c i : Nat) : (subAt (tx l) ⟨#[c]⟩ i = true) ↔ l[i]? = some c := by
  rw [subAt_eq]
  exact take1_drop

/-- counting one sign in the first hi signs -/
theorem occ_count_run (l : List Nat) (c hi lim : Nat) : ∀ (m cur : Nat) (st : Array Nat × Nat), st.snd ≤ cur → st.fst.size + m ≤ lim →
    (forIn (List.range' cur m) st (occBody (tx l) ⟨#[c]⟩ hi lim)).run.fst.size = st.fst.size + (((l.take hi).drop cur).take m).count c
  | 0, cur, st, _, _ => by simp
  | m + 1, cur, st, h1, h2 => by
    rw [List.range'_succ, List.forIn_cons]
    unfold occBody
    have e : ((l.take hi).drop cur).take (m + 1) = ((l.take hi).drop cur).take 1 ++ ((l.take hi).drop (cur + 1)).take m := by
      rw [Nat.add_comm m 1, List.take_add, List.drop_drop]
    by_cases hc : cur < hi ∧ l[cur]? = some c
    · have hlt : cur < l.length := (List.getElem?_eq_some_iff.mp hc.2).1
      have h10 : ((l.take hi).drop cur).take 1 = [c] := by
        have : (l.take hi)[cur]? = some c := by rw [List.getElem?_take_of_lt hc.1]; exact hc.2
        exact eq_of_beq (take1_drop.mpr this)
      rw [if_pos ⟨⟨⟨by omega, h1⟩, by show cur + 1 ≤ hi; omega⟩, (subAt_tx l c cur).mpr hc.2⟩]
      refine (occ_count_run l c hi lim m (cur + 1) _ (Nat.le_refl _) (by simp only [Array.size_push]; omega)).trans ?_
      rw [e, h10]
      simp
      omega
    · have h10 : (((l.take hi).drop cur).take 1).count c = 0 := by
        rw [List.count_eq_zero]
        intro hm
        apply hc
        cases hq : (l.take hi).drop cur with
        | nil => rw [hq] at hm; simp at hm
        | cons d r =>
          rw [hq] at hm
          simp at hm
          subst hm
          have : (l.take hi)[cur]? = some c := by
            have := congrArg (·[0]?) hq
            simpa using this
          obtain ⟨hl, _⟩ := List.getElem?_eq_some_iff.mp this
          have hlt : cur < hi := by simp at hl; omega
          rw [List.getElem?_take_of_lt hlt] at this
          exact ⟨hlt, this⟩
      have hn : ¬ (((st.fst.size < lim ∧ st.snd ≤ cur) ∧ cur + (⟨#[c]⟩ : Str).length ≤ hi) ∧ subAt (tx l) ⟨#[c]⟩ cur = true) := fun q => hc ⟨by have := q.1.2; exact this, (subAt_tx l c cur).mp q.2⟩
      rw [if_neg hn]
      refine (occ_count_run l c hi lim m (cur + 1) _ (Nat.le_succ_of_le h1) (by show st.fst.size + m ≤ lim; omega)).trans ?_
      rw [e, List.count_append, h10]
      simp

theorem occ_count (l : List Nat) (c hi lim : Nat) (hl : hi + 1 ≤ lim) : (occurrences (tx l) ⟨#[c]⟩ 0 hi lim).length = (l.take hi).count c := by
  rw [occ_eq, Array.length_toList, occ_count_run l c hi lim (hi + 1 - 0) 0 _ (Nat.le_refl _) (by simp; omega)]
  simp
  congr 1
  rw [List.take_of_length_le]
  simp; omega

/-- the last place of one sign in the first hi signs -/
theorem last_tx (l : List Nat) (c hi : Nat) : (lastOccurrence (tx l) ⟨#[c]⟩ 0 hi = none ∧ c ∉ l.take hi) ∨
    ∃ a b, lastOccurrence (tx l) ⟨#[c]⟩ 0 hi = some a.length ∧ l.take hi = a ++ c :: b ∧ c ∉ b := by
  have hat : ∀ i, At (tx l) ⟨#[c]⟩ hi i ↔ (l.take hi)[i]? = some c := by
    intro i
    constructor
    · rintro ⟨h1, h2⟩
      have h1' : i + 1 ≤ hi := h1
      rw [List.getElem?_take_of_lt (by omega)]
      exact (subAt_tx l c i).mp h2
    · intro h
      obtain ⟨hl, _⟩ := List.getElem?_eq_some_iff.mp h
      have hlt : i < hi := by simp at hl; omega
      rw [List.getElem?_take_of_lt hlt] at h
      exact ⟨by show i + 1 ≤ hi; omega, (subAt_tx l c i).mpr h⟩
  rw [last_eq]
  have key := last_run (tx l) ⟨#[c]⟩ hi (List.range' 0 (hi + 1 - 0)) [] none (fun _ h => nomatch h) (fun _ h => nomatch h) (by simpa using List.pairwise_lt_range' (s := 0) (n := hi + 1 - 0))
  rw [List.nil_append] at key
  revert key
  generalize (forIn (List.range' 0 (hi + 1 - 0)) none (lastBody (tx l) ⟨#[c]⟩ hi)).run = r
  intro key
  cases r with
  | none =>
    left
    refine ⟨rfl, fun hm => ?_⟩
    obtain ⟨j, hj⟩ := List.getElem?_of_mem hm
    have h1 : ∀ i ∈ List.range' 0 (hi + 1 - 0), ¬ At (tx l) ⟨#[c]⟩ hi i := key
    obtain ⟨hl, _⟩ := List.getElem?_eq_some_iff.mp hj
    exact h1 j (by simp [List.mem_range'] at hl ⊢; omega) ((hat j).mpr hj)
  | some a =>
    right
    have h1 : At (tx l) ⟨#[c]⟩ hi a ∧ ∀ i ∈ List.range' 0 (hi + 1 - 0), a < i → ¬ At (tx l) ⟨#[c]⟩ hi i := key
    have h2 := (hat a).mp h1.1
    obtain ⟨hl, hc⟩ := List.getElem?_eq_some_iff.mp h2
    refine ⟨(l.take hi).take a, (l.take hi).drop (a + 1), ?_, ?_, ?_⟩
    · rw [List.length_take]; congr 1; omega
    · have := List.take_append_drop a (l.take hi)
      rw [List.drop_eq_getElem_cons hl, hc] at this
      exact this.symm
    · intro hm
      obtain ⟨j, hj⟩ := List.getElem?_of_mem hm
      rw [List.getElem?_drop] at hj
      obtain ⟨hl', _⟩ := List.getElem?_eq_some_iff.mp hj
      exact h1.2 (a + 1 + j) (by simp [List.mem_range'] at hl' ⊢; omega) (by omega) ((hat _).mpr hj)

/-- every \r is a \n -/
def crOne (c : Nat) : Nat := if c = 13 then 10 else c
theorem map_free : ∀ l : List Nat, 13 ∉ l → l.map crOne = l
  | [], _ => rfl
  | k :: r, h => by
    have h1 : ¬ k = 13 := fun e => h (e ▸ List.mem_cons_self ..)
    have h2 : 13 ∉ r := fun m => h (List.mem_cons_of_mem _ m)
    rw [List.map_cons, map_free r h2, crOne, if_neg h1]
theorem map_join : ∀ parts : List Str, (∀ p ∈ parts, 13 ∉ p.cps.toList) → (Str.join ⟨#[13]⟩ parts).cps.toList.map crOne = (Str.join ⟨#[10]⟩ parts).cps.toList
  | [], _ => rfl
  | [p], h => map_free _ (h p (List.mem_singleton.mpr rfl))
  | p :: q :: r, h => by
    have ih := map_join (q :: r) fun a ha => h a (List.mem_cons_of_mem _ ha)
    show (p ++ ⟨#[13]⟩ ++ Str.join ⟨#[13]⟩ (q :: r)).cps.toList.map crOne = (p ++ ⟨#[10]⟩ ++ Str.join ⟨#[10]⟩ (q :: r)).cps.toList
    simp only [Str.cps_append, Array.toList_append]
    rw [List.map_append, List.map_append, ih, map_free _ (h p (List.mem_cons_self ..))]
    rfl
theorem repl_one (l : List Nat) : Txt.replace (tx l) ⟨#[13]⟩ ⟨#[10]⟩ = tx (l.map crOne) := by
  apply Str.ext'
  apply Array.toList_inj.mp
  rw [replace_one, ← map_join _ (split_free (tx l) 13), join_split]

/-- every \r\n is a \n -/
def crlf : List Nat → List Nat
  | 13 :: 10 :: r => 10 :: crlf r
  | c :: r => c :: crlf r
  | [] => []

theorem crlf_cons {c : Nat} {r : List Nat} (h : ¬ (c = 13 ∧ r[0]? = some 10)) : crlf (c :: r) = c :: crlf r := by
  rw [crlf]
  rintro r' rfl rfl
  exact h ⟨rfl, rfl⟩
/-- a stretch that no \r\n begins in -/
theorem crlf_part : ∀ (p r : List Nat), (∀ i, i < p.length → ¬ ((p ++ r)[i]? = some 13 ∧ (p ++ r)[i + 1]? = some 10)) → crlf (p ++ r) = p ++ crlf r
  | [], _, _ => rfl
  | c :: p, r, h => by
    have h0 := h 0 (by simp)
    have : crlf (c :: (p ++ r)) = c :: crlf (p ++ r) := crlf_cons (by
      intro ⟨e1, e2⟩
      exact h0 ⟨by simp [e1], by simpa using e2⟩)
    rw [List.cons_append, this, crlf_part p r (fun i hi => by
      have := h (i + 1) (by simp; omega)
      simpa using this)]
    rfl

theorem subAt_two (l : List Nat) (i : Nat) : At (tx l) ⟨#[13, 10]⟩ (tx l).length i ↔ (l[i]? = some 13 ∧ l[i + 1]? = some 10) := by
  unfold At
  rw [subAt_eq]
  show i + 2 ≤ l.toArray.size ∧ ((l.drop i).take 2 == [13, 10]) = true ↔ _
  rw [beq_iff_eq, List.size_toArray]
  constructor
  · rintro ⟨_, h⟩
    have h0 := congrArg (·[0]?) h
    have h1 := congrArg (·[1]?) h
    simp [List.getElem?_take] at h0 h1
    exact ⟨h0, h1⟩
  · rintro ⟨h0, h1⟩
    obtain ⟨hl0, e0⟩ := List.getElem?_eq_some_iff.mp h0
    obtain ⟨hl1, e1⟩ := List.getElem?_eq_some_iff.mp h1
    refine ⟨by omega, ?_⟩
    rw [List.drop_eq_getElem_cons hl0, List.drop_eq_getElem_cons hl1, e0, e1]
    rfl

theorem join_crlf (l : List Nat) : ∀ (cuts : List Nat) (a f : Nat), ChainG (tx l) ⟨#[13, 10]⟩ (tx l).length a cuts f → (∀ k, f ≤ k → ¬ At (tx l) ⟨#[13, 10]⟩ (tx l).length k) → a ≤ l.length →
    (Str.join ⟨#[10]⟩ (partsFrom (tx l) 2 a cuts)).cps.toList = crlf (l.drop a)
  | [], a, f, h, hf, ha => by
    have e : f = a := h
    subst e
    show (strSub (tx l) f (tx l).length).cps.toList = _
    rw [strSub_toList]
    have e1 : ((tx l).cps.toList.drop f).take ((tx l).length - f) = l.drop f := by
      apply List.take_of_length_le
      show (l.drop f).length ≤ l.toArray.size - f
      simp
    rw [e1]
    have := crlf_part (l.drop f) [] (fun i hi => by
      rw [List.append_nil, List.getElem?_drop, List.getElem?_drop]
      exact fun q => hf (f + i) (by omega) ((subAt_two l (f + i)).mpr q))
    simp only [List.append_nil, crlf] at this
    exact this.symm
  | c :: r, a, f, h, hf, ha => by
    obtain ⟨h1, h2, h3, h4⟩ := h
    have h2' := (subAt_two l c).mp h2
    obtain ⟨hl0, e0⟩ := List.getElem?_eq_some_iff.mp h2'.1
    obtain ⟨hl1, e1⟩ := List.getElem?_eq_some_iff.mp h2'.2
    have h4' : ChainG (tx l) ⟨#[13, 10]⟩ (tx l).length (c + 2) r f := h4
    have ih := join_crlf l r (c + 2) f h4' hf (by omega)
    obtain ⟨p, q, e⟩ := partsFrom_ne (tx l) 2 (c + 2) r
    show (Str.join ⟨#[10]⟩ (strSub (tx l) a c :: partsFrom (tx l) 2 (c + 2) r)).cps.toList = _
    rw [e] at ih ⊢
    show (strSub (tx l) a c ++ ⟨#[10]⟩ ++ Str.join ⟨#[10]⟩ (p :: q)).cps.toList = _
    simp only [Str.cps_append, Array.toList_append]
    rw [ih, strSub_toList]
    have e2 : l.drop a = (l.drop a).take (c - a) ++ 13 :: 10 :: l.drop (c + 2) := by
      have t := List.take_append_drop (c - a) (l.drop a)
      rw [List.drop_drop, show a + (c - a) = c from by omega, List.drop_eq_getElem_cons hl0, List.drop_eq_getElem_cons hl1, e0, e1] at t
      exact t.symm
    have e3 : crlf (l.drop a) = (l.drop a).take (c - a) ++ crlf (13 :: 10 :: l.drop (c + 2)) := by
      have t := crlf_part ((l.drop a).take (c - a)) (13 :: 10 :: l.drop (c + 2)) (fun i hi => by
        rw [← e2, List.getElem?_drop, List.getElem?_drop]
        have hi' : i < c - a := by
          have := hi
          simp at this
          omega
        exact fun q => h3 (a + i) (by omega) (by omega) ((subAt_two l (a + i)).mpr q))
      rw [← e2] at t
      exact t
    rw [e3]
    simp [crlf]

theorem repl_two (l : List Nat) : Txt.replace (tx l) ⟨#[13, 10]⟩ ⟨#[10]⟩ = tx (crlf l) := by
  apply Str.ext'
  apply Array.toList_inj.mp
  show (Txt.replace (tx l) ⟨#[13, 10]⟩ ⟨#[10]⟩).cps.toList = crlf l
  obtain ⟨f, h1, h2⟩ := occ_tight (tx l) ⟨#[13, 10]⟩ (by decide)
  have key := join_crlf l _ 0 f h1 h2 (Nat.zero_le _)
  rw [List.drop_zero] at key
  unfold Txt.replace
  split
  · rename_i hc
    have hc' : (occurrences (tx l) ⟨#[13, 10]⟩ 0 (tx l).length ((tx l).length + 1)) = [] := by
      rcases Bool.or_eq_true_iff.mp hc with q | q
      · simpa using q
      · exact absurd q (by decide)
    rw [hc'] at key
    rw [← key]
    show _ = (strSub (tx l) 0 (tx l).length).cps.toList
    rw [sub_whole]
  · rw [glued_eq_join, partsBetween_eq]
    exact key

/-- the line ends as one sign each -/
def norm : List Nat → List Nat
  | 13 :: 10 :: r => 10 :: norm r
  | c :: r => crOne c :: norm r
  | [] => []
theorem norm_crlf : ∀ l : List Nat, (crlf l).map crOne = norm l
  | [] => rfl
  | c :: r => by
    by_cases h : c = 13 ∧ r[0]? = some 10
    · obtain ⟨rfl, h⟩ := h
      cases r with
      | nil => cases h
      | cons d r =>
        obtain rfl : d = 10 := by simpa using h
        show crOne 10 :: (crlf r).map crOne = 10 :: norm r
        rw [norm_crlf r]; rfl
    · rw [crlf_cons h, List.map_cons, norm_crlf r]
      symm
      rw [norm]
      rintro r' rfl rfl
      exact h ⟨rfl, rfl⟩
theorem replaced (l : List Nat) : Txt.replace (Txt.replace (tx l) ⟨#[13, 10]⟩ ⟨#[10]⟩) ⟨#[13]⟩ ⟨#[10]⟩ = tx (norm l) := by
  rw [repl_two, repl_one, norm_crlf]
end Mine
end
section
open PySem PySem.StrLaws PySem.Builtin PySem.Builtin.Str PyProof.Rows
set_option Elab.async false
namespace Mine

theorem tx_length (l : List Nat) : (tx l).length = l.length := by simp [Str.length]

theorem idx_clip (i j : Int) (n : Nat) (h0 : 0 ≤ i) (h1 : 0 ≤ j) : strSliceIndices (some i) (some j) 1 n = strSliceIndices (some (min i n)) (some (min j n)) 1 n := by
  have a : ¬ i < 0 := by omega
  have b : ¬ j < 0 := by omega
  have a' : ¬ min i (n : Int) < 0 := by omega
  have b' : ¬ min j (n : Int) < 0 := by omega
  have e1 : min (min i (n : Int)) (n : Int) = min i n := by omega
  have e2 : min (min j (n : Int)) (n : Int) = min j n := by omega
  unfold strSliceIndices
  simp only [a, b, a', b', if_false, e1, e2, show (1 : Int) > 0 by decide, if_true]

theorem slice_ss (l : List Nat) (i j : Int) (h0 : 0 ≤ i) (h1 : i ≤ j) : Txt.slice (tx l) (some i) (some j) = tx ((l.drop i.toNat).take (j - i).toNat) := by
  have e : Txt.slice (tx l) (some i) (some j) = sliceText (tx l) (some (min i (l.length : Int))) (some (min j (l.length : Int))) := by
    show sliceText (tx l) (some i) (some j) = _
    unfold sliceText
    rw [tx_length, idx_clip i j l.length h0 (by omega)]
  rw [e, sliceText_plain ⟨by omega, by omega, by simp; omega⟩]
  apply Str.ext'
  apply Array.toList_inj.mp
  show (l.drop (min i (l.length : Int)).toNat).take (min j (l.length : Int) - min i (l.length : Int)).toNat = (l.drop i.toNat).take (j - i).toNat
  by_cases hi : i ≤ l.length
  · have e1 : (min i (l.length : Int)).toNat = i.toNat := by omega
    rw [e1]
    by_cases hj : j ≤ l.length
    · congr 1; omega
    · rw [List.take_of_length_le, List.take_of_length_le]
      · simp; omega
      · simp; omega
  · rw [List.drop_of_length_le (by omega), List.drop_of_length_le (by omega)]
    simp
theorem slice_sn (l : List Nat) (i : Int) (h0 : 0 ≤ i) : Txt.slice (tx l) (some i) none = tx (l.drop i.toNat) := by
  have e : Txt.slice (tx l) (some i) none = Txt.slice (tx l) (some i) (some (max i (l.length : Int))) := by
    show sliceText (tx l) (some i) none = sliceText (tx l) (some i) (some (max i (l.length : Int)))
    unfold sliceText
    rw [sliceIdx_none_hi, tx_length, idx_clip i (l.length : Int) l.length h0 (by omega), idx_clip i (max i (l.length : Int)) l.length h0 (by omega)]
    have e1 : min (max i (l.length : Int)) (l.length : Int) = min (l.length : Int) (l.length : Int) := by omega
    rw [e1]
  rw [e, slice_ss l i _ h0 (by omega)]
  apply Str.ext'
  apply Array.toList_inj.mp
  show (l.drop i.toNat).take _ = l.drop i.toNat
  rw [List.take_of_length_le]
  simp; omega
theorem slice_ns (l : List Nat) (j : Int) (h0 : 0 ≤ j) : Txt.slice (tx l) none (some j) = tx (l.take j.toNat) := by
  have e : Txt.slice (tx l) none (some j) = Txt.slice (tx l) (some 0) (some j) := by
    show sliceText (tx l) none (some j) = sliceText (tx l) (some 0) (some j)
    unfold sliceText
    rw [sliceIdx_none_lo]
  rw [e, slice_ss l 0 j (Int.le_refl _) h0]
  simp
theorem slice_front (l : List Nat) (h : 1 ≤ l.length) : Txt.slice (tx l) none (some (-1)) = tx l.dropLast := by
  have e : Txt.slice (tx l) none (some (-1)) = Txt.slice (tx l) none (some ((l.length : Int) - 1)) := by
    show sliceText (tx l) none (some (-1)) = sliceText (tx l) none (some ((l.length : Int) - 1))
    rw [sliceText_neg_hi _ _ (by decide) (by rw [tx_length]; omega), tx_length]
    congr 2 <;> omega
  rw [e, slice_ns l _ (by omega), List.dropLast_eq_take, show ((l.length : Int) - 1).toNat = l.length - 1 by omega]
theorem slice_back (l : List Nat) : Txt.slice (tx l) (some (-1)) none = tx (l.drop (l.length - 1)) := by
  by_cases h : 1 ≤ l.length
  · have e : Txt.slice (tx l) (some (-1)) none = Txt.slice (tx l) (some ((l.length : Int) - 1)) none := by
      show sliceText (tx l) (some (-1)) none = sliceText (tx l) (some ((l.length : Int) - 1)) none
      rw [sliceText_neg_lo _ _ (by decide) (by rw [tx_length]; omega), tx_length]
      congr 2 <;> omega
    rw [e, slice_sn l _ (by omega), show ((l.length : Int) - 1).toNat = l.length - 1 by omega]
  · obtain rfl : l = [] := List.eq_nil_of_length_eq_zero (by omega)
    decide +kernel
theorem item_at (l : List Nat) (i : Int) (h0 : 0 ≤ i) (h1 : i < l.length) : Txt.item (tx l) i = tx [l.getD i.toNat 0] := by
  unfold Txt.item Txt.charAt
  rw [tx_length, seqIndex_nonneg h0 h1]
  simp
theorem item_last (l : List Nat) (h : 1 ≤ l.length) : Txt.item (tx l) (-1) = tx [l.getD (l.length - 1) 0] := by
  unfold Txt.item Txt.charAt
  rw [tx_length, StrLaws.seqIndex_neg (by decide) (by omega)]
  have e : (-1 + (l.length : Int)).toNat = l.length - 1 := by omega
  simp [e]
theorem tx_append (a b : List Nat) : tx a ++ tx b = tx (a ++ b) := by
  apply Str.ext'
  rw [Str.cps_append]
  simp
theorem tx_beq (a b : List Nat) : (tx a == tx b) = decide (a = b) := by
  rw [Bool.eq_iff_iff, beq_iff_eq, decide_eq_true_iff]
  constructor
  · intro h
    have := congrArg (fun x => x.cps.toList) h
    simpa using this
  · rintro rfl; rfl
theorem tx_bne (a b : List Nat) : (tx a != tx b) = !decide (a = b) := by
  unfold bne; rw [tx_beq]
end Mine
end
section
open PySem PySem.StrLaws PySem.Builtin PySem.Builtin.Str PyProof.Rows
set_option Elab.async false
namespace Mine

theorem sizeOk (n : Nat) (h : n ≤ 100000) : n ≤ sizeLine := by rw [sizeLine_eq]; omega

theorem gives_count4 (x y : Str) (i j : Int) (t u v v' : Tok) : Gives («str.count» ⟨[.str x t, .str y u, .int i v, .int j v'], []⟩) (.int (occurrences x y (fromIndex x.length i) (min (fromIndex x.length j) x.length) (x.length + 1)).length) := by
  show Gives (retInt (occurrences x y (fromIndex x.length i) (min (fromIndex x.length j) x.length) (x.length + 1)).length) _
  exact .of_eq rfl
theorem gives_rfind4 (x y : Str) (i j : Int) (t u v v' : Tok) : Gives («str.rfind» ⟨[.str x t, .str y u, .int i v, .int j v'], []⟩) (.int (match lastOccurrence x y (fromIndex x.length i) (min (fromIndex x.length j) x.length) with | some i => (i : Int) | none => -1)) := by
  show Gives (match lastOccurrence x y (fromIndex x.length i) (min (fromIndex x.length j) x.length) with | some i => retInt i | none => (do rule "str.rfind.not-found"; retInt (-1))) _
  cases lastOccurrence x y (fromIndex x.length i) (min (fromIndex x.length j) x.length) with
  | none => exact .rule (.of_eq rfl)
  | some i => exact .of_eq rfl

theorem from_zero (n : Nat) : fromIndex n 0 = 0 := by simp [fromIndex]
theorem from_nat (n : Nat) (j : Int) (h : 0 ≤ j) : fromIndex n j = j.toNat := by
  unfold fromIndex
  have a : ¬ j < 0 := by omega
  rw [if_neg a]
  congr 1
  omega

/-- the place of the last c before hi, or -1 -/
def lastAt (l : List Nat) (c : Nat) : Int := match lastOccurrence (tx l) ⟨#[c]⟩ 0 l.length with | some i => (i : Int) | none => -1

section
variable {prog : Program} {w : World} {A : Around} {E : Value → Shared → Prop} {s : Shared} {value slice : PySem.Expr} {l a b : List Nat} {t u v v' : Tok} {h₀ : Heap} {L : Addr} {m : Str → Option Value} {news : List (Addr × Obj)} {Q : Value → Shared → Prop} {i j : Int} {ui uj : Tok}

theorem r_slice_ss (hF : Fr h₀ L s.heap m) (hN : News h₀ L s.heap news) (h0 : 0 ≤ i) (h1 : i ≤ j) (hz : l.length ≤ 100000)
    (h : ∀ h' t' k, Fr h₀ L h' m → News h₀ L h' news → Q (.str (tx ((l.drop i.toNat).take (j - i).toNat)) t') { s with heap := h', toks := k })
    (hs : subscripted slice false (.str (tx l) t) (.ref s.heap.objs.size) = operate [.ref s.heap.objs.size, .str (tx l) t] (getItem (.str (tx l) t) (.ref s.heap.objs.size)) := by with_unfolding_all rfl)
    (ht : ∀ r, letTemporaryGo value (.str (tx l) t) r = pure () := by intro _; with_unfolding_all rfl) :
    wpAny (model prog w) A (subscriptTail value slice (.str (tx l) t) (.ref s.heap.objs.size)) Q E { s with heap := s.heap.push { cls := .type "slice", data := .fields #[.int i ui, .int j uj, .none] } } :=
  slice_strN_ss hF hN (fun h' t' k F N => by rw [slice_ss l i j h0 h1]; exact h h' t' k F N) hs ht (sizeOk _ (by rw [tx_length]; exact hz))
theorem r_slice_sn (hF : Fr h₀ L s.heap m) (hN : News h₀ L s.heap news) (h0 : 0 ≤ i) (hz : l.length ≤ 100000)
    (h : ∀ h' t' k, Fr h₀ L h' m → News h₀ L h' news → Q (.str (tx (l.drop i.toNat)) t') { s with heap := h', toks := k })
    (hs : subscripted slice false (.str (tx l) t) (.ref s.heap.objs.size) = operate [.ref s.heap.objs.size, .str (tx l) t] (getItem (.str (tx l) t) (.ref s.heap.objs.size)) := by with_unfolding_all rfl)
    (ht : ∀ r, letTemporaryGo value (.str (tx l) t) r = pure () := by intro _; with_unfolding_all rfl) :
    wpAny (model prog w) A (subscriptTail value slice (.str (tx l) t) (.ref s.heap.objs.size)) Q E { s with heap := s.heap.push { cls := .type "slice", data := .fields #[.int i ui, .none, .none] } } :=
  slice_strN_sn hF hN (fun h' t' k F N => by rw [slice_sn l i h0]; exact h h' t' k F N) hs ht (sizeOk _ (by rw [tx_length]; exact hz))
theorem r_slice_back (hF : Fr h₀ L s.heap m) (hN : News h₀ L s.heap news) (hz : l.length ≤ 100000)
    (h : ∀ h' t' k, Fr h₀ L h' m → News h₀ L h' news → Q (.str (tx (l.drop (l.length - 1))) t') { s with heap := h', toks := k })
    (hs : subscripted slice false (.str (tx l) t) (.ref s.heap.objs.size) = operate [.ref s.heap.objs.size, .str (tx l) t] (getItem (.str (tx l) t) (.ref s.heap.objs.size)) := by with_unfolding_all rfl)
    (ht : ∀ r, letTemporaryGo value (.str (tx l) t) r = pure () := by intro _; with_unfolding_all rfl) :
    wpAny (model prog w) A (subscriptTail value slice (.str (tx l) t) (.ref s.heap.objs.size)) Q E { s with heap := s.heap.push { cls := .type "slice", data := .fields #[.int (-1) ui, .none, .none] } } :=
  slice_strN_sn hF hN (fun h' t' k F N => by rw [slice_back l]; exact h h' t' k F N) hs ht (sizeOk _ (by rw [tx_length]; exact hz))
theorem r_slice_front (hF : Fr h₀ L s.heap m) (hN : News h₀ L s.heap news) (h1 : 1 ≤ l.length) (hz : l.length ≤ 100000)
    (h : ∀ h' t' k, Fr h₀ L h' m → News h₀ L h' news → Q (.str (tx l.dropLast) t') { s with heap := h', toks := k })
    (hs : subscripted slice false (.str (tx l) t) (.ref s.heap.objs.size) = operate [.ref s.heap.objs.size, .str (tx l) t] (getItem (.str (tx l) t) (.ref s.heap.objs.size)) := by with_unfolding_all rfl)
    (ht : ∀ r, letTemporaryGo value (.str (tx l) t) r = pure () := by intro _; with_unfolding_all rfl) :
    wpAny (model prog w) A (subscriptTail value slice (.str (tx l) t) (.ref s.heap.objs.size)) Q E { s with heap := s.heap.push { cls := .type "slice", data := .fields #[.none, .int (-1) uj, .none] } } :=
  slice_strN_ns hF hN (fun h' t' k F N => by rw [slice_front l h1]; exact h h' t' k F N) hs ht (sizeOk _ (by rw [tx_length]; exact hz))
theorem r_item (h0 : 0 ≤ i) (h1 : i < l.length) (hz : l.length ≤ 100000) (h : Q (.str (tx [l.getD i.toNat 0]) s.toks) { s with toks := s.toks + 1 })
    (hs : subscripted slice false (.str (tx l) t) (.int i u) = operate [.str (tx l) t, .int i u] (getItem (.str (tx l) t) (.int i u)) := by with_unfolding_all rfl)
    (ht : ∀ r, letTemporaryGo value (.str (tx l) t) r = pure () := by intro _; with_unfolding_all rfl) :
    wpAny (model prog w) A (subscriptTail value slice (.str (tx l) t) (.int i u)) Q E s :=
  item_str (fitsSsize_of (N := 9223372036854775808) (by omega) (by omega) (Int.le_refl _)) (by rw [tx_length]; omega) (by rw [tx_length]; omega) (fun _ => by rw [item_at l i h0 h1]; exact h) hs ht
theorem r_item_last (h1 : 1 ≤ l.length) (hz : l.length ≤ 100000) (h : Q (.str (tx [l.getD (l.length - 1) 0]) s.toks) { s with toks := s.toks + 1 })
    (hs : subscripted slice false (.str (tx l) t) (.int (-1) u) = operate [.str (tx l) t, .int (-1) u] (getItem (.str (tx l) t) (.int (-1) u)) := by with_unfolding_all rfl)
    (ht : ∀ r, letTemporaryGo value (.str (tx l) t) r = pure () := by intro _; with_unfolding_all rfl) :
    wpAny (model prog w) A (subscriptTail value slice (.str (tx l) t) (.int (-1) u)) Q E s :=
  item_str (fitsSsize_of (N := 9223372036854775808) (by omega) (by omega) (Int.le_refl _)) (by rw [tx_length]; omega) (by rw [tx_length]; omega) (fun _ => by rw [item_last l h1]; exact h) hs ht

theorem r_add (hz : a.length + b.length ≤ 100000) (h : ∀ t' k, Q (.str (tx (a ++ b)) t') { s with toks := k }) : wpAny (model prog w) A (binaryOp .Add (.str (tx a) t) (.str (tx b) u)) Q E s :=
  SB.add (fun t' k => by rw [tx_append]; exact h t' k) (sizeOk _ (by rw [tx_length, tx_length]; exact hz))
theorem r_iadd (hz : a.length + b.length ≤ 100000) (h : ∀ t' k, Q (.str (tx (a ++ b)) t') { s with toks := k }) : wpAny (model prog w) A (inplaceOp .Add (.str (tx a) t) (.str (tx b) u)) Q E s :=
  SB.iadd (fun t' k => by rw [tx_append]; exact h t' k) (sizeOk _ (by rw [tx_length, tx_length]; exact hz))
theorem r_eq (h : Q (.bool (decide (a = b))) s) : wpAny (model prog w) A (compareOp .Eq (.str (tx a) t) (.str (tx b) u)) Q E s :=
  PyProof.Rows.eq_str (by rw [tx_beq]; exact h)
theorem r_ne (h : Q (.bool (!decide (a = b))) s) : wpAny (model prog w) A (compareOp .NotEq (.str (tx a) t) (.str (tx b) u)) Q E s :=
  PyProof.Rows.ne_str (by rw [tx_bne]; exact h)
theorem r_len (hz : l.length ≤ 100000) (h : Q (.int l.length (s.toks + 1)) { s with toks := s.toks + 1 + 1 }) : wpAny (model prog w) A (call (.builtin "len") [.str (tx l) t]) Q E s :=
  PyProof.Rows.len_str (by rw [tx_length]; omega) (by rw [tx_length]; exact h)
theorem r_ord (c : Nat) (h : Q (.int c s.toks) { s with toks := s.toks + 1 }) : wpAny (model prog w) A (call (.builtin "ord") [.str (tx [c]) t]) Q E s := P.ord_of_char h
theorem r_truthy (hz : l.length ≤ 100000) {Q : Bool → Shared → Prop} (h : ∀ k, Q (decide (l ≠ [])) { s with toks := k }) : wpAny (model prog w) A (PySem.truthy (.str (tx l) t)) Q E s :=
  SBL.truthy (by rw [tx_length]; omega) (by
    have e : (((tx l).length : Int) != 0) = decide (l ≠ []) := by
      rw [tx_length]
      cases l with
      | nil => rfl
      | cons c r => simp; omega
    rw [e]; exact h _)
theorem r_truthy_yes (hz : l.length ≤ 100000) {Q : Bool → Shared → Prop} (hl : l ≠ []) (h : ∀ k, Q true { s with toks := k }) : wpAny (model prog w) A (PySem.truthy (.str (tx l) t)) Q E s := r_truthy hz fun k => by rw [decide_eq_true hl]; exact h k
theorem r_truthy_no {Q : Bool → Shared → Prop} (hl : l = []) (h : ∀ k, Q false { s with toks := k }) : wpAny (model prog w) A (PySem.truthy (.str (tx l) t)) Q E s := r_truthy (by rw [hl]; simp) fun k => by rw [decide_eq_false (fun q => q hl)]; exact h k
theorem r_count (hj : 0 ≤ j) (hj' : j ≤ l.length) (h : Q (.int ((l.take j.toNat).count 10) s.toks) { s with toks := s.toks + 1 }) :
    wpAny (model prog w) A (call (.builtin "str.count") [.str (tx l) t, .str (tx [10]) u, .int 0 v, .int j v']) Q E s :=
  call_gives F.slot_str_count (typeIs_str _ _ _) F.entry_str_count (F.args_str_count_4 _ _ _ _) (gives_count4 _ _ _ _ t u v v') (by
    rw [tx_length, from_zero, from_nat _ _ hj, Nat.min_eq_left (by omega), occ_count l 10 j.toNat (l.length + 1) (by omega)]
    exact h)
theorem lastAt_eq (hj : 0 ≤ j) (hj' : j ≤ l.length) : (match lastOccurrence (tx l) ⟨#[10]⟩ 0 j.toNat with | some i => (i : Int) | none => -1) = lastAt (l.take j.toNat) 10 := by
  have e : (l.take j.toNat).length = j.toNat := by rw [List.length_take]; omega
  unfold lastAt
  rw [e]
  rcases last_tx l 10 j.toNat with ⟨h1, h2⟩ | ⟨a, b, h1, h2, h3⟩
  · rw [h1]
    rcases last_tx (l.take j.toNat) 10 j.toNat with ⟨g1, g2⟩ | ⟨a', b', g1, g2, g3⟩
    · rw [g1]
    · exfalso
      rw [List.take_take, Nat.min_self] at g2
      exact h2 (by rw [g2]; simp)
  · rw [h1]
    rcases last_tx (l.take j.toNat) 10 j.toNat with ⟨g1, g2⟩ | ⟨a', b', g1, g2, g3⟩
    · exfalso
      rw [List.take_take, Nat.min_self] at g2
      exact g2 (by rw [h2]; simp)
    · rw [g1]
      rw [List.take_take, Nat.min_self, h2] at g2
      have : a.length = a'.length := by
        have hb : ∀ (p q p' q' : List Nat), p ++ 10 :: q = p' ++ 10 :: q' → 10 ∉ q → 10 ∉ q' → q.length = q'.length := by
          intro p q p' q' hh n1 n2
          have r := congrArg List.reverse hh
          simp at r
          have t1 := congrArg (fun z => (z.takeWhile (· ≠ 10)).length) r
          have tw : ∀ (z y : List Nat), 10 ∉ z → (z ++ 10 :: y).takeWhile (· ≠ 10) = z := by
            intro z y hz
            induction z with
            | nil => simp
            | cons c z ih =>
              have hc : c ≠ 10 := fun e => hz (by simp [e])
              simp [hc]
              simpa using ih (fun m => hz (by simp [m]))
          have s1 := tw q.reverse p.reverse (by simpa using n1)
          have s2 := tw q'.reverse p'.reverse (by simpa using n2)
          rw [s1, s2] at t1
          simpa using t1
        have hl := congrArg List.length g2
        simp at hl
        have := hb _ _ _ _ g2 h3 g3
        omega
      rw [this]
theorem r_rfind (hj : 0 ≤ j) (hj' : j ≤ l.length) (h : Q (.int (lastAt (l.take j.toNat) 10) s.toks) { s with toks := s.toks + 1 }) :
    wpAny (model prog w) A (call (.builtin "str.rfind") [.str (tx l) t, .str (tx [10]) u, .int 0 v, .int j v']) Q E s :=
  call_gives F.slot_str_rfind (typeIs_str _ _ _) F.entry_str_rfind (F.args_str_rfind_4 _ _ _ _) (gives_rfind4 _ _ _ _ t u v v') (by
    rw [tx_length, from_zero, from_nat _ _ hj, Nat.min_eq_left (by omega), lastAt_eq hj hj']
    exact h)
theorem r_repl1 (hu : @LT.lt Nat _ 0 u) (hv : @LT.lt Nat _ 0 v) (huv : @LT.lt Nat _ u v) (hz : l.length ≤ 100000) (h : ∀ t' k, Q (.str (Txt.replace (tx l) ⟨#[13, 10]⟩ ⟨#[10]⟩) t') { s with toks := k }) :
    wpAny (model prog w) A (call (.builtin "str.replace") [.str (tx l) t, .str (tx [13, 10]) u, .str (tx [10]) v]) Q E s :=
  SC.replaceW (Nat.ne_of_gt hu) (Nat.ne_of_gt hv) (Nat.ne_of_lt huv) (by decide) (by rw [tx_length]; omega) (by decide) h
theorem crlf_len : ∀ l : List Nat, (crlf l).length ≤ l.length
  | [] => Nat.le_refl _
  | c :: r => by
    have ih := crlf_len r
    by_cases h : c = 13 ∧ r[0]? = some 10
    · obtain ⟨rfl, h⟩ := h
      cases r with
      | nil => cases h
      | cons d r =>
        obtain rfl : d = 10 := by simpa using h
        have ih := crlf_len r
        show (crlf r).length + 1 ≤ r.length + 1 + 1
        omega
    · rw [crlf_cons h]
      simp; exact ih
theorem norm_len (l : List Nat) : (norm l).length ≤ l.length := by
  rw [← norm_crlf, List.length_map]; exact crlf_len l
theorem norm_le {l : List Nat} {n : Nat} (h : l.length ≤ n) : (norm l).length ≤ n := Nat.le_trans (norm_len l) h
theorem r_repl2 (hu : @LT.lt Nat _ 0 u) (hv : @LT.lt Nat _ 0 v) (huv : @LT.lt Nat _ u v) (hz : l.length ≤ 100000) (h : ∀ t' k, Q (.str (tx (norm l)) t') { s with toks := k }) :
    wpAny (model prog w) A (call (.builtin "str.replace") [.str (Txt.replace (tx l) ⟨#[13, 10]⟩ ⟨#[10]⟩) t, .str (tx [13]) u, .str (tx [10]) v]) Q E s := by
  rw [repl_two]
  refine SC.replaceW (Nat.ne_of_gt hu) (Nat.ne_of_gt hv) (Nat.ne_of_lt huv) (by decide) (by rw [tx_length]; have := crlf_len l; omega) (by decide) ?_
  intro t' k
  rw [← repl_two, replaced]
  exact h t' k
end
theorem lit_nl : Str.ofString "\n" = tx [10] := by decide +kernel
theorem lit_cr : Str.ofString "\r" = tx [13] := by decide +kernel
theorem lit_crnl : Str.ofString "\r\n" = tx [13, 10] := by decide +kernel
theorem lit_a : Str.ofString "a" = tx [97] := by decide +kernel
theorem lit_b : Str.ofString "é \x0c" = tx [233, 32, 12] := by decide +kernel
theorem lit_c : Str.ofString "ab<\u0085" = tx [97, 98, 60, 133] := by decide +kernel
theorem lit_d : Str.ofString "\t\x00cde" = tx [9, 0, 99, 100, 101] := by decide +kernel
theorem lit_e : Str.ofString "\x7f" = tx [127] := by decide +kernel
theorem lit_bad : Str.ofString "\x7f\u0085" = tx [127, 133] := by decide +kernel
theorem lit_empty : Str.ofString "" = tx [] := by decide +kernel
section
variable {M : Model} {A : Around} {E : Value → Shared → Prop} {s : Shared} {env : Env} {k : Nat} {pos : Pos} {Q : Value → Shared → Prop}
theorem r_nl (h : Q (.str (tx [10]) s.toks) { s with toks := s.toks + 1 }) : wpAny M A (eval (.Constant (.str (Str.ofString "\n")) k pos) env) Q E s := Calls.Constant_str (by rw [lit_nl]; exact h)
theorem r_cr (h : Q (.str (tx [13]) s.toks) { s with toks := s.toks + 1 }) : wpAny M A (eval (.Constant (.str (Str.ofString "\r")) k pos) env) Q E s := Calls.Constant_str (by rw [lit_cr]; exact h)
theorem r_crnl (h : Q (.str (tx [13, 10]) s.toks) { s with toks := s.toks + 1 }) : wpAny M A (eval (.Constant (.str (Str.ofString "\r\n")) k pos) env) Q E s := Calls.Constant_str (by rw [lit_crnl]; exact h)
theorem r_bad (h : Q (.str (tx [127, 133]) s.toks) { s with toks := s.toks + 1 }) : wpAny M A (eval (.Constant (.str (Str.ofString "\x7f\u0085")) k pos) env) Q E s := Calls.Constant_str (by rw [lit_bad]; exact h)
theorem r_empty (h : Q (.str (tx []) s.toks) { s with toks := s.toks + 1 }) : wpAny M A (eval (.Constant (.str (Str.ofString "")) k pos) env) Q E s := Calls.Constant_str (by rw [lit_empty]; exact h)
end
end Mine
end
section
open PySem PySem.W PyProof.Rows PySem.Calls
set_option Elab.async false
set_option maxRecDepth 100000
set_option maxHeartbeats 8000000
namespace Mine
abbrev Led := List (Addr × Obj)

abbrev ent (w : World) (n : Str) (k : Tok) (v : Value) : DictEntry := ⟨PyData.keyHash w.params n, .str n k, v⟩

/-- the faulty signs -/
def inv (c : Nat) : Bool := decide ((1 ≤ c ∧ c ≤ 8) ∨ c = 11 ∨ (14 ≤ c ∧ c ≤ 31) ∨ (127 ≤ c ∧ c ≤ 159))

/-- what the stream is, without its addresses and tokens -/
structure Vw where
  chunk : List Nat
  off : Nat
  pl : Nat
  pc : Nat
  buf : Bool
  text : List Nat
  place : Nat
  ne : Nat
/-- where it stands, and the tokens of its keys -/
structure SK where
  S : Addr
  D : Addr
  X : Addr
  TD : Addr
  ER : Addr
  RM : Addr
  NL : Addr
  k : Nat → Tok
  z : Tok
/-- the tokens of its values -/
structure Tk where
  a3 : Tok
  a4 : Tok
  a5 : Tok
  a7 : Tok
  a8 : Tok
  a9 : Tok
  b0 : Tok
  b1 : Tok
  errs : List Tok
  c : Nat

def bufV (b : Bool) (t : Tok) : Value := if b then .str (tx [13]) t else .none
abbrev errV (l : List Tok) : Array Value := (l.map fun t => Value.str (Str.ofString "invalid-codepoint") t).toArray

/-- the signs that a read of n takes -/
def Vw.part (v : Vw) (n : Nat) : List Nat := (v.text.drop v.place).take n
def Vw.data0 (v : Vw) (n : Nat) : List Nat := if v.buf then 13 :: v.part n else v.part n
def Vw.cut (v : Vw) (n : Nat) : Bool := decide (1 < (v.data0 n).length ∧ (v.data0 n).getD ((v.data0 n).length - 1) 0 = 13)
def Vw.data1 (v : Vw) (n : Nat) : List Nat := if v.cut n then (v.data0 n).dropLast else v.data0 n

abbrev sD (w : World) (K : SK) (chunk : List Nat) (a3 : Tok) (cs : Int) (a4 : Tok) (off : Int) (a5 : Tok) (pl : Int) (a7 : Tok) (pc : Int) (a8 : Tok) (bv : Value) : Obj :=
  dictOf [ent w (Str.ofString "reportCharacterErrors") (K.k 0) (.ref K.RM), ent w (Str.ofString "newLines") (K.k 1) (.ref K.NL), ent w (Str.ofString "dataStream") (K.k 2) (.ref K.X),
    ent w (Str.ofString "chunk") (K.k 3) (.str (tx chunk) a3), ent w (Str.ofString "chunkSize") (K.k 4) (.int cs a4), ent w (Str.ofString "chunkOffset") (K.k 5) (.int off a5), ent w (Str.ofString "errors") (K.k 6) (.ref K.ER),
    ent w (Str.ofString "prevNumLines") (K.k 7) (.int pl a7), ent w (Str.ofString "prevNumCols") (K.k 8) (.int pc a8), ent w (Str.ofString "_bufferedCharacter") (K.k 9) bv] 10
/-- the data stream's dict -/
abbrev tD (w : World) (K : SK) (text : List Nat) (b0 : Tok) (place : Int) (b1 : Tok) : Obj :=
  dictOf [ent w (Str.ofString "text") (K.k 10) (.str (tx text) b0), ent w (Str.ofString "place") (K.k 11) (.int place b1)] 2
/-- the stream in the ledger -/
abbrev sLed (w : World) (K : SK) (v : Vw) (t : Tk) : Led :=
  [(K.ER, PySem.W.listOf (errV t.errs) t.c), (K.X, instObj 38 K.TD), (K.TD, tD w K v.text t.b0 v.place t.b1), (K.NL, PySem.W.listOf #[.int 0 K.z] 0), (K.RM, methodObj (.ref 113) (.ref K.S)), (K.S, instObj 131 K.D),
    (K.D, sD w K v.chunk t.a3 v.chunk.length t.a4 v.off t.a5 v.pl t.a7 v.pc t.a8 (bufV v.buf t.a9))]
/-- the addresses in their order -/
def SK.Ok (K : SK) : Prop := @LT.lt Nat _ K.D K.S ∧ @LT.lt Nat _ K.S K.RM ∧ @LT.lt Nat _ K.RM K.NL ∧ @LT.lt Nat _ K.NL K.TD ∧ @LT.lt Nat _ K.TD K.X ∧ @LT.lt Nat _ K.X K.ER

/-- two places of the stream that are not one -/
inductive Apart (K : SK) : Addr → Addr → Prop
  | c0 : Apart K K.S K.D
  | c1 : Apart K K.RM K.D
  | c2 : Apart K K.NL K.D
  | c3 : Apart K K.TD K.D
  | c4 : Apart K K.X K.D
  | c5 : Apart K K.ER K.D
  | c6 : Apart K K.D K.TD
  | c7 : Apart K K.S K.TD
  | c8 : Apart K K.RM K.TD
  | c9 : Apart K K.NL K.TD
  | c10 : Apart K K.X K.TD
  | c11 : Apart K K.ER K.TD
  | c12 : Apart K K.D K.ER
  | c13 : Apart K K.S K.ER
  | c14 : Apart K K.RM K.ER
  | c15 : Apart K K.NL K.ER
  | c16 : Apart K K.TD K.ER
  | c17 : Apart K K.X K.ER
theorem Apart.ne {K : SK} {a b : Addr} (h : K.Ok) (p : Apart K a b) : a ≠ b := by
  obtain ⟨k1, k2, k3, k4, k5, k6⟩ := h
  cases p <;> (refine neN ?_; omega)
/-- the column behind the signs l, from column pc -/
def colFrom (pc : Nat) (l : List Nat) : Nat := if 10 ∈ l then (l.reverse.takeWhile (· ≠ 10)).length else pc + l.length
theorem tw_free : ∀ (z y : List Nat), 10 ∉ z → (z ++ 10 :: y).takeWhile (· ≠ 10) = z := by
  intro z y hz
  induction z with
  | nil => simp
  | cons c z ih =>
    have hc : c ≠ 10 := fun e => hz (by simp [e])
    simp [hc]
    simpa using ih (fun m => hz (by simp [m]))
theorem colFrom_split (pc : Nat) (a b : List Nat) (h : 10 ∉ b) : colFrom pc (a ++ 10 :: b) = b.length := by
  unfold colFrom
  rw [if_pos (by simp)]
  have e : (a ++ 10 :: b).reverse = b.reverse ++ 10 :: a.reverse := by simp
  rw [e, tw_free _ _ (by simpa using h)]
  simp
theorem lastAt_spec (l : List Nat) : (lastAt l 10 = -1 ∧ 10 ∉ l) ∨ ∃ a b, l = a ++ 10 :: b ∧ 10 ∉ b ∧ lastAt l 10 = a.length := by
  unfold lastAt
  rcases last_tx l 10 l.length with ⟨h1, h2⟩ | ⟨a, b, h1, h2, h3⟩
  · left
    rw [h1]
    rw [List.take_length] at h2
    exact ⟨rfl, h2⟩
  · right
    rw [List.take_length] at h2
    rw [h1]
    exact ⟨a, b, h2, h3, rfl⟩
/-- the stream behind readChunk(n) -/
def Vw.rd (v : Vw) (n : Nat) : Vw :=
  { chunk := norm (v.data1 n), off := 0, pl := v.pl + v.chunk.count 10, pc := colFrom v.pc v.chunk, buf := v.cut n, text := v.text, place := v.place + (v.part n).length, ne := v.ne + (v.data1 n).countP inv }
/-- the stream behind readChunk(n) where nothing is left -/
def Vw.rdEnd (v : Vw) : Vw := { v with chunk := [], off := 0, pl := v.pl + v.chunk.count 10, pc := colFrom v.pc v.chunk }
/-- what is left of the chunk -/
def Vw.ahead (v : Vw) : List Nat := v.chunk.drop v.off
/-- what keeps the stream's sizes small -/
structure Vw.Ok (v : Vw) : Prop where
  text : v.text.length ≤ 1000
  place : v.place ≤ v.text.length
  chunk : v.chunk.length ≤ 1001
  off : v.off ≤ v.chunk.length
  ne : v.ne + (if v.buf then 1 else 0) ≤ v.place
  code : ∀ c ∈ v.text, c < 256
/-- how much is left to read -/
def Vw.left (v : Vw) : Nat := (v.text.length - v.place) + (if v.buf then 1 else 0)
/-- charsUntil(('\n',)): the text that it gives, the stream behind it -/
inductive Cu : Vw → List Nat → Vw → Prop
  | hit (v : Vw) (h : 10 ∈ v.ahead) : Cu v (v.ahead.takeWhile (· ≠ 10)) { v with off := v.off + (v.ahead.takeWhile (· ≠ 10)).length }
  | more (v : Vw) (h : 10 ∉ v.ahead) (hd : v.data0 10240 ≠ []) (l : List Nat) (v' : Vw) (hr : Cu (v.rd 10240) l v') : Cu v (v.ahead ++ l) v'
  | stop (v : Vw) (h : 10 ∉ v.ahead) (hd : v.data0 10240 = []) : Cu v v.ahead v.rdEnd
theorem data0_len (v : Vw) (n : Nat) : (v.data0 n).length = (v.part n).length + (if v.buf then 1 else 0) := by
  unfold Vw.data0
  split <;> simp
theorem part_len (v : Vw) (n : Nat) : (v.part n).length = min n (v.text.length - v.place) := by
  unfold Vw.part; rw [List.length_take, List.length_drop]
theorem data1_len (v : Vw) (n : Nat) : (v.data1 n).length + (if v.cut n then 1 else 0) = (v.data0 n).length := by
  unfold Vw.data1
  by_cases h : v.cut n = true
  · rw [if_pos h, if_pos h, List.length_dropLast]
    have : 1 < (v.data0 n).length := by
      unfold Vw.cut at h
      exact (of_decide_eq_true h).1
    omega
  · rw [if_neg h, if_neg h]; rfl
theorem Vw.Ok.rd {v : Vw} (k : v.Ok) (n : Nat) : (v.rd n).Ok := by
  have h1 := data1_len v n
  have h2 := data0_len v n
  have h3 := part_len v n
  have h4 := norm_len (v.data1 n)
  have h5 := List.countP_le_length (p := inv) (l := v.data1 n)
  have h6 := k.ne
  have h7 := k.text
  have h8 := k.place
  refine ⟨k.text, ?_, ?_, ?_, ?_, k.code⟩
  · show v.place + (v.part n).length ≤ v.text.length
    omega
  · show (norm (v.data1 n)).length ≤ 1001
    split at h2 <;> omega
  · exact Nat.zero_le _
  · show v.ne + (v.data1 n).countP inv + (if v.cut n then 1 else 0) ≤ v.place + (v.part n).length
    omega
theorem Vw.Ok.rdEnd {v : Vw} (k : v.Ok) : v.rdEnd.Ok := ⟨k.text, k.place, Nat.zero_le _, Nat.zero_le _, k.ne, k.code⟩
theorem left_rd {v : Vw} (k : v.Ok) (hd : v.data0 10240 ≠ []) : (v.rd 10240).left < v.left := by
  have h2 := data0_len v 10240
  have h3 := part_len v 10240
  have h7 := k.text
  have h8 := k.place
  have h9 : 1 ≤ (v.data0 10240).length := by
    cases hq : v.data0 10240 with
    | nil => exact absurd hq hd
    | cons _ _ => simp
  have hc : v.cut 10240 = true → 1 < (v.data0 10240).length := fun h => by
    unfold Vw.cut at h
    exact (of_decide_eq_true h).1
  show (v.text.length - (v.place + (v.part 10240).length)) + (if v.cut 10240 then 1 else 0) < (v.text.length - v.place) + (if v.buf then 1 else 0)
  by_cases h : v.cut 10240 = true
  · have := hc h
    rw [if_pos h]
    omega
  · rw [if_neg h]
    omega
theorem cu_exists : ∀ (n : Nat) (v : Vw), v.Ok → v.left < n → ∃ l v', Cu v l v' := by
  intro n
  induction n with
  | zero => intro v _ h; exact absurd h (Nat.not_lt_zero _)
  | succ n ih =>
    intro v k h
    by_cases h10 : 10 ∈ v.ahead
    · exact ⟨_, _, .hit v h10⟩
    · by_cases hd : v.data0 10240 = []
      · exact ⟨_, _, .stop v h10 hd⟩
      · obtain ⟨l, v', hc⟩ := ih (v.rd 10240) (k.rd _) (by have := left_rd k hd; omega)
        exact ⟨_, _, .more v h10 hd l v' hc⟩
theorem col_none (pc : Nat) (l : List Nat) (h : lastAt l 10 = -1) : (colFrom pc l : Int) = pc + l.length := by
  rcases lastAt_spec l with ⟨_, h2⟩ | ⟨a, b, h1, h2, h3⟩
  · unfold colFrom; rw [if_neg h2]; simp
  · omega
theorem col_some (pc : Nat) (l : List Nat) (h : lastAt l 10 ≠ -1) : (colFrom pc l : Int) = l.length - (lastAt l 10 + 1) := by
  rcases lastAt_spec l with ⟨h1, _⟩ | ⟨a, b, h1, h2, h3⟩
  · exact absurd h1 h
  · rw [h3, h1, colFrom_split pc a b h2]
    simp
    omega
theorem lastAt_lo (l : List Nat) : -1 ≤ lastAt l 10 ∧ lastAt l 10 < l.length := by
  rcases lastAt_spec l with ⟨h1, _⟩ | ⟨a, b, h1, h2, h3⟩
  · omega
  · rw [h3, h1]; simp; omega

theorem ne_of_allLt {d : Addr} : ∀ {l : Led}, AllLt d l → ∀ p ∈ l, p.1 ≠ d := by
  intro l
  induction l with
  | nil => intro _ p hp; cases hp
  | cons q r ih =>
    intro h p hp
    cases hp with
    | head => exact Nat.ne_of_lt h.1
    | tail _ hm => exact ih h.2 p hm

theorem close_bool {Q : Value → Shared → Prop} {b b' : Bool} {s : Shared} (h : Q (.bool b) s) (e : b' = b) : Q (.bool b') s := e ▸ h
theorem news_tail {h₀ h : Heap} {L : Addr} {p : Addr × Obj} {r : Led} (N : News h₀ L h (p :: r)) : News h₀ L h r := fun q hq => N q (List.mem_cons_of_mem _ hq)
theorem news_sub {h₀ h : Heap} {L : Addr} {l r : Led} (N : News h₀ L h l) (hs : ∀ p ∈ r, p ∈ l) : News h₀ L h r := fun q hq => N q (hs q hq)
abbrev tup2 (a : Int) (t : Tok) (b : Int) (u : Tok) : Obj := { cls := .type "tuple", data := .seq #[.int a t, .int b u] }
theorem news_tup2 {h₀ h : Heap} {L T : Addr} {a a' b b' : Int} {t u : Tok} {r : Led} (N : News h₀ L h ((T, tup2 a t b u) :: r)) (ea : a = a') (eb : b = b') : News h₀ L h ((T, tup2 a' t b' u) :: r) := by
  subst ea eb; exact N
theorem allLt_all {d : Addr} : ∀ {l : Led}, AllLt d l → ∀ p ∈ l, p.1 < d := by
  intro l
  induction l with
  | nil => intro _ p hp; cases hp
  | cons q r ih =>
    intro h p hp
    cases hp with
    | head => exact h.1
    | tail _ hm => exact ih h.2 p hm
theorem news_drop2 {h₀ h : Heap} {L : Addr} {p q : Addr × Obj} {r : Led} (N : News h₀ L h (p :: q :: r)) : News h₀ L h (p :: r) := news_sub N (by simp_all)
theorem sled_in {w : World} {K : SK} {h₀ h : Heap} {L : Addr} {rest : Led} {ev : Array Value} {c : Nat} {text chunk : List Nat} {place cs off pl pc : Int} {b0 b1 a3 a4 a5 a7 a8 a9 : Tok} {bv : Value} {v : Vw} {errs : List Tok}
    (N : News h₀ L h ((K.ER, PySem.W.listOf ev c) :: (K.X, instObj 38 K.TD) :: (K.TD, tD w K text b0 place b1) :: (K.NL, PySem.W.listOf #[.int 0 K.z] 0) :: (K.RM, methodObj (.ref 113) (.ref K.S)) :: (K.S, instObj 131 K.D) :: (K.D, sD w K chunk a3 cs a4 off a5 pl a7 pc a8 bv) :: rest))
    (e1 : ev = errV errs) (e2 : place = v.place) (e3 : chunk = v.chunk) (e4 : cs = v.chunk.length) (e5 : off = v.off) (e6 : pl = v.pl) (e7 : pc = v.pc) (e8 : bv = bufV v.buf a9) (e9 : text = v.text) :
    News h₀ L h (sLed w K v ⟨a3, a4, a5, a7, a8, a9, b0, b1, errs, c⟩ ++ rest) := by
  subst e1 e2 e3 e4 e5 e6 e7 e8 e9
  exact N
theorem close_val {Q : Value → Shared → Prop} {b b' : Value} {s : Shared} (h : Q b s) (e : b' = b) : Q b' s := e ▸ h
theorem getD_all {l : List Nat} {i : Nat} (h : ∀ c ∈ l, c < 256) : l.getD i 0 < 256 := by
  rw [List.getD_eq_getElem?_getD]
  cases hq : l[i]? with
  | none => simp
  | some c => exact h c (List.mem_of_getElem? hq)
theorem buf_cut {l : List Nat} {i : Nat} {t : Tok} (h : ((l.getD i 0 : Nat) : Int) = 13) : Value.str (tx [l.getD i 0]) t = bufV true t := by
  have e : l.getD i 0 = 13 := by omega
  rw [e]; rfl
theorem buf_no {t : Tok} : Value.none = bufV false t := rfl
theorem no_far {c : Nat} (hc : c < 256) : ([65534, 65535].any fun (x : Int) => x == Int.fmod (c : Int) 65536) = false := by
  have e : Int.fmod (c : Int) 65536 = c := by rw [Int.fmod_eq_emod_of_nonneg _ (by decide)]; omega
  rw [e]
  simp
  omega

end Mine
end
section
open PySem PySem.W PyProof.Rows PySem.Calls PyProof.V PySem.Spec
set_option Elab.async false
set_option maxRecDepth 100000
namespace Mine
section
variable {prog : Program} {w : World} {A : Around} {E : Value → Shared → Prop} {s : Shared} {env : Env} {h₀ : Heap} {x : PySem.Str} {body : List Stmt} {Q : Flow → Shared → Prop}

/-- a loop over a text's signs, by what holds between the turns -/
theorem iter_tx {l : List Nat} {tl : Tok} {m₀ : Str → Option Value} {news : Led} (J : Nat → (Str → Option Value) → Led → Prop)
    (hh : A.handled = none) (F : Fr h₀ env.locals s.heap m₀) (N : News h₀ env.locals s.heap news) (hj : J 0 m₀ news)
    (turn : ∀ i c t m₁ nx h tk own, l[i]? = some c → nx.map (·.1) = news.map (·.1) → OwnOff own (news.map (·.1)) → J i m₁ nx → Fr h₀ env.locals h (fun y => if y = x then some (.str (tx [c]) t) else m₁ y) → News h₀ env.locals h (nx ++ own) →
      wpAny (model prog w) A (execs body env) (InvPostN h₀ env.locals (J (i + 1)) own (news.map (·.1)) { s with heap := h, toks := tk } Q) E { s with heap := h, toks := tk })
    (done : ∀ m₁ nx h tk, J l.length m₁ nx → Fr h₀ env.locals h m₁ → News h₀ env.locals h nx → Q .next { s with heap := h, toks := tk }) :
    wpAny (model prog w) A (pyIter (.str (tx l) tl)) (fun it s₂ => LoopAtV prog w A h₀ env x body Q E it s₂) E s := by
  refine wpAny_pyIter_str fun o St hW hst => ?_
  have W := hW A hh
  refine loop_invN J W ?_ ?_ ?_ ?_ hst (F.push _) (fun p hp => ⟨Heap.get?_push_of_some _ (N p hp).1, (N p hp).2⟩) hj ?_ ?_
  · intro hm
    exact absurd F.ns.lt ((List.mem_singleton.mp hm) ▸ Nat.lt_irrefl _)
  · intro b' hb
    rw [List.mem_singleton.mp hb]
    exact next_is_new F
  · intro p hp hI
    exact absurd (Heap.lt_size (N p hp).1) ((List.mem_singleton.mp hI) ▸ Nat.lt_irrefl _)
  · intro p hp hI
    exact absurd (Heap.lt_size (N p hp).1) ((List.mem_singleton.mp hI) ▸ Nat.lt_irrefl _)
  · rintro i v m₁ nx h tk own hi ⟨n, u, hn, rfl⟩ hadr hoff hJ F₁ N₁
    exact turn i n u m₁ nx h tk own (by simpa using hn) hadr hoff hJ F₁ N₁
  · intro m₁ nx h tk hJ F₁ N₁
    have e : (tx l).cps.size = l.length := by simp
    rw [e] at hJ
    exact done m₁ nx h tk hJ F₁ N₁
end
section
variable {prog : Program} {w : World} {A : Around} {E : Value → Shared → Prop} {s : Shared} {env : Env} {h₀ : Heap} {L : Addr} {test : PySem.Expr} {body orelse : List Stmt} {Q : Flow → Shared → Prop}
/-- a while by what holds between the turns, and a measure -/
theorem while_inv {σ : Type} (J : σ → (Str → Option Value) → Led → Prop) (μ : σ → Nat) (hE : PassesOwn (model prog w) A env E)
    (turn : ∀ c m nx h tk, J c m nx → Fr h₀ L h m → News h₀ L h nx →
      (∀ c' m' nx' h' tk', μ c' < μ c → J c' m' nx' → Fr h₀ L h' m' → News h₀ L h' nx' → WhlRest prog w A E env test body orelse Q 0 { s with heap := h', toks := tk' }) →
      wpAny (model prog w) A (isTrue test env (eval test env)) (fun b s₂ => WhlIf b (wpAny (model prog w) A (execs body env) (WhlPost prog w A E env test body orelse Q 0) E s₂) (wpAny (model prog w) A (execs orelse env) Q E s₂)) E { s with heap := h, toks := tk }) :
    ∀ c m nx h tk, J c m nx → Fr h₀ L h m → News h₀ L h nx → WhlRest prog w A E env test body orelse Q 0 { s with heap := h, toks := tk } := by
  have all : ∀ n c m nx h tk, μ c < n → J c m nx → Fr h₀ L h m → News h₀ L h nx → WhlRest prog w A E env test body orelse Q 0 { s with heap := h, toks := tk } := by
    intro n
    induction n with
    | zero => intro c m nx h tk hlt; exact absurd hlt (Nat.not_lt_zero _)
    | succ n ih =>
      intro c m nx h tk hlt hJ hF hN
      exact whl_turn (k := 0) hE (turn c m nx h tk hJ hF hN fun c' m' nx' h' tk' hlt' hJ' hF' hN' => ih c' m' nx' h' tk' (Nat.lt_of_lt_of_le hlt' (Nat.le_of_lt_succ hlt)) hJ' hF' hN')
  exact fun c m nx h tk hJ hF hN => all (μ c + 1) c m nx h tk (Nat.lt_succ_self _) hJ hF hN
end
/-- a name whose value is known may stand ahead -/
theorem fr_known {h₀ h : Heap} {L : Addr} {m : Str → Option Value} (y : Str) {v : Value} (F : Fr h₀ L h m) (e : m y = some v) : Fr h₀ L h (fun z => if z = y then some v else m z) := by
  have q : (fun z => if z = y then some v else m z) = m := by
    funext z
    by_cases hz : z = y
    · subst hz; simp [e]
    · simp [hz]
  rw [q]; exact F
theorem end_in {h₀ h' : Heap} {L : Addr} {J : (Str → Option Value) → Led → Prop} {m' : Str → Option Value} {nx own : Led} {adr : List Addr} {s₁ : Shared} {tk : Nat} (F : Fr h₀ L h' m') (N : News h₀ L h' (nx ++ own)) (hj : J m' nx) (ha : nx.map (·.1) = adr) :
    InvEndN h₀ L J own adr s₁ { s₁ with heap := h', toks := tk } :=
  InvEndN.intro F N hj ha (fun _ hp => List.mem_append_left _ hp) (fun _ hp => List.mem_append_right _ hp)
theorem errV_push (l : List Tok) (t : Tok) : (errV l).push (.str (Str.ofString "invalid-codepoint") t) = errV (l ++ [t]) := by simp
/-- the parts that charsUntil has laid by -/
abbrev accV (acc : List (List Nat × Tok)) : Array Value := (acc.map fun p => Value.str (tx p.1) p.2).toArray
def accT (acc : List (List Nat × Tok)) : List Nat := (acc.map (·.1)).flatten
theorem accV_push (acc : List (List Nat × Tok)) (x : List Nat) (t : Tok) : (accV acc).push (.str (tx x) t) = accV (acc ++ [(x, t)]) := by simp
theorem accT_snoc (acc : List (List Nat × Tok)) (x : List Nat) (t : Tok) : accT (acc ++ [(x, t)]) = accT acc ++ x := by simp [accT]
theorem off_of {own : Led} {adr : List Addr} {b : Addr} (h : OwnOff own adr) (hb : b ∈ adr) : ∀ p ∈ own, p.1 ≠ b := h.ne hb
theorem off_append {r own : Led} {b : Addr} (h1 : ∀ p ∈ r, p.1 ≠ b) (h2 : ∀ p ∈ own, p.1 ≠ b) : ∀ p ∈ r ++ own, p.1 ≠ b := fun p hp => (List.mem_append.mp hp).elim (h1 p) (h2 p)
end Mine
namespace Mine
section
variable {α : Type} {M : Model} {A : Around} {t : Sem α} {Q : α → Shared → Prop} {E : Value → Shared → Prop} {s : Shared}
theorem room3 {dp a b c : Nat} (h : dp + c < recursionLimit) (e : a + b ≤ c) : dp + a + b < recursionLimit := by omega
theorem room2 {dp b c : Nat} (h : dp + c < recursionLimit) (e : b ≤ c) : dp + b < recursionLimit := by omega
end
end Mine
end
section
open PySem PySem.W PyProof.Rows PySem.Calls PyProof.V PySem.Spec
set_option Elab.async false
set_option maxRecDepth 100000
namespace Mine
theorem noBool_method : typeLookup (.type "method") "__bool__" = pure none := by rw [typeLookup_type, builtinLookup_eq_fast]; kernel_rfl
theorem noLen_method : typeLookup (.type "method") "__len__" = pure none := by rw [typeLookup_type, builtinLookup_eq_fast]; kernel_rfl
theorem truthy_method {prog : Program} {w : World} {A : Around} {E : Value → Shared → Prop} {s : Shared} {a : Addr} {f self : Value} {Q : Bool → Shared → Prop} {h₀ : Heap} {L : Addr} {news : Led}
    (N : News h₀ L s.heap news) (hm : (a, methodObj f self) ∈ news) (h : Q true s) : wpAny (model prog w) A (truthy (.ref a)) Q E s := by
  have hT : s.TypeIs (.ref a) "method" := ⟨_, N.get hm, rfl⟩
  unfold truthy
  refine wpAny_bind (wpAny_callSpecial?_none (name := Str.ofString "__bool__") hT noBool_method ?_)
  refine wpAny_bind (wpAny_specialOf (name := Str.ofString "__len__") hT noLen_method ?_)
  exact wpAny_pure h
section
variable {α : Type} {M : Model} {A : Around} {t : Sem α} {Q : α → Shared → Prop} {E : Value → Shared → Prop} {s : Shared}
theorem toks_in (n : Nat) (hn : n ≤ s.toks) (h : wpAny M A t (fun a s' => n ≤ s'.toks → Q a s') (fun e s' => n ≤ s'.toks → E e s') s) : wpAny M A t Q E s :=
  wpAny_mono (wpAny_toks_of hn h) (fun _ _ h => h.2 h.1) (fun _ _ h => h.2 h.1)
theorem gen_toks {h : Heap} {g d o} {X : Nat} (hX : 1 ≤ X) (H : ∀ tk, 1 ≤ tk → wpAny M A t Q E ⟨h, g, d, tk, o⟩) : wpAny M A t Q E ⟨h, g, d, X, o⟩ := H X hX
theorem gen_toks1 {h : Heap} {g d o} {X : Nat} (H : ∀ tk, 1 ≤ tk → wpAny M A t Q E ⟨h, g, d, tk, o⟩) : wpAny M A t Q E ⟨h, g, d, X + 1, o⟩ := H _ (Nat.le_add_left 1 X)
end
end Mine
end
section
open PySem PySem.W PyProof.Rows PySem.Calls PyProof.V PySem.Spec
set_option Elab.async false
set_option maxRecDepth 100000
namespace Mine
section
variable {prog : Program} {w : World} {A : Around} {E : Value → Shared → Prop} {s : Shared} {h₀ : Heap} {L : Addr} {news : Led} {Q : Value → Shared → Prop}
theorem r_in1 {CH : Addr} {c : Nat} {tc u : Tok} (N : News h₀ L s.heap news) (hm : (CH, ({ cls := .type "tuple", data := .seq #[.str (tx [10]) tc] } : Obj)) ∈ news) (h : Q (.bool (decide (c = 10))) s) :
    wpAny (model prog w) A (compareOp .In (.str (tx [c]) u) (.ref CH)) Q E s :=
  in_tuple_strs (items := #[.str (tx [10]) tc]) (ys := [tx [10]]) (News.isTup N hm) (.cons _ _ .nil) (by
    have e : [tx [10]].any (· == tx [c]) = decide (c = 10) := by
      simp only [List.any_cons, List.any_nil, Bool.or_false, tx_beq]
      rw [decide_eq_decide]
      constructor
      · intro h; injection h with h; exact h.symm
      · rintro rfl; rfl
    rw [e]; exact h)
section
variable {env : Env} {x : PySem.Str} {body : List Stmt} {Q : Flow → Shared → Prop}
/-- a loop over range(n), by what holds between the turns -/
theorem iter_rng {r : Addr} {b : Int} {t₀ u₀ v₀ : Tok} {m₀ : Str → Option Value} {news : Led} (n : Nat) (J : Nat → (Str → Option Value) → Led → Prop)
    (hh : A.handled = none) (hr : IsRange s.heap r 0 b 1 t₀ u₀ v₀) (hb : b = n) (hn : n ≤ 100000) (F : Fr h₀ env.locals s.heap m₀) (N : News h₀ env.locals s.heap news) (hj : J 0 m₀ news)
    (turn : ∀ i t m₁ nx h tk own, i < n → nx.map (·.1) = news.map (·.1) → OwnOff own (news.map (·.1)) → J i m₁ nx → Fr h₀ env.locals h (fun y => if y = x then some (.int (i : Int) t) else m₁ y) → News h₀ env.locals h (nx ++ own) →
      wpAny (model prog w) A (execs body env) (InvPostN h₀ env.locals (J (i + 1)) own (news.map (·.1)) { s with heap := h, toks := tk } Q) E { s with heap := h, toks := tk })
    (done : ∀ m₁ nx h tk, J n m₁ nx → Fr h₀ env.locals h m₁ → News h₀ env.locals h nx → Q .next { s with heap := h, toks := tk }) :
    wpAny (model prog w) A (pyIter (.ref r)) (fun it s₂ => LoopAtV prog w A h₀ env x body Q E it s₂) E s := by
  subst hb
  have hsz : Builtin.Range.rangeSize 0 (n : Int) 1 = (n : Int) := by rw [rangeSize_nat]; omega
  refine wpAny_pyIter_range hr (small_one (by decide) (by decide) (by omega) (by omega)) ?_
  have W : Walks prog w A s.heap.objs.size [s.heap.objs.size] [s.heap.objs.size] n (fun i v => i < n ∧ ∃ t, v = .int (0 + i * 1) t)
      (fun i h => IsRangeIter h s.heap.objs.size (0 + (i : Nat) * 1) ((n : Int) - (i : Nat)) 1) := (Walks.range hh _ 0 1 n).bound
  refine loop_invN J W ?_ ?_ ?_ ?_ (by show IsRangeIter _ _ _ _ _; rw [hsz]; simpa using Heap.get?_push_size _ rfl) (F.push _) (fun p hp => ⟨Heap.get?_push_of_some _ (N p hp).1, (N p hp).2⟩) hj ?_ ?_
  · intro hm
    exact absurd F.ns.lt ((List.mem_singleton.mp hm) ▸ Nat.lt_irrefl _)
  · intro b' hb
    rw [List.mem_singleton.mp hb]
    exact next_is_new F
  · intro p hp hI
    exact absurd (Heap.lt_size (N p hp).1) ((List.mem_singleton.mp hI) ▸ Nat.lt_irrefl _)
  · intro p hp hI
    exact absurd (Heap.lt_size (N p hp).1) ((List.mem_singleton.mp hI) ▸ Nat.lt_irrefl _)
  · rintro i v m₁ nx h tk own hi ⟨_, t, rfl⟩ hadr hoff hJ F₁ N₁
    have e : (0 : Int) + (i : Int) * 1 = i := by omega
    rw [e] at F₁
    exact turn i t m₁ nx h tk own hi hadr hoff hJ F₁ N₁
  · exact done
end
theorem accV_strs : ∀ acc : List (List Nat × Tok), StrsAre (accV acc).toList (acc.map fun p => tx p.1)
  | [] => .nil
  | (l, t) :: r => .cons _ _ (accV_strs r)
theorem join_acc : ∀ acc : List (List Nat × Tok), Str.join (tx []) (acc.map fun p => tx p.1) = tx (accT acc)
  | [] => rfl
  | [(l, t)] => by simp [accT, Str.join]
  | (l, t) :: (l', t') :: r => by
    show tx l ++ tx [] ++ Str.join (tx []) (tx l' :: r.map fun p => tx p.1) = _
    have ih := join_acc ((l', t') :: r)
    rw [List.map_cons] at ih
    rw [ih, tx_append, tx_append]
    simp [accT]
theorem acc_sum (acc : List (List Nat × Tok)) : ((acc.map fun p => tx p.1).map (·.length)).sum = (accT acc).length := by
  induction acc with
  | nil => rfl
  | cons p r ih =>
    simp only [List.map_cons, List.sum_cons, ih, tx_length]
    simp [accT]
theorem r_join {acc : List (List Nat × Tok)} {ev : Array Value} {D : Addr} {c : Nat} {u : Tok} (e : ev = accV acc) (N : News h₀ L s.heap news) (hm : (D, PySem.W.listOf ev c) ∈ news) (hz : (accT acc).length + acc.length ≤ 1000000)
    (h : ∀ t' k, Q (.str (tx (accT acc)) t') { s with toks := k }) : wpAny (model prog w) A (call (.builtin "str.join") [.str (tx []) u, .ref D]) Q E s := by
  subst e
  refine join_listW (News.isList N hm) (accV_strs acc) (by decide) (by rw [acc_sum]; simp; omega) ?_
  intro t' k
  rw [show Txt.join (tx []) (acc.map fun p => tx p.1) = Str.join (tx []) (acc.map fun p => tx p.1) from StrLaws.glued_eq_join _ _, join_acc]
  exact h t' k
end
theorem buf_full {v : Vw} {n : Nat} (hb : v.buf = true) : v.data0 n ≠ [] := by unfold Vw.data0; rw [if_pos hb]; simp
theorem nobuf_part {v : Vw} {n : Nat} (hb : v.buf = false) : v.data0 n = v.part n := by unfold Vw.data0; rw [hb]; rfl
def kOf : List Tok → Nat → Tok
  | [], _ => 0
  | a :: _, 0 => a
  | _ :: r, n + 1 => kOf r n
/-- the law's own reckoning of a read: what is taken, where it is cut, the signs before that -/
def fT (text : List Nat) (taken size : Nat) : Nat := min (taken + size) text.length
def fS (text : List Nat) (start taken size : Nat) : Nat := if text.getD (fT text taken size - 1) 0 = 13 ∧ start < fT text taken size - 1 then fT text taken size - 1 else fT text taken size
def isSign (text : List Nat) (i : Nat) : Bool := decide (text.getD i 0 ≠ 10 ∨ i = 0 ∨ text.getD (i - 1) 0 ≠ 13)
def signs (text : List Nat) (n : Nat) : Nat := (List.range n).countP (isSign text)
theorem signs_succ (text : List Nat) (n : Nat) : signs text (n + 1) = signs text n + if isSign text n then 1 else 0 := by
  unfold signs
  rw [List.range_succ, List.countP_append]
  simp
theorem sign_yes1 {text : List Nat} {i : Nat} (h : ¬ [text.getD (i : Int).toNat 0] = [10]) : isSign text i = true := by
  unfold isSign
  rw [decide_eq_true_eq]
  exact Or.inl (fun e => h (by rw [show (i : Int).toNat = i by omega, e]))
theorem sign_yes2 {text : List Nat} {i : Nat} (h : (i : Int) = 0) : isSign text i = true := by
  unfold isSign
  rw [decide_eq_true_eq]
  exact Or.inr (Or.inl (by omega))
theorem sign_yes3 {text : List Nat} {i : Nat} (h : ¬ [text.getD ((i : Int) - 1).toNat 0] = [13]) : isSign text i = true := by
  unfold isSign
  rw [decide_eq_true_eq]
  exact Or.inr (Or.inr (fun e => h (by rw [show ((i : Int) - 1).toNat = i - 1 by omega, e])))
theorem sign_no {text : List Nat} {i : Nat} (h1 : [text.getD (i : Int).toNat 0] = [10]) (h2 : (i : Int) ≠ 0) (h3 : [text.getD ((i : Int) - 1).toNat 0] = [13]) : isSign text i = false := by
  unfold isSign
  rw [show (i : Int).toNat = i by omega] at h1
  rw [show ((i : Int) - 1).toNat = i - 1 by omega] at h3
  simp only [List.cons.injEq, and_true] at h1 h3
  rw [h1, h3]
  simp
  omega
theorem signs_yes {text : List Nat} {i : Nat} (h : isSign text i = true) : ((signs text (i + 1) : Nat) : Int) = (signs text i : Int) + 1 := by
  rw [signs_succ, if_pos h]; rfl
theorem signs_no {text : List Nat} {i : Nat} (h : isSign text i = false) : signs text (i + 1) = signs text i := by
  rw [signs_succ, h]; rfl
theorem ahead_at (v : Vw) (i : Nat) (h : v.off ≤ i) : v.ahead.getD (i - v.off) 0 = v.chunk.getD i 0 := by
  unfold Vw.ahead
  rw [List.getD_eq_getElem?_getD, List.getD_eq_getElem?_getD, List.getElem?_drop, show v.off + (i - v.off) = i by omega]
theorem tw_first : ∀ (l : List Nat) (k : Nat), k < l.length → l.getD k 0 = 10 → (∀ i, i < k → l.getD i 0 ≠ 10) → 10 ∈ l ∧ l.takeWhile (· ≠ 10) = l.take k
  | [], k, h, _, _ => by simp at h
  | c :: r, 0, _, h, _ => by
    have : c = 10 := by simpa using h
    subst this
    simp
  | c :: r, k + 1, h1, h2, h3 => by
    have hc : c ≠ 10 := by simpa using h3 0 (by omega)
    have ih := tw_first r k (by simpa using h1) (by simpa using h2) (fun i hi => by simpa using h3 (i + 1) (by omega))
    refine ⟨List.mem_cons_of_mem _ ih.1, ?_⟩
    rw [List.takeWhile_cons, if_pos (by simpa using hc), ih.2]
    rfl
theorem ahead_hit (v : Vw) (e : Nat) (h1 : v.off ≤ e) (h2 : e < v.chunk.length) (h3 : ∀ i, v.off ≤ i → i < e → v.chunk.getD i 0 ≠ 10) (h4 : v.chunk.getD e 0 = 10) :
    10 ∈ v.ahead ∧ v.ahead.takeWhile (· ≠ 10) = (v.chunk.drop v.off).take (e - v.off) :=
  tw_first v.ahead (e - v.off) (by unfold Vw.ahead; rw [List.length_drop]; omega) (by rw [ahead_at v e h1]; exact h4)
    (fun i hi => by have := h3 (v.off + i) (by omega) (by omega); rwa [← ahead_at v (v.off + i) (by omega), show v.off + i - v.off = i by omega] at this)
theorem ahead_miss (v : Vw) (h3 : ∀ i, v.off ≤ i → i < v.chunk.length → v.chunk.getD i 0 ≠ 10) : 10 ∉ v.ahead := by
  intro hm
  obtain ⟨j, hj⟩ := List.getElem?_of_mem hm
  unfold Vw.ahead at hj
  rw [List.getElem?_drop] at hj
  obtain ⟨hl, _⟩ := List.getElem?_eq_some_iff.mp hj
  exact h3 (v.off + j) (by omega) hl (by rw [List.getD_eq_getElem?_getD, hj]; rfl)
theorem cu_hit {v v' : Vw} {l : List Nat} (h : Cu v l v') (h10 : 10 ∈ v.ahead) : l = v.ahead.takeWhile (· ≠ 10) ∧ v' = { v with off := v.off + (v.ahead.takeWhile (· ≠ 10)).length } := by
  cases h with
  | hit _ _ => exact ⟨rfl, rfl⟩
  | more _ hn _ _ _ => exact absurd h10 hn
  | stop _ hn _ => exact absurd h10 hn
theorem cu_more {v v' : Vw} {l : List Nat} (h : Cu v l v') (h10 : 10 ∉ v.ahead) (hd : v.data0 10240 ≠ []) : ∃ l', l = v.ahead ++ l' ∧ Cu (v.rd 10240) l' v' := by
  cases h with
  | hit _ hn => exact absurd hn h10
  | more _ _ _ l' _ hr => exact ⟨l', rfl, hr⟩
  | stop _ _ he => exact absurd he hd
theorem cu_stop {v v' : Vw} {l : List Nat} (h : Cu v l v') (h10 : 10 ∉ v.ahead) (hd : v.data0 10240 = []) : l = v.ahead ∧ v' = v.rdEnd := by
  cases h with
  | hit _ hn => exact absurd hn h10
  | more _ _ he _ _ => exact absurd hd he
  | stop _ _ _ => exact ⟨rfl, rfl⟩
theorem news_drop8 {h₀ h : Heap} {L : Addr} {p a1 a2 a3 a4 a5 a6 a7 : Addr × Obj} {r : Led} (N : News h₀ L h (a1 :: a2 :: a3 :: a4 :: a5 :: a6 :: a7 :: p :: r)) : News h₀ L h (a1 :: a2 :: a3 :: a4 :: a5 :: a6 :: a7 :: r) :=
  news_sub N (by intro q hq; simp only [List.mem_cons] at hq ⊢; rcases hq with h | h | h | h | h | h | h | h <;> simp [h])
theorem news_back7 {h₀ h : Heap} {L : Addr} {p a1 a2 a3 a4 a5 a6 a7 : Addr × Obj} {r : Led} (N : News h₀ L h (a1 :: a2 :: a3 :: a4 :: a5 :: a6 :: a7 :: p :: r)) : News h₀ L h (p :: a1 :: a2 :: a3 :: a4 :: a5 :: a6 :: a7 :: r) :=
  news_sub N (by intro q hq; simp only [List.mem_cons] at hq ⊢; rcases hq with h | h | h | h | h | h | h | h | h <;> simp [h])
theorem news_rot7 {h₀ h : Heap} {L : Addr} {p a1 a2 a3 a4 a5 a6 a7 : Addr × Obj} {r : Led} (N : News h₀ L h (p :: a1 :: a2 :: a3 :: a4 :: a5 :: a6 :: a7 :: r)) : News h₀ L h (a1 :: a2 :: a3 :: a4 :: a5 :: a6 :: a7 :: p :: r) :=
  news_sub N (by intro q hq; simp only [List.mem_cons] at hq ⊢; rcases hq with h | h | h | h | h | h | h | h | h <;> simp [h])
end Mine
end
section
open PySem PySem.W PyProof.Rows PySem.Calls
set_option maxRecDepth 100000
namespace Mine
/-- what the loop's own keeping does not touch, but for the list that is walked -/
def OwnBut (own : Led) (l : Addr) (adr : List Addr) : Prop := ∀ p ∈ own, ∀ b ∈ adr, b ≠ l → p.1 ≠ b
theorem but_of {own : Led} {l : Addr} {adr : List Addr} {b : Addr} (h : OwnBut own l adr) (hb : b ∈ adr) (hl : b ≠ l) : ∀ p ∈ own, p.1 ≠ b := fun p hp => h p hp b hb hl
section
variable {prog : Program} {w : World} {A : Around} {E : Value → Shared → Prop} {s : Shared} {env : Env} {h₀ : Heap} {body : List Stmt} {Q : Flow → Shared → Prop}
theorem iter_list {x : Str} {l : Addr} {vs : List Value} {c : Nat} {m₀ : Str → Option Value} {news : Led} (J : Nat → (Str → Option Value) → Led → Prop)
    (hh : A.handled = none) (hm : (l, PySem.W.listOf vs.toArray c) ∈ news) (F : Fr h₀ env.locals s.heap m₀) (N : News h₀ env.locals s.heap news) (hj : J 0 m₀ news)
    (turn : ∀ i v m₁ nx h tk own, vs[i]? = some v → nx.map (·.1) = news.map (·.1) → OwnBut own l (news.map (·.1)) → J i m₁ nx → Fr h₀ env.locals h (fun y => if y = x then some v else m₁ y) → News h₀ env.locals h (nx ++ own) →
      wpAny (model prog w) A (execs body env) (InvPostN h₀ env.locals (J (i + 1)) own (news.map (·.1)) { s with heap := h, toks := tk } Q) E { s with heap := h, toks := tk })
    (done : ∀ m₁ nx h tk, J vs.length m₁ nx → Fr h₀ env.locals h m₁ → News h₀ env.locals h nx → Q .next { s with heap := h, toks := tk }) :
    wpAny (model prog w) A (pyIter (.ref l)) (fun it s₂ => LoopAtV prog w A h₀ env x body Q E it s₂) E s := by
  have hls : s.heap.IsList l vs.toArray := News.isList N hm
  have hlt : l < s.heap.objs.size := Heap.lt_size (N _ hm).1
  have hlL : l ≠ env.locals := (N _ hm).2.1
  refine wpAny_pyIter_list hls ?_
  have W := Walks.list (prog := prog) (w := w) hh s.heap.objs.size l (Nat.ne_of_lt hlt) vs.toArray
  have hlen : vs.toArray.size = vs.length := by simp
  rw [hlen] at W
  refine ⟨_, _, _, vs.length, _, _, m₀, news, fun i m₁ nx => nx.map (·.1) = news.map (·.1) ∧ J i m₁ nx, rfl, W, ?_, ?_, ?_, ⟨⟨_, Heap.get?_push_size _ rfl, rfl, rfl⟩, hls.at fun o e => Heap.get?_push_of_some _ e⟩, F.push _, (fun p hp => ⟨Heap.get?_push_of_some _ (N p hp).1, (N p hp).2⟩), ⟨rfl, hj⟩, ?_, ?_⟩
  · intro hm'
    rcases List.mem_cons.mp hm' with e | hm'
    · exact absurd F.ns.lt (e ▸ Nat.lt_irrefl _)
    · exact hlL (List.mem_singleton.mp hm').symm
  · intro b' hb
    rw [List.mem_singleton.mp hb]
    exact next_is_new F
  · intro p hp hI
    exact absurd (Heap.lt_size (N p hp).1) ((List.mem_singleton.mp hI) ▸ Nat.lt_irrefl _)
  · rintro i v m₁ nx s₁ own ⟨hh', tk', rfl⟩ hin hP ⟨hadr, hJ⟩ hoff hown _ _ _ F₁ N₁
    have hsep : OwnBut own l (news.map (·.1)) := by
      intro p hp b hb hbl e
      obtain ⟨q, hq, rfl⟩ := List.mem_map.mp hb
      rcases List.mem_cons.mp (hown p hp) with h | h
      · exact absurd (Heap.lt_size (N q hq).1) (by rw [← e, h]; exact Nat.lt_irrefl _)
      · exact hbl (e ▸ List.mem_singleton.mp h)
    have N₂ : News h₀ env.locals hh' (nx ++ own) := fun p hp => N₁ p ((List.mem_append.mp hp).elim (fun h => List.mem_append.mpr (.inr h)) fun h => List.mem_append.mpr (.inl h))
    refine wpAny_mono (turn i v m₁ nx hh' tk' own (by simpa using hP) hadr hsep hJ F₁ N₂) (fun f s₂ p => ?_) fun _ _ e => e
    have fin : InvEndN h₀ env.locals (J (i + 1)) own (news.map (·.1)) { s with heap := hh', toks := tk' } s₂ → LoopStepU h₀ env.locals [s.heap.objs.size] own (fun m₁ nx => nx.map (·.1) = news.map (·.1) ∧ J (i + 1) m₁ nx) { s with heap := hh', toks := tk' } .next s₂ := by
      rintro ⟨h', tk, m', news', nx', e, F', N', hn, ho, ha, hm'⟩
      refine ⟨rfl, h', tk, m', nx', e, F', fun p hp => N' p ((List.mem_append.mp hp).elim (ho p) (hn p)), fun p hp hq => ?_, ha, hm'⟩
      have h1 : p.1 ∈ nx'.map (·.1) := List.mem_map.mpr ⟨p, hp, rfl⟩
      rw [ha] at h1
      obtain ⟨q, hq1, hq2⟩ := List.mem_map.mp h1
      exact absurd (Heap.lt_size (N q hq1).1) (by rw [hq2, List.mem_singleton.mp hq]; exact Nat.lt_irrefl _)
    cases f with
    | ret v => exact .ret p
    | brk => exact .brk p
    | next => exact .next (fin p)
    | cont => exact .cont (fin p)
  · rintro h' tk m' news' F' N' _ ⟨_, hJ⟩
    exact done m' news' h' tk hJ F' N'
theorem iter_enum {xi xc : Str} {l : Addr} {vs : List Value} {c : Nat} {m₀ : Str → Option Value} {news : Led} (J : Nat → (Str → Option Value) → Led → Prop)
    (hh : A.handled = none) (hm : (l, PySem.W.listOf vs.toArray c) ∈ news) (F : Fr h₀ env.locals s.heap m₀) (N : News h₀ env.locals s.heap news) (hj : J 0 m₀ news)
    (turn : ∀ i v t m₁ nx h tk own, vs[i]? = some v → nx.map (·.1) = news.map (·.1) → OwnBut own l (news.map (·.1)) → J i m₁ nx → Fr h₀ env.locals h (fun y => if y = xc then some v else if y = xi then some (.int (i : Int) t) else m₁ y) → News h₀ env.locals h (nx ++ own) →
      wpAny (model prog w) A (execs body env) (InvPostN h₀ env.locals (J (i + 1)) own (news.map (·.1)) { s with heap := h, toks := tk } Q) E { s with heap := h, toks := tk })
    (done : ∀ m₁ nx h tk, J vs.length m₁ nx → Fr h₀ env.locals h m₁ → News h₀ env.locals h nx → Q .next { s with heap := h, toks := tk }) :
    wpAny (model prog w) A (call (.type "enumerate") [.ref l]) (fun xv s₁ => wpAny (model prog w) A (pyIter xv) (fun it s₂ => PairAt3 prog w A h₀ env xi xc body Q E it s₂) E s₁) E s := by
  have hls : s.heap.IsList l vs.toArray := News.isList N hm
  have hlt : l < s.heap.objs.size := Heap.lt_size (N _ hm).1
  have hlL : l ≠ env.locals := (N _ hm).2.1
  have hLs : env.locals < s.heap.objs.size := F.ns.lt
  have hab : h₀.objs.size ≤ env.locals := F.above
  refine call_enumerate_list hls fun h' he hit hsz hk => ?_
  have F' : Fr h₀ env.locals h' m₀ := ⟨F.ns.keeps hk, fun b o e => hk b o (F.keep b o e), F.above⟩
  have N' : News h₀ env.locals h' news := fun p hp => ⟨hk _ _ (N p hp).1, (N p hp).2⟩
  refine wpAny_pyIter_enum he ?_
  have W := WalksT.enumerate (prog := prog) (w := w) (A := A) hh (s.heap.objs.size + 1) s.heap.objs.size l (Nat.succ_ne_self _) (Nat.ne_of_lt (Nat.lt_succ_of_lt hlt)) (Nat.ne_of_lt hlt) vs.toArray
  have hlen : vs.toArray.size = vs.length := by simp
  rw [hlen] at W
  refine ⟨_, _, _, vs.length, _, _, _, (fun i v0 v1 => ∃ t, v0 = .int (i : Int) t ∧ vs[i]? = some v1), m₀, news, J, rfl, W, ?_, ?_, ?_, ?_, ⟨⟨_, he⟩, hit, hls.at fun o e => hk l o e⟩, F', N', hj, ?_, ?_⟩
  · rintro i vals ⟨t, y, hy, rfl⟩
    exact ⟨_, _, rfl, t, rfl, by simpa using hy⟩
  · intro hm'
    rcases List.mem_cons.mp hm' with e | hm'
    · exact Nat.ne_of_lt (Nat.lt_succ_of_lt hLs) e
    rcases List.mem_cons.mp hm' with e | hm'
    · exact Nat.ne_of_lt hLs e
    · exact hlL (List.mem_singleton.mp hm').symm
  · intro b hb
    rcases List.mem_cons.mp hb with rfl | hb
    · exact Heap.get?_none_of_le (Nat.le_trans hab (Nat.le_of_lt (Nat.lt_succ_of_lt hLs)))
    · rw [List.mem_singleton.mp hb]; exact Heap.get?_none_of_le (Nat.le_trans hab (Nat.le_of_lt hLs))
  · intro p hp hb
    have hp1 : p.1 < s.heap.objs.size := Heap.lt_size (N p hp).1
    rcases List.mem_cons.mp hb with e | hb
    · exact Nat.ne_of_lt (Nat.lt_succ_of_lt hp1) e
    · exact Nat.ne_of_lt hp1 (List.mem_singleton.mp hb)
  · rintro i v0 v1 m₁ nx s₁ own ⟨hh', tk', rfl⟩ hin ⟨t, rfl, hv⟩ hJ hadr hown F₁ N₁
    have hsep : OwnBut own l (news.map (·.1)) := by
      intro p hp b hb hbl e
      obtain ⟨q, hq, rfl⟩ := List.mem_map.mp hb
      have hq1 : q.1 < s.heap.objs.size := Heap.lt_size (N q hq).1
      rcases List.mem_cons.mp (hown p hp) with h | h
      · exact Nat.ne_of_gt (Nat.lt_succ_of_lt hq1) (h.symm.trans e)
      rcases List.mem_cons.mp h with h | h
      · exact Nat.ne_of_gt hq1 (h.symm.trans e)
      · exact hbl (e ▸ List.mem_singleton.mp h)
    have N₂ : News h₀ env.locals hh' (nx ++ own) := fun p hp => N₁ p ((List.mem_append.mp hp).elim (fun h => List.mem_append.mpr (.inr h)) fun h => List.mem_append.mpr (.inl h))
    refine wpAny_mono (turn i v1 t m₁ nx hh' tk' own hv hadr hsep hJ F₁ N₂) (fun f s₂ p => ?_) fun _ _ e => e
    have fin : InvEndN h₀ env.locals (J (i + 1)) own (news.map (·.1)) { s with heap := hh', toks := tk' } s₂ → LoopStep2 h₀ env.locals own nx (J (i + 1)) { s with heap := hh', toks := tk' } .next s₂ := by
      rintro ⟨h', tk, m', news', nx', e, F', N', hn, ho, ha, hm'⟩
      exact ⟨rfl, h', tk, m', nx', e, F', fun p hp => N' p ((List.mem_append.mp hp).elim (ho p) (hn p)), ha.trans hadr.symm, hm'⟩
    cases f with
    | ret v => exact p
    | brk => exact p
    | next => exact fin p
    | cont => exact fin p
  · rintro h' tk m' news' F' N' _ hJ
    exact done m' news' h' tk hJ F' N'
end
/-- what holds behind a loop, however it ends -/
inductive CutQ (h₀ : Heap) (L : Addr) (P : (Str → Option Value) → Led → Prop) (s : Shared) : Flow → Shared → Prop
  | mk (m : Str → Option Value) (nx : Led) (h : Heap) (tk : Nat) (hP : P m nx) (F : Fr h₀ L h m) (N : News h₀ L h nx) : CutQ h₀ L P s .next { s with heap := h, toks := tk }
/-- a statement by what holds behind it -/
theorem stmt_cut {M : Model} {A : Around} {E : Value → Shared → Prop} {s : Shared} {h₀ : Heap} {L : Addr} {t : Sem Flow} {Q : Flow → Shared → Prop} {m : Str → Option Value} {nx : Led} (P : (Str → Option Value) → Led → Prop) (_F : Fr h₀ L s.heap m) (_N : News h₀ L s.heap nx)
    (walk : wpAny M A t (CutQ h₀ L P s) E s) (fin : ∀ m nx h tk, P m nx → Fr h₀ L h m → News h₀ L h nx → Q .next { s with heap := h, toks := tk }) : wpAny M A t Q E s :=
  wpAny_mono walk (fun f s' p => by cases p with | mk m nx h tk hP F N => exact fin m nx h tk hP F N) fun _ _ e => e
end Mine
end
section
open PySem PySem.W PyProof.Rows PySem.Calls PySem.Builtin PySem.Builtin.Str
set_option maxRecDepth 100000
namespace Mine
/-- a line that the law may take: its signs are few, all apart, and no line ends -/
structure Good (x : List Nat) : Prop where
  nl : 10 ∉ x
  cr : 13 ∉ x
  len : x.length ≤ 5
  apart : x.Nodup
  code : ∀ c ∈ x, c < 256
  bad : ∀ c ∈ x, inv c = decide (c = 127 ∨ c = 133)
def IsEnd (e : List Nat) : Prop := e = [10] ∨ e = [13] ∨ e = [13, 10]
theorem IsEnd.len {e : List Nat} (h : IsEnd e) : 1 ≤ e.length ∧ e.length ≤ 2 := by rcases h with rfl | rfl | rfl <;> simp
abbrev addrOf {h : Heap} {a : Addr} {v : Array Value} (_ : h.IsList a v) : Addr := a
section
variable {prog : Program} {w : World} {A : Around} {E : Value → Shared → Prop} {s : Shared} {value slice : PySem.Expr} {i : Int} {u : Tok} {Q : Value → Shared → Prop} {h₀ : Heap} {L : Addr} {news : Led}
theorem r_pick {LL : Addr} {vs : List Value} {c : Nat} (N : News h₀ L s.heap news) (hm : (LL, PySem.W.listOf vs.toArray c) ∈ news) (h0 : 0 ≤ i) (h1 : i < vs.length) (hz : vs.length ≤ 100) (h : ∀ v, vs[i.toNat]? = some v → Q v s)
    (hs : subscripted slice false (.ref LL) (.int i u) = operate [.ref LL, .int i u] (getItem (.ref LL) (.int i u)) := by with_unfolding_all rfl) :
    wpAny (model prog w) A (subscriptTail value slice (.ref LL) (.int i u)) Q E s := by
  have hl : s.heap.IsList LL vs.toArray := News.isList N hm
  have hlt : i.toNat < vs.length := by omega
  exact tail_any hl.typeIs slot_list_getitem.lookup (wpAny_getItem_list hl h0 (by omega) (x := vs[i.toNat]) (by simp [hlt]) (h _ (by simp [hlt]))) hs
theorem r_pick7 {LL : Addr} {t0 t1 t2 t3 t4 t5 t6 : Tok} {c : Nat} (N : News h₀ L s.heap news) (hm : (LL, PySem.W.listOf #[.str (tx []) t0, .str (tx [97]) t1, .str (tx []) t2, .str (tx [233, 32, 12]) t3, .str (tx [97, 98, 60, 133]) t4, .str (tx [9, 0, 99, 100, 101]) t5, .str (tx [127]) t6] c) ∈ news)
    (h0 : 0 ≤ i) (h1 : i < 7) (h : ∀ x t, Good x → Q (.str (tx x) t) s)
    (hs : subscripted slice false (.ref LL) (.int i u) = operate [.ref LL, .int i u] (getItem (.ref LL) (.int i u)) := by with_unfolding_all rfl) :
    wpAny (model prog w) A (subscriptTail value slice (.ref LL) (.int i u)) Q E s := by
  refine r_pick (vs := [.str (tx []) t0, .str (tx [97]) t1, .str (tx []) t2, .str (tx [233, 32, 12]) t3, .str (tx [97, 98, 60, 133]) t4, .str (tx [9, 0, 99, 100, 101]) t5, .str (tx [127]) t6]) N hm h0 (by simpa using h1) (by simp) ?_ hs
  intro v hv
  obtain ⟨k, hk⟩ : ∃ k, k = i.toNat := ⟨_, rfl⟩
  rw [← hk] at hv
  have hk7 : k < 7 := by omega
  rcases k with _ | _ | _ | _ | _ | _ | _ | k
  case succ.succ.succ.succ.succ.succ.succ => exact absurd hk7 (by omega)
  all_goals (
    simp at hv
    subst hv
    apply h
    refine ⟨?_, ?_, ?_, ?_, ?_, ?_⟩ <;> decide)
theorem r_pick3 {LL : Addr} {t0 t1 t2 : Tok} {c : Nat} (N : News h₀ L s.heap news) (hm : (LL, PySem.W.listOf #[.str (tx [10]) t0, .str (tx [13]) t1, .str (tx [13, 10]) t2] c) ∈ news)
    (h0 : 0 ≤ i) (h1 : i < 3) (h : ∀ x t, IsEnd x → Q (.str (tx x) t) s)
    (hs : subscripted slice false (.ref LL) (.int i u) = operate [.ref LL, .int i u] (getItem (.ref LL) (.int i u)) := by with_unfolding_all rfl) :
    wpAny (model prog w) A (subscriptTail value slice (.ref LL) (.int i u)) Q E s := by
  refine r_pick (vs := [.str (tx [10]) t0, .str (tx [13]) t1, .str (tx [13, 10]) t2]) N hm h0 (by simpa using h1) (by simp) ?_ hs
  intro v hv
  obtain ⟨k, hk⟩ : ∃ k, k = i.toNat := ⟨_, rfl⟩
  rw [← hk] at hv
  have hk3 : k < 3 := by omega
  rcases k with _ | _ | _ | k
  case succ.succ.succ => exact absurd hk3 (by omega)
  all_goals (
    simp at hv
    subst hv
    apply h
    unfold IsEnd
    simp)
theorem ints_at : ∀ {vs : List Value} {ns : List Int} (_ : IntsAre vs ns) {k : Nat} {v : Value}, vs[k]? = some v → ∃ n t, v = .int n t
  | _, _, .cons n t r, 0, v, h => ⟨n, t, by simpa using h.symm⟩
  | _, _, .cons n t r, k + 1, v, h => ints_at r (by simpa using h)
theorem r_nums {LL : Addr} {vs : List Value} {ns : List Int} {c : Nat} (N : News h₀ L s.heap news) (hm : (LL, PySem.W.listOf vs.toArray c) ∈ news) (hI : IntsAre vs ns) (hz : ns.length ≤ 12) (h0 : 0 ≤ i) (h1 : i < ns.length) (h : ∀ n t, Q (.int n t) s)
    (hs : subscripted slice false (.ref LL) (.int i u) = operate [.ref LL, .int i u] (getItem (.ref LL) (.int i u)) := by with_unfolding_all rfl) :
    wpAny (model prog w) A (subscriptTail value slice (.ref LL) (.int i u)) Q E s :=
  r_pick N hm h0 (by rw [hI.length]; exact h1) (by rw [hI.length]; omega) (fun v hv => by obtain ⟨n, t, rfl⟩ := ints_at hI hv; exact h n t) hs
/-- the value is a made list of ints -/
inductive NumOut (h₀ : Heap) (L : Addr) (m : Str → Option Value) (s : Shared) : Value → Shared → Prop
  | mk (D : Addr) (ws : List Value) (ns : List Int) (h' : Heap) (tk' : Nat) (F : Fr h₀ L h' m) (N : News h₀ L h' [(D, PySem.W.listOf ws.toArray 0)]) (hI : IntsAre ws ns) (h1 : 1 ≤ ns.length) (h2 : ns.length ≤ 12) : NumOut h₀ L m s (.ref D) { s with heap := h', toks := tk' }
theorem numbers_in {t : Sem Value} {m : Str → Option Value} (_F : Fr h₀ L s.heap m) (_N : News h₀ L s.heap [])
    (walk : wpAny (model prog w) A t (NumOut h₀ L m s) E s)
    (fin : ∀ D ws ns h' tk', Fr h₀ L h' m → News h₀ L h' [(D, PySem.W.listOf ws.toArray 0)] → IntsAre ws ns → 1 ≤ ns.length → ns.length ≤ 12 → Q (.ref D) { s with heap := h', toks := tk' }) :
    wpAny (model prog w) A t Q E s :=
  wpAny_mono walk (fun v s' h => by cases h with | mk D ws ns h' tk' F' N' hI hl hu => exact fin D ws ns h' tk' F' N' hI hl hu) fun _ _ e => e
end
end Mine
end
section
open PySem PySem.W PyProof.Rows PySem.Calls
set_option maxRecDepth 100000
namespace Mine
theorem norm_cons {c : Nat} {r : List Nat} (h : ¬ (c = 13 ∧ r[0]? = some 10)) : norm (c :: r) = crOne c :: norm r := by
  rw [norm]
  rintro r' rfl rfl
  exact h ⟨rfl, rfl⟩
theorem norm_app : ∀ (n : Nat) (a b : List Nat), a.length ≤ n → (a.getLast? = some 13 → b[0]? ≠ some 10) → norm (a ++ b) = norm a ++ norm b := by
  intro n
  induction n with
  | zero =>
    intro a b h _
    obtain rfl : a = [] := List.eq_nil_of_length_eq_zero (by omega)
    rfl
  | succ n ih =>
    intro a b hl h
    match a, hl, h with
    | [], _, _ => rfl
    | [c], _, h =>
      have e : norm (c :: b) = crOne c :: norm b := norm_cons (by
        rintro ⟨rfl, q⟩
        exact h rfl q)
      show norm (c :: b) = norm [c] ++ norm b
      rw [e, norm_cons (c := c) (r := []) (by simp)]
      rfl
    | c :: d :: r, hl, h =>
      have hr : r.length ≤ n := by simp at hl; omega
      have hdr : (d :: r).length ≤ n := by simp at hl ⊢; omega
      by_cases q : c = 13 ∧ d = 10
      · obtain ⟨rfl, rfl⟩ := q
        show 10 :: norm (r ++ b) = 10 :: (norm r ++ norm b)
        rw [ih r b hr (fun e => h (by
          cases r with
          | nil => simp at e
          | cons x y => simpa using e))]
      · have q' : ¬ (c = 13 ∧ (d :: (r ++ b))[0]? = some 10) := by simpa using q
        have q'' : ¬ (c = 13 ∧ (d :: r)[0]? = some 10) := by simpa using q
        show norm (c :: (d :: (r ++ b))) = norm (c :: (d :: r)) ++ norm b
        rw [norm_cons q', norm_cons q'']
        have := ih (d :: r) b hdr (fun e => h (by simpa using e))
        rw [List.cons_append] at this
        rw [this]; rfl
/-- no \r\n stands across the border at k -/
def NC (l : List Nat) (k : Nat) : Prop := ∀ i, k = i + 1 → l[i]? = some 13 → l[i + 1]? ≠ some 10
theorem norm_cut {l : List Nat} {k : Nat} (h : NC l k) : norm l = norm (l.take k) ++ norm (l.drop k) := by
  conv => lhs; rw [← List.take_append_drop k l]
  refine norm_app _ _ _ (Nat.le_refl _) (fun e q => ?_)
  rw [List.getElem?_drop, Nat.add_zero] at q
  obtain ⟨hk, _⟩ := List.getElem?_eq_some_iff.mp q
  rw [List.getLast?_eq_getElem?, List.length_take, Nat.min_eq_left (by omega)] at e
  cases k with
  | zero => simp at e
  | succ i =>
    rw [Nat.add_sub_cancel, List.getElem?_take_of_lt (by omega)] at e
    exact h i rfl e q
theorem norm_plain : ∀ x : List Nat, 13 ∉ x → norm x = x
  | [], _ => rfl
  | c :: r, h => by
    have h1 : ¬ c = 13 := fun e => h (e ▸ List.mem_cons_self ..)
    rw [norm_cons (fun q => h1 q.1), norm_plain r (fun m => h (List.mem_cons_of_mem _ m)), crOne, if_neg h1]
theorem last_drop {l : List Nat} {c : Nat} : l.drop (l.length - 1) = [c] ↔ l.getLast? = some c := by
  rw [List.getLast?_eq_getElem?]
  constructor
  · intro h
    have := congrArg (·[0]?) h
    simpa using this
  · intro h
    obtain ⟨hl, e⟩ := List.getElem?_eq_some_iff.mp h
    rw [List.drop_eq_getElem_cons hl, e]
    rw [List.drop_of_length_le (by omega)]
def isBad (c : Nat) : Bool := decide (c = 127 ∨ c = 133)
/-- the lines, each with one line end -/
def flat (ls : List (List Nat)) : List Nat := (ls.map (· ++ [10])).flatten
theorem flat_snoc (ls : List (List Nat)) (x : List Nat) : flat (ls ++ [x]) = flat ls ++ (x ++ [10]) := by simp [flat]
structure Built (ls : List (List Nat)) (text : List Nat) : Prop where
  norm : norm text = flat ls
  len : text.length ≤ 7 * ls.length
  code : ∀ c ∈ text, c < 256
  bad : text.countP inv = ls.flatten.countP isBad
  good : ∀ l ∈ ls, Good l
theorem built_nil : Built [] [] := ⟨rfl, Nat.le_refl _, by simp, rfl, by simp⟩
theorem good_last {x : List Nat} (g : Good x) : x.getLast? ≠ some 13 := by
  intro h
  exact g.cr (List.mem_of_getLast? h)
theorem good_bad {x : List Nat} (g : Good x) : x.countP inv = x.countP isBad := by
  apply List.countP_congr
  intro c hc
  rw [g.bad c hc]
  rfl
theorem norm_line {x e : List Nat} (g : Good x) (he : IsEnd e) : norm (x ++ e) = x ++ [10] := by
  rw [norm_app _ _ _ (Nat.le_refl _) (fun q => absurd q (good_last g)), norm_plain x g.cr]
  rcases he with rfl | rfl | rfl <;> rfl
theorem built_step {ls : List (List Nat)} {text x e : List Nat} (b : Built ls text) (g : Good x) (he : IsEnd e) (hc : ¬ (text.drop (text.length - 1) = [13] ∧ x ++ e = [10])) : Built (ls ++ [x]) (text ++ (x ++ e)) := by
  have hel : 1 ≤ e.length ∧ e.length ≤ 2 := by rcases he with rfl | rfl | rfl <;> simp
  have hgl := g.len
  refine ⟨?_, ?_, ?_, ?_, ?_⟩
  · rw [flat_snoc, ← b.norm, ← norm_line g he]
    refine norm_app _ _ _ (Nat.le_refl _) (fun q q2 => hc ⟨last_drop.mpr q, ?_⟩)
    cases x with
    | nil =>
      rcases he with rfl | rfl | rfl
      · rfl
      · simp at q2
      · simp at q2
    | cons c r =>
      have : c = 10 := by simpa using q2
      exact absurd (this ▸ List.mem_cons_self ..) g.nl
  · have := b.len
    simp only [List.length_append, List.length_singleton]
    omega
  · intro c hm
    rcases List.mem_append.mp hm with h | h
    · exact b.code c h
    rcases List.mem_append.mp h with h | h
    · exact g.code c h
    · rcases he with rfl | rfl | rfl <;> simp at h <;> omega
  · have hz : e.countP inv = 0 := by rcases he with rfl | rfl | rfl <;> decide
    rw [List.countP_append, List.countP_append, hz, b.bad, good_bad g]
    simp
  · intro l hl
    rcases List.mem_append.mp hl with h | h
    · exact b.good l h
    · rw [List.mem_singleton.mp h]; exact g
/-- the whole text -/
structure Whole (ls : List (List Nat)) (last text : List Nat) : Prop where
  norm : norm text = flat ls ++ last
  len : text.length ≤ 1000
  code : ∀ c ∈ text, c < 256
  bad : text.countP inv = (ls.flatten ++ last).countP isBad
  good : ∀ l ∈ ls, Good l
  gl : Good last
theorem whole_of {ls : List (List Nat)} {text x : List Nat} (b : Built ls text) (g : Good x) (hl : ls.length ≤ 12) : Whole ls x (text ++ x) := by
  have h1 := b.len
  have h2 := g.len
  refine ⟨?_, ?_, ?_, ?_, b.good, g⟩
  · rw [norm_app _ _ _ (Nat.le_refl _) (fun q q2 => ?_), b.norm, norm_plain x g.cr]
    exact g.nl (List.mem_of_getElem? q2)
  · simp; omega
  · intro c hm
    rcases List.mem_append.mp hm with h | h
    · exact b.code c h
    · exact g.code c h
  · rw [List.countP_append, b.bad, List.countP_append, good_bad g]
theorem signs_norm (text : List Nat) : ∀ n, n ≤ text.length → signs text n = (norm (text.take n)).length := by
  intro n
  induction n with
  | zero => intro _; rfl
  | succ n ih =>
    intro h
    have hlt : n < text.length := by omega
    have e : text.take (n + 1) = text.take n ++ [text[n]] := by rw [List.take_succ_eq_append_getElem hlt]
    have hg : text.getD n 0 = text[n] := by rw [List.getD_eq_getElem?_getD, List.getElem?_eq_getElem hlt]; rfl
    rw [signs_succ, ih (by omega)]
    by_cases q : text[n] = 10 ∧ (text.take n).getLast? = some 13
    · obtain ⟨q1, q2⟩ := q
      have hn0 : n ≠ 0 := by rintro rfl; simp at q2
      obtain ⟨m, rfl⟩ := Nat.exists_eq_succ_of_ne_zero hn0
      have hm : m < text.length := by omega
      have hm13 : text[m] = 13 := by
        rw [List.getLast?_eq_getElem?, List.length_take, Nat.min_eq_left (by omega)] at q2
        rw [Nat.succ_sub_one, List.getElem?_take_of_lt (by omega), List.getElem?_eq_getElem hm] at q2
        simpa using q2
      have e2 : text.take (m + 1) = text.take m ++ [13] := by rw [List.take_succ_eq_append_getElem hm, hm13]
      have hs : isSign text (m + 1) = false := by
        unfold isSign
        rw [hg, q1]
        have : text.getD (m + 1 - 1) 0 = 13 := by rw [Nat.add_sub_cancel, List.getD_eq_getElem?_getD, List.getElem?_eq_getElem hm, hm13]; rfl
        rw [this]; simp
      rw [hs, e, q1, Nat.succ_eq_add_one, e2, List.append_assoc, norm_app _ _ _ (Nat.le_refl _) (by simp), norm_app _ _ _ (Nat.le_refl _) (by simp)]
      rfl
    · have hs : isSign text n = true := by
        unfold isSign
        rw [decide_eq_true_eq]
        by_cases h0 : n = 0
        · exact Or.inr (Or.inl h0)
        by_cases h10 : text[n] = 10
        · refine Or.inr (Or.inr (fun h13 => q ⟨h10, ?_⟩))
          rw [List.getLast?_eq_getElem?, List.length_take, Nat.min_eq_left (by omega), List.getElem?_take_of_lt (by omega)]
          rw [List.getD_eq_getElem?_getD] at h13
          rw [List.getElem?_eq_getElem (by omega)] at h13 ⊢
          simpa using h13
        · exact Or.inl (by rw [hg]; exact h10)
      rw [hs, e, norm_app _ _ _ (Nat.le_refl _) (fun q2 q3 => q ⟨by simpa using q3, q2⟩), List.length_append, if_pos rfl]
      rw [norm_cons (c := text[n]) (r := []) (by simp)]
      rfl
end Mine
end
section
open PySem PySem.W PyProof.Rows PySem.Calls PySem.StrLaws
set_option maxRecDepth 100000
namespace Mine
theorem ta (l x : List Nat) (o : Nat) : l.take o ++ (l.drop o ++ x) = l ++ x := by rw [← List.append_assoc, List.take_append_drop]
theorem at_one (l : List Nat) (c i : Nat) : At (tx l) ⟨#[c]⟩ (tx l).length i ↔ l[i]? = some c := by
  constructor
  · rintro ⟨_, h2⟩
    exact (subAt_tx l c i).mp h2
  · intro h
    obtain ⟨hl, _⟩ := List.getElem?_eq_some_iff.mp h
    exact ⟨by rw [tx_length]; show i + 1 ≤ l.length; omega, (subAt_tx l c i).mpr h⟩
theorem find_at {l : List Nat} {c j : Nat} (hn : l.Nodup) (hj : l[j]? = some c) : Txt.find (tx l) (tx [c]) = (j : Int) := by
  rcases find_whole (tx l) (tx [c]) with ⟨_, h⟩ | ⟨i, h1, h2, _⟩
  · exact absurd ((at_one l c j).mpr hj) (h j)
  · rw [h1]
    have h3 := (at_one l c i).mp h2
    obtain ⟨hi, ei⟩ := List.getElem?_eq_some_iff.mp h3
    obtain ⟨hj', ej⟩ := List.getElem?_eq_some_iff.mp hj
    have := (List.getElem_inj (h₀ := hi) (h₁ := hj') hn).mp (ei.trans ej.symm)
    omega
theorem split_last {b : List Nat} (h : 10 ∈ b) : ∃ x y, b = x ++ 10 :: y ∧ 10 ∉ y := by
  rcases lastAt_spec b with ⟨_, h2⟩ | ⟨x, y, h1, h2, _⟩
  · exact absurd h h2
  · exact ⟨x, y, h1, h2⟩
theorem colFrom_app (pc : Nat) (a b : List Nat) : colFrom (colFrom pc a) b = colFrom pc (a ++ b) := by
  by_cases hb : 10 ∈ b
  · obtain ⟨x, y, rfl, hy⟩ := split_last hb
    rw [colFrom_split _ _ _ hy, ← List.append_assoc, colFrom_split _ _ _ hy]
  · by_cases ha : 10 ∈ a
    · obtain ⟨x, y, rfl, hy⟩ := split_last ha
      rw [colFrom_split _ _ _ hy, List.append_assoc, List.cons_append, colFrom_split _ _ _ (by simp [hy, hb])]
      unfold colFrom
      rw [if_neg hb]; simp
    · have hab : 10 ∉ a ++ b := by simp [ha, hb]
      unfold colFrom
      rw [if_neg hb, if_neg ha, if_neg hab]
      simp; omega
/-- where the stream stands in the text, as the law reckons it -/
structure St (text : List Nat) (v : Vw) (start taken : Nat) (pre : List Nat) : Prop where
  txt : v.text = text
  place : v.place = taken
  buf : v.buf = true → start + 1 = taken ∧ text[start]? = some 13
  nobuf : v.buf = false → start = taken
  chunk : norm (text.take start) = pre ++ v.chunk
  edge : NC text start
  pl : v.pl = pre.count 10
  pc : v.pc = colFrom 0 pre
  ne : v.ne = (text.take start).countP inv
  ok : v.Ok
theorem St.start_le {text : List Nat} {v : Vw} {start taken : Nat} {pre : List Nat} (h : St text v start taken pre) : start ≤ taken ∧ taken ≤ text.length := by
  have h1 := h.ok.place
  rw [h.txt, h.place] at h1
  cases hb : v.buf with
  | false => have := h.nobuf hb; omega
  | true => have := (h.buf hb).1; omega
theorem st_init {x : List Nat} (hl : x.length ≤ 1000) (hc : ∀ c ∈ x, c < 256) : St x ⟨[], 0, 0, 0, false, x, 0, 0⟩ 0 0 [] := by
  refine ⟨rfl, rfl, (fun h => by cases h), fun _ => rfl, rfl, (fun i h => by omega), rfl, rfl, rfl, ⟨hl, Nat.zero_le _, Nat.zero_le _, Nat.zero_le _, Nat.le_refl _, hc⟩⟩
section
variable {text : List Nat} {v : Vw} {start taken : Nat} {pre : List Nat}
theorem fT_le (text : List Nat) (taken n : Nat) : fT text taken n ≤ text.length := by unfold fT; omega
theorem St.data0 (h : St text v start taken pre) (n : Nat) : v.data0 n = (text.take (fT text taken n)).drop start := by
  have hs := h.start_le
  have hp : v.part n = (text.drop taken).take n := by unfold Vw.part; rw [h.txt, h.place]
  unfold Vw.data0
  apply List.ext_getElem?
  intro i
  cases hb : v.buf with
  | false =>
    obtain rfl := h.nobuf hb
    simp only [Bool.false_eq_true, if_false, hp, List.getElem?_take, List.getElem?_drop, fT]
    by_cases h1 : i < n
    · by_cases h2 : start + i < text.length
      · rw [if_pos h1, if_pos (by omega)]
      · rw [if_pos h1, if_neg (by omega), List.getElem?_eq_none (by omega)]
    · rw [if_neg h1, if_neg (by omega)]
  | true =>
    obtain ⟨e1, e2⟩ := h.buf hb
    subst e1
    simp only [if_true, hp]
    cases i with
    | zero =>
      simp only [List.getElem?_take, List.getElem?_drop, fT, List.getElem?_cons_zero, Nat.add_zero]
      rw [if_pos (by omega), e2]
    | succ i =>
      simp only [List.getElem?_take, List.getElem?_drop, fT, List.getElem?_cons_succ]
      by_cases h1 : i < n
      · by_cases h2 : start + (i + 1) < text.length
        · rw [if_pos h1, if_pos (by omega), show start + 1 + i = start + (i + 1) by omega]
        · rw [if_pos h1, if_neg (by omega), List.getElem?_eq_none (by omega)]
      · rw [if_neg h1, if_neg (by omega)]
theorem St.fT_gt (h : St text v start taken pre) (hlt : start < text.length) {n : Nat} (hn : 1 ≤ n) : start < fT text taken n := by
  have := h.start_le
  unfold fT
  cases hb : v.buf with
  | false => have := h.nobuf hb; omega
  | true => have := (h.buf hb).1; omega
theorem St.data_ne (h : St text v start taken pre) (hlt : start < text.length) {n : Nat} (hn : 1 ≤ n) : v.data0 n ≠ [] := by
  have h1 := h.fT_gt hlt hn
  have h2 := fT_le text taken n
  intro e
  have := congrArg List.length (h.data0 n)
  rw [e] at this
  simp at this
  omega
theorem St.cut (h : St text v start taken pre) (hlt : start < text.length) {n : Nat} (hn : 1 ≤ n) : v.cut n = decide (start < fT text taken n - 1 ∧ text.getD (fT text taken n - 1) 0 = 13) := by
  have h1 := h.fT_gt hlt hn
  have h2 := fT_le text taken n
  unfold Vw.cut
  rw [h.data0 n]
  have hl : ((text.take (fT text taken n)).drop start).length = fT text taken n - start := by simp; omega
  rw [hl]
  have hg : ((text.take (fT text taken n)).drop start).getD (fT text taken n - start - 1) 0 = text.getD (fT text taken n - 1) 0 := by
    rw [List.getD_eq_getElem?_getD, List.getD_eq_getElem?_getD, List.getElem?_drop, List.getElem?_take_of_lt (by omega)]
    congr 2; omega
  rw [hg, decide_eq_decide]
  constructor
  · rintro ⟨a, b⟩; exact ⟨by omega, b⟩
  · rintro ⟨a, b⟩; exact ⟨by omega, b⟩
theorem fS_eq (c : Bool) {n : Nat} (hc : c = decide (start < fT text taken n - 1 ∧ text.getD (fT text taken n - 1) 0 = 13)) : fS text start taken n = if c then fT text taken n - 1 else fT text taken n := by
  subst hc
  unfold fS
  by_cases q : start < fT text taken n - 1 ∧ text.getD (fT text taken n - 1) 0 = 13
  · rw [if_pos ⟨q.2, q.1⟩, if_pos (decide_eq_true q)]
  · rw [if_neg (fun p => q ⟨p.2, p.1⟩), if_neg (by simpa using q)]
theorem drop_last_take (l : List Nat) (a b : Nat) (h1 : a < b) (h2 : b ≤ l.length) : ((l.take b).drop a).dropLast = (l.take (b - 1)).drop a := by
  rw [List.dropLast_eq_take]
  apply List.ext_getElem?
  intro i
  have hl : ((l.take b).drop a).length = b - a := by simp; omega
  simp only [hl, List.getElem?_take, List.getElem?_drop]
  by_cases h : i < b - a - 1
  · rw [if_pos h, if_pos (by omega), if_pos (by omega)]
  · rw [if_neg h, if_neg (by omega)]
theorem St.data1 (h : St text v start taken pre) (hlt : start < text.length) {n : Nat} (hn : 1 ≤ n) : v.data1 n = (text.take (fS text start taken n)).drop start := by
  have h1 := h.fT_gt hlt hn
  have h2 := fT_le text taken n
  have hc := h.cut hlt hn
  rw [fS_eq _ hc]
  unfold Vw.data1
  cases hq : v.cut n with
  | false => simp only [Bool.false_eq_true, if_false]; exact h.data0 n
  | true =>
    simp only [if_true]
    rw [h.data0 n, drop_last_take _ _ _ h1 h2]
theorem St.fS_gt (h : St text v start taken pre) (hlt : start < text.length) {n : Nat} (hn : 1 ≤ n) : start < fS text start taken n ∧ fS text start taken n ≤ fT text taken n := by
  have h1 := h.fT_gt hlt hn
  have hc := h.cut hlt hn
  rw [fS_eq _ hc]
  cases hq : v.cut n with
  | false => simp only [Bool.false_eq_true, if_false]; exact ⟨h1, Nat.le_refl _⟩
  | true =>
    rw [hq] at hc
    have := (of_decide_eq_true hc.symm).1
    simp only [if_true]
    omega
theorem St.rd (h : St text v start taken pre) (hlt : start < text.length) {n : Nat} (hn : 2 ≤ n) : St text (v.rd n) (fS text start taken n) (fT text taken n) (pre ++ v.chunk) := by
  have hs := h.start_le
  have h1 := h.fT_gt hlt (n := n) (by omega)
  have h2 := fT_le text taken n
  have h3 := h.fS_gt hlt (n := n) (by omega)
  have hd := h.data1 hlt (n := n) (by omega)
  have hc := h.cut hlt (n := n) (by omega)
  have hf := fS_eq _ hc
  have hsplit : text.take (fS text start taken n) = text.take start ++ v.data1 n := by
    rw [hd]
    conv => lhs; rw [← List.take_append_drop start (text.take (fS text start taken n))]
    rw [List.take_take, Nat.min_eq_left (by omega)]
  have hnc : NC (text.take (fS text start taken n)) start := by
    intro i e q1 q2
    rw [List.getElem?_take] at q1 q2
    split at q1
    · split at q2
      · exact h.edge i e q1 q2
      · cases q2
    · cases q1
  have hp : (v.part n).length = fT text taken n - taken := by
    rw [part_len, h.txt, h.place]
    unfold fT; omega
  refine ⟨h.txt, ?_, ?_, ?_, ?_, ?_, ?_, ?_, ?_, h.ok.rd n⟩
  · show v.place + (v.part n).length = _
    rw [hp, h.place]
    unfold fT; omega
  · intro hb
    have hb : v.cut n = true := hb
    rw [hb] at hf hc
    have hq := of_decide_eq_true hc.symm
    rw [if_pos rfl] at hf
    rw [hf]
    refine ⟨by omega, ?_⟩
    have hlt' : fT text taken n - 1 < text.length := by omega
    have := hq.2
    rw [List.getD_eq_getElem?_getD] at this
    rw [List.getElem?_eq_getElem hlt'] at this ⊢
    simpa using this
  · intro hb
    have hb : v.cut n = false := hb
    rw [hb] at hf
    simpa using hf
  · show norm (text.take (fS text start taken n)) = pre ++ v.chunk ++ norm (v.data1 n)
    rw [norm_cut hnc, List.take_take, Nat.min_eq_left (by omega), h.chunk, hd]
  · intro i e q1 q2
    cases hq : v.cut n with
    | true =>
      rw [hq] at hf hc
      have hq := of_decide_eq_true hc.symm
      rw [if_pos rfl] at hf
      rw [← e, hf] at q2
      have := hq.2
      rw [List.getD_eq_getElem?_getD, q2] at this
      simp at this
    | false =>
      rw [hq] at hf hc
      have hq := of_decide_eq_false hc.symm
      rw [if_neg (by simp)] at hf
      have hi : i = fT text taken n - 1 := by omega
      have h13 : text.getD (fT text taken n - 1) 0 = 13 := by rw [← hi, List.getD_eq_getElem?_getD, q1]; rfl
      have hlast : ¬ start < fT text taken n - 1 := fun q => hq ⟨q, h13⟩
      obtain ⟨hl, _⟩ := List.getElem?_eq_some_iff.mp q2
      have : fT text taken n = text.length := by
        unfold fT at hlast h1 ⊢
        cases hb : v.buf with
        | false => have := h.nobuf hb; omega
        | true => have := (h.buf hb).1; omega
      omega
  · show v.pl + v.chunk.count 10 = _
    rw [List.count_append, h.pl]
  · show colFrom v.pc v.chunk = _
    rw [h.pc, colFrom_app]
  · show v.ne + (v.data1 n).countP inv = _
    rw [h.ne, hsplit, List.countP_append]
theorem St.move (h : St text v start taken pre) {o : Nat} (ho : o ≤ v.chunk.length) : St text { v with off := o } start taken pre :=
  ⟨h.txt, h.place, h.buf, h.nobuf, h.chunk, h.edge, h.pl, h.pc, h.ne, ⟨h.ok.text, h.ok.place, h.ok.chunk, ho, h.ok.ne, h.ok.code⟩⟩
theorem St.until (h : St text v start taken pre) : signs text start = pre.length + v.chunk.length := by
  have := h.start_le
  rw [signs_norm text start (by omega), h.chunk, List.length_append]
theorem St.split (h : St text v start taken pre) : norm text = pre ++ v.chunk.take v.off ++ (v.ahead ++ norm (text.drop start)) := by
  rw [norm_cut h.edge, h.chunk]
  unfold Vw.ahead
  simp [ta]
theorem St.rest (h : St text v start taken pre) {D r : List Nat} (hD : pre ++ v.chunk.take v.off = D) (hr : norm text = D ++ r) : v.ahead ++ norm (text.drop start) = r := by
  have := h.split
  rw [hD, hr] at this
  exact (List.append_cancel_left this).symm
theorem St.len (h : St text v start taken pre) {D : List Nat} (hD : pre ++ v.chunk.take v.off = D) : D.length = pre.length + v.off := by
  rw [← hD, List.length_append, List.length_take, Nat.min_eq_left h.ok.off]
theorem ahead_len (v : Vw) : v.ahead.length = v.chunk.length - v.off := by unfold Vw.ahead; simp
theorem St.next (h : St text v start taken pre) {D R : List Nat} {c : Nat} (hD : pre ++ v.chunk.take v.off = D) (hr : norm text = D ++ c :: R) (ho : v.off < v.chunk.length) : v.chunk.getD v.off 0 = c ∧ pre ++ v.chunk.take (v.off + 1) = D ++ [c] := by
  have h1 := h.rest hD hr
  unfold Vw.ahead at h1
  rw [List.drop_eq_getElem_cons ho] at h1
  have h2 : v.chunk[v.off] = c := by injection h1
  have h3 : v.chunk.getD v.off 0 = c := by rw [List.getD_eq_getElem?_getD, List.getElem?_eq_getElem ho, ← h2]; rfl
  refine ⟨h3, ?_⟩
  rw [List.take_succ_eq_append_getElem ho, h2, ← List.append_assoc, hD]
theorem St.more (h : St text v start taken pre) {D R : List Nat} {c : Nat} (hD : pre ++ v.chunk.take v.off = D) (hr : norm text = D ++ c :: R) (ho : v.off = v.chunk.length) : start < text.length := by
  have h1 := h.rest hD hr
  have h2 : v.ahead = [] := List.eq_nil_of_length_eq_zero (by rw [ahead_len]; omega)
  rw [h2] at h1
  rcases Nat.lt_or_ge start text.length with q | q
  · exact q
  · rw [List.drop_of_length_le q] at h1
    cases h1
theorem St.pos (h : St text v start taken pre) {D : List Nat} (hD : pre ++ v.chunk.take v.off = D) : v.pl + (v.chunk.take v.off).count 10 = D.count 10 ∧ colFrom v.pc (v.chunk.take v.off) = colFrom 0 D := by
  rw [← hD, List.count_append, h.pl, h.pc, colFrom_app]
  exact ⟨rfl, rfl⟩
end
theorem flat_take {ls : List (List Nat)} {i : Nat} {x : List Nat} (h : ls[i]? = some x) : flat (ls.take (i + 1)) = flat (ls.take i) ++ (x ++ [10]) := by
  obtain ⟨hl, e⟩ := List.getElem?_eq_some_iff.mp h
  rw [List.take_succ_eq_append_getElem hl, flat_snoc, e]
theorem flat_at {ls : List (List Nat)} {i : Nat} {x : List Nat} (h : ls[i]? = some x) : ∃ R, flat ls = flat (ls.take i) ++ (x ++ 10 :: R) := by
  refine ⟨flat (ls.drop (i + 1)), ?_⟩
  obtain ⟨hl, e⟩ := List.getElem?_eq_some_iff.mp h
  conv => lhs; rw [← List.take_append_drop i ls, List.drop_eq_getElem_cons hl, e]
  simp [flat]
theorem flat_pos {ls : List (List Nat)} (hg : ∀ l ∈ ls, Good l) {p : List Nat} (hp : 10 ∉ p) : (flat ls ++ p).count 10 = ls.length ∧ colFrom 0 (flat ls ++ p) = p.length := by
  constructor
  · rw [List.count_append, List.count_eq_zero.mpr hp, Nat.add_zero]
    induction ls with
    | nil => rfl
    | cons x r ih =>
      have h1 : x.count 10 = 0 := List.count_eq_zero.mpr (hg x (List.mem_cons_self ..)).nl
      have h2 := ih (fun l hl => hg l (List.mem_cons_of_mem _ hl))
      show (x ++ [10] ++ flat r).count 10 = r.length + 1
      rw [List.count_append, List.count_append, h1, h2]
      simp; omega
  · rcases List.eq_nil_or_concat ls with rfl | ⟨r, x, rfl⟩
    · show colFrom 0 p = _
      unfold colFrom
      rw [if_neg hp]; simp
    · rw [List.concat_eq_append, flat_snoc]
      have e : flat r ++ (x ++ [10]) ++ p = (flat r ++ x) ++ 10 :: p := by simp
      rw [e, colFrom_split _ _ _ hp]
/-- charsUntil and the law's own while, side by side: what is still to come of the line -/
def WJ (text T : List Nat) (vE : Vw) (start taken : Nat) : Prop := ∃ v pre l r, St text v start taken pre ∧ Cu v l vE ∧ pre ++ v.chunk.take v.off ++ r = T ∧ 10 ∉ r
theorem app_prefix {a b r : List Nat} {c : Nat} {R : List Nat} (h : a ++ b = r ++ c :: R) (hl : r.length < a.length) : ∃ X, a = r ++ c :: X := by
  induction r generalizing a with
  | nil =>
    cases a with
    | nil => simp at hl
    | cons x a =>
      rw [List.cons_append, List.nil_append] at h
      injection h with h1 h2
      exact ⟨a, by rw [h1]; rfl⟩
  | cons y r ih =>
    cases a with
    | nil => simp at hl
    | cons x a =>
      rw [List.cons_append, List.cons_append] at h
      injection h with h1 h2
      obtain ⟨X, e⟩ := ih h2 (by simpa using hl)
      exact ⟨X, by rw [h1, e]; rfl⟩
theorem app_short {a b r X : List Nat} (h : a ++ b = r ++ X) (hl : a.length ≤ r.length) : ∃ r', r = a ++ r' := by
  induction a generalizing r with
  | nil => exact ⟨r, rfl⟩
  | cons x a ih =>
    cases r with
    | nil => simp at hl
    | cons y r =>
      rw [List.cons_append, List.cons_append] at h
      injection h with h1 h2
      obtain ⟨r', e⟩ := ih h2 (by simpa using hl)
      exact ⟨r', by rw [h1, e]; rfl⟩
section
variable {text : List Nat} {v vE : Vw} {start taken : Nat} {pre T R : List Nat}
theorem wj_more (hJ : WJ text T vE start taken) (hn : norm text = T ++ 10 :: R) (hp : signs text start ≤ T.length) : start < text.length ∧ start < fS text start taken text.length ∧ WJ text T vE (fS text start taken text.length) (fT text taken text.length) := by
  obtain ⟨v, pre, l, r, hS, hC, hT, h10⟩ := hJ
  have hlen := hS.len rfl
  have hu := hS.until
  have hrest := hS.rest (r := r ++ 10 :: R) rfl (by rw [← List.append_assoc, hT, hn])
  have hTl := congrArg List.length hT
  rw [List.length_append, hlen] at hTl
  have hal := ahead_len v
  obtain ⟨r', rfl⟩ := app_short hrest (by omega)
  have hna : 10 ∉ v.ahead := fun m => h10 (List.mem_append_left _ m)
  have hlt : start < text.length := by
    rw [List.append_assoc] at hrest
    have h2 := List.append_cancel_left hrest
    rcases Nat.lt_or_ge start text.length with q | q
    · exact q
    · rw [List.drop_of_length_le q] at h2
      have := congrArg List.length h2
      simp [norm] at this
  have hok := hS.ok.text
  rw [hS.txt] at hok
  have hT2 : fT text taken 10240 = fT text taken text.length := by
    have := hS.start_le
    unfold fT; omega
  have hS2 : fS text start taken 10240 = fS text start taken text.length := by
    unfold fS; rw [hT2]
  refine ⟨hlt, by rw [← hS2]; exact (hS.fS_gt hlt (n := 10240) (by decide)).1, ?_⟩
  obtain ⟨l', rfl, hC'⟩ := cu_more hC hna (hS.data_ne hlt (by decide))
  have hS' := hS.rd hlt (n := 10240) (by decide)
  rw [hT2, hS2] at hS'
  refine ⟨v.rd 10240, pre ++ v.chunk, l', r', hS', hC', ?_, fun m => h10 (List.mem_append_right _ m)⟩
  rw [← hT]
  show pre ++ v.chunk ++ [] ++ r' = pre ++ v.chunk.take v.off ++ (v.ahead ++ r')
  unfold Vw.ahead
  simp [ta]
theorem wj_end (hJ : WJ text T vE start taken) (hn : norm text = T ++ 10 :: R) (hp : T.length < signs text start) : ∃ pre, St text vE start taken pre ∧ pre ++ vE.chunk.take vE.off = T ∧ vE.off < vE.chunk.length := by
  obtain ⟨v, pre, l, r, hS, hC, hT, h10⟩ := hJ
  have hlen := hS.len rfl
  have hu := hS.until
  have hrest := hS.rest (r := r ++ 10 :: R) rfl (by rw [← List.append_assoc, hT, hn])
  have hTl := congrArg List.length hT
  rw [List.length_append, hlen] at hTl
  have hal := ahead_len v
  have hoff := hS.ok.off
  obtain ⟨X, hX⟩ := app_prefix hrest (by omega)
  have htw : v.ahead.takeWhile (· ≠ 10) = r := by rw [hX]; exact tw_free r X h10
  obtain ⟨rfl, rfl⟩ := cu_hit hC (by rw [hX]; simp)
  have hXl := congrArg List.length hX
  simp only [List.length_append, List.length_cons] at hXl
  rw [htw]
  refine ⟨pre, hS.move (by omega), ?_, by show v.off + r.length < v.chunk.length; omega⟩
  show pre ++ v.chunk.take (v.off + r.length) = T
  rw [List.take_add, show (v.chunk.drop v.off).take r.length = r from by
    show v.ahead.take r.length = r
    rw [hX]; simp, ← List.append_assoc, hT]
/-- the text that charsUntil gives -/
theorem cu_text {l : List Nat} (hC : Cu v l vE) : ∀ {start taken pre r X}, St text v start taken pre → norm text = pre ++ v.chunk.take v.off ++ (r ++ X) → 10 ∉ r → (X = [] ∨ ∃ R, X = 10 :: R) → l = r := by
  induction hC with
  | hit v h =>
    intro start taken pre r X hS hn h10 hX
    have hrest := hS.rest rfl hn
    rcases hX with rfl | ⟨R, rfl⟩
    · exfalso
      rw [List.append_nil] at hrest
      exact h10 (hrest ▸ List.mem_append_left _ h)
    · rcases Nat.lt_or_ge r.length v.ahead.length with q | q
      · obtain ⟨Y, e⟩ := app_prefix hrest q
        rw [e]; exact tw_free r Y h10
      · obtain ⟨r', e⟩ := app_short hrest q
        exact absurd (e ▸ List.mem_append_left _ h) h10
  | more v h hd l v' hr ih =>
    intro start taken pre r X hS hn h10 hX
    have hrest := hS.rest rfl hn
    have hlt : start < text.length := by
      rcases Nat.lt_or_ge start text.length with q | q
      · exact q
      · exfalso
        apply hd
        rw [hS.data0]
        apply List.drop_of_length_le
        simp; omega
    have hle : v.ahead.length ≤ r.length := by
      rcases Nat.lt_or_ge r.length v.ahead.length with q | q
      · exfalso
        rcases hX with rfl | ⟨R, rfl⟩
        · have := congrArg List.length hrest
          simp at this; omega
        · obtain ⟨Y, e⟩ := app_prefix hrest q
          exact h (by rw [e]; simp)
      · exact q
    obtain ⟨r', rfl⟩ := app_short hrest hle
    rw [ih (hS.rd hlt (n := 10240) (by decide)) (r := r') (X := X) (by
      rw [hn]
      show _ = pre ++ v.chunk ++ [] ++ (r' ++ X)
      unfold Vw.ahead
      simp [ta]) (fun m => h10 (List.mem_append_right _ m)) hX]
  | stop v h hd =>
    intro start taken pre r X hS hn h10 hX
    have hrest := hS.rest rfl hn
    have hge : text.length ≤ start := by
      rcases Nat.lt_or_ge start text.length with q | q
      · exact absurd hd (hS.data_ne q (by decide))
      · exact q
    rw [List.drop_of_length_le hge] at hrest
    rcases hX with rfl | ⟨R, rfl⟩
    · have : v.ahead ++ [] = r ++ [] := hrest
      simpa using this
    · exfalso
      have : v.ahead ++ [] = r ++ 10 :: R := hrest
      rw [List.append_nil] at this
      exact h (by rw [this]; simp)
/-- where charsUntil stands behind the last line -/
structure AtEnd (text : List Nat) (v : Vw) : Prop where
  chunk : v.chunk = []
  off : v.off = 0
  pl : v.pl = (norm text).count 10
  pc : v.pc = colFrom 0 (norm text)
  ne : v.ne = text.countP inv
  data : v.data0 10240 = []
  ok : v.Ok
theorem cu_end {l : List Nat} (hC : Cu v l vE) : ∀ {start taken pre r}, St text v start taken pre → norm text = pre ++ v.chunk.take v.off ++ r → 10 ∉ r → AtEnd text vE := by
  induction hC with
  | hit v h =>
    intro start taken pre r hS hn h10
    have hrest := hS.rest rfl hn
    exact absurd (hrest ▸ List.mem_append_left _ h) h10
  | more v h hd l v' hr ih =>
    intro start taken pre r hS hn h10
    have hrest := hS.rest rfl hn
    have hlt : start < text.length := by
      rcases Nat.lt_or_ge start text.length with q | q
      · exact q
      · exfalso
        apply hd
        rw [hS.data0]
        apply List.drop_of_length_le
        simp; omega
    subst hrest
    exact ih (hS.rd hlt (n := 10240) (by decide)) (r := norm (text.drop start)) (by
      rw [hn]
      show _ = pre ++ v.chunk ++ [] ++ norm (text.drop start)
      unfold Vw.ahead
      simp [ta]) (fun m => h10 (List.mem_append_right _ m))
  | stop v h hd =>
    intro start taken pre r hS hn h10
    have hge : text.length ≤ start := by
      rcases Nat.lt_or_ge start text.length with q | q
      · exact absurd hd (hS.data_ne q (by decide))
      · exact q
    have hc := hS.chunk
    have hne := hS.ne
    rw [List.take_of_length_le hge] at hc hne
    refine ⟨rfl, rfl, ?_, ?_, hne, hd, hS.ok.rdEnd⟩
    · show v.pl + v.chunk.count 10 = _
      rw [hc, List.count_append, hS.pl]
    · show colFrom v.pc v.chunk = _
      rw [hc, hS.pc, colFrom_app]
theorem AtEnd.again (h : AtEnd text v) : AtEnd text v.rdEnd := by
  refine ⟨rfl, rfl, ?_, ?_, h.ne, h.data, h.ok.rdEnd⟩
  · show v.pl + v.chunk.count 10 = _
    rw [h.chunk, h.pl]; simp
  · show colFrom v.pc v.chunk = _
    rw [h.chunk, h.pc]; simp [colFrom]
end
end Mine
end
section
open PySem PySem.W PyProof.Rows PySem.Calls
set_option maxRecDepth 100000
namespace Mine
theorem norm_nil : ∀ {l : List Nat}, norm l = [] → l = []
  | [], _ => rfl
  | c :: r, h => by
    by_cases q : c = 13 ∧ r[0]? = some 10
    · obtain ⟨rfl, q⟩ := q
      cases r with
      | nil => cases q
      | cons d r =>
        obtain rfl : d = 10 := by simpa using q
        cases h
    · rw [norm_cons q] at h
      cases h
theorem St.rd_ne {text : List Nat} {v : Vw} {start taken : Nat} {pre : List Nat} (h : St text v start taken pre) (hlt : start < text.length) {n : Nat} (hn : 1 ≤ n) : (v.rd n).off < (v.rd n).chunk.length := by
  show 0 < (norm (v.data1 n)).length
  have h1 := h.fS_gt hlt hn
  have h2 := fT_le text taken n
  rcases Nat.eq_zero_or_pos (norm (v.data1 n)).length with q | q
  · have := norm_nil (List.eq_nil_of_length_eq_zero q)
    rw [h.data1 hlt hn] at this
    have := congrArg List.length this
    simp at this
    omega
  · exact q
theorem St.rd_done {text : List Nat} {v : Vw} {start taken : Nat} {pre D : List Nat} (_h : St text v start taken pre) (n : Nat) (hD : pre ++ v.chunk.take v.off = D) (ho : v.off = v.chunk.length) : (pre ++ v.chunk) ++ (v.rd n).chunk.take (v.rd n).off = D := by
  rw [← hD, ho, List.take_length]
  show pre ++ v.chunk ++ [] = _
  rw [List.append_nil]
/-- a fact put by -/
structure Box (p : Prop) : Prop where
  out : p
/-- names whose values are known -/
def Has (m : Str → Option Value) (kv : List (Str × Value)) : Prop := ∀ p ∈ kv, m p.1 = some p.2
theorem Has.nil {m : Str → Option Value} : Has m [] := fun _ h => nomatch h
theorem Has.cons {m : Str → Option Value} {k : Str} {v : Value} {kv : List (Str × Value)} (h : m k = some v) (r : Has m kv) : Has m ((k, v) :: kv) := fun p hp => by
  rcases List.mem_cons.mp hp with rfl | hp
  · exact h
  · exact r p hp
theorem Has.bind {m : Str → Option Value} {kv : List (Str × Value)} {x : Str} {v : Option Value} {ks : List Str} (r : Has m kv) (hk : kv.map (·.1) = ks) (hx : x ∉ ks) : Has (fun y => if y = x then v else m y) kv := fun p hp => by
  have h1 : p.1 ≠ x := fun e => hx (hk ▸ e ▸ List.mem_map_of_mem hp)
  show (if p.1 = x then v else m p.1) = some p.2
  rw [if_neg h1]; exact r p hp
/-- the names stand ahead -/
def over : List (Str × Value) → (Str → Option Value) → Str → Option Value
  | [], m => m
  | p :: r, m => fun z => if z = p.1 then some p.2 else over r m z
theorem over_has : ∀ {kv : List (Str × Value)} {m : Str → Option Value}, Has m kv → over kv m = m
  | [], _, _ => rfl
  | p :: r, m, h => by
    funext z
    show (if z = p.1 then some p.2 else over r m z) = m z
    rw [over_has (fun q hq => h q (List.mem_cons_of_mem _ hq))]
    by_cases hz : z = p.1
    · rw [if_pos hz, hz]; exact (h p (List.mem_cons_self ..)).symm
    · rw [if_neg hz]
theorem fr_over {h₀ h : Heap} {L : Addr} {m : Str → Option Value} {kv : List (Str × Value)} (F : Fr h₀ L h m) (r : Has m kv) : Fr h₀ L h (over kv m) := by rw [over_has r]; exact F
/-- the names that the law keeps -/
abbrev nmK (K : SK) (txt last : List Nat) (tt tl : Tok) (LS D : Addr) (start taken : Int) (unt place : Int) (q1 q2 q3 q4 : Tok) : List (Str × Value) :=
  [(Str.ofString "text", .str (tx txt) tt), (Str.ofString "last", .str (tx last) tl), (Str.ofString "stream", .ref K.S), (Str.ofString "lines", .ref LS), (Str.ofString "numbers", .ref D),
    (Str.ofString "start", .int start q1), (Str.ofString "taken", .int taken q2), (Str.ofString "until", .int unt q3), (Str.ofString "place", .int place q4)]
abbrev nmX (W : Int) (sz : Int) (line : List Nat) (i : Int) (qw qs ql qa : Tok) : List (Str × Value) :=
  [(Str.ofString "way", .int W qw), (Str.ofString "size", .int sz qs), (Str.ofString "line", .str (tx line) ql), (Str.ofString "at", .int i qa)]
abbrev nmKeys : List Str := [Str.ofString "text", Str.ofString "last", Str.ofString "stream", Str.ofString "lines", Str.ofString "numbers", Str.ofString "start", Str.ofString "taken", Str.ofString "until", Str.ofString "place"]
abbrev nmXKeys : List Str := [Str.ofString "way", Str.ofString "size", Str.ofString "line", Str.ofString "at"]
section
variable {m : Str → Option Value} {K : SK} {txt last : List Nat} {tt tl : Tok} {LS D : Addr} {start taken unt place : Int} {q1 q2 q3 q4 : Tok} {W sz i : Int} {line : List Nat} {qw qs ql qa : Tok} {x : Str} {v : Option Value}
theorem Has.bindK (r : Has m (nmK K txt last tt tl LS D start taken unt place q1 q2 q3 q4)) (hx : x ∉ nmKeys) : Has (fun y => if y = x then v else m y) (nmK K txt last tt tl LS D start taken unt place q1 q2 q3 q4) := r.bind rfl hx
theorem Has.bindX (r : Has m (nmX W sz line i qw qs ql qa)) (hx : x ∉ nmXKeys) : Has (fun y => if y = x then v else m y) (nmX W sz line i qw qs ql qa) := r.bind rfl hx
theorem Has.nine (r : Has m (nmK K txt last tt tl LS D start taken unt place q1 q2 q3 q4)) : m (Str.ofString "text") = some (.str (tx txt) tt) ∧ m (Str.ofString "last") = some (.str (tx last) tl) ∧ m (Str.ofString "stream") = some (.ref K.S) ∧ m (Str.ofString "lines") = some (.ref LS) ∧ m (Str.ofString "numbers") = some (.ref D) ∧
    m (Str.ofString "start") = some (.int start q1) ∧ m (Str.ofString "taken") = some (.int taken q2) ∧ m (Str.ofString "until") = some (.int unt q3) ∧ m (Str.ofString "place") = some (.int place q4) :=
  ⟨r _ (.head _), r _ (.tail _ (.head _)), r _ (.tail _ (.tail _ (.head _))), r _ (.tail _ (.tail _ (.tail _ (.head _)))), r _ (.tail _ (.tail _ (.tail _ (.tail _ (.head _))))), r _ (.tail _ (.tail _ (.tail _ (.tail _ (.tail _ (.head _)))))), r _ (.tail _ (.tail _ (.tail _ (.tail _ (.tail _ (.tail _ (.head _))))))), r _ (.tail _ (.tail _ (.tail _ (.tail _ (.tail _ (.tail _ (.tail _ (.head _)))))))), r _ (.tail _ (.tail _ (.tail _ (.tail _ (.tail _ (.tail _ (.tail _ (.tail _ (.head _)))))))))⟩
theorem Has.four (r : Has m (nmX W sz line i qw qs ql qa)) : m (Str.ofString "way") = some (.int W qw) ∧ m (Str.ofString "size") = some (.int sz qs) ∧ m (Str.ofString "line") = some (.str (tx line) ql) ∧ m (Str.ofString "at") = some (.int i qa) :=
  ⟨r _ (.head _), r _ (.tail _ (.head _)), r _ (.tail _ (.tail _ (.head _))), r _ (.tail _ (.tail _ (.tail _ (.head _))))⟩
theorem Has.app {kv kw : List (Str × Value)} (r : Has m kv) (q : Has m kw) : Has m (kv ++ kw) := fun p hp => (List.mem_append.mp hp).elim (r p) (q p)
end
/-- nothing of the ledger stands in the stream's place -/
structure Off3 (K : SK) (r : Led) : Prop where
  D : ∀ p ∈ r, p.1 ≠ K.D
  TD : ∀ p ∈ r, p.1 ≠ K.TD
  ER : ∀ p ∈ r, p.1 ≠ K.ER
theorem Off3.app {K : SK} {r q : Led} (h : Off3 K r) (g : Off3 K q) : Off3 K (r ++ q) := ⟨off_append h.D g.D, off_append h.TD g.TD, off_append h.ER g.ER⟩
theorem off3_low {K : SK} {r : Led} (hK : K.Ok) (h : ∀ p ∈ r, @LT.lt Nat _ p.1 K.D) : Off3 K r := by
  obtain ⟨k1, k2, k3, k4, k5, k6⟩ := hK
  refine ⟨fun p hp e => ?_, fun p hp e => ?_, fun p hp e => ?_⟩ <;> (have h1 := h p hp; rw [e] at h1; omega)
theorem sled_adr {w : World} {K : SK} {v : Vw} {t : Tk} : (sLed w K v t).map (·.1) = [K.ER, K.X, K.TD, K.NL, K.RM, K.S, K.D] := rfl
theorem off3_but {K : SK} {w : World} {v : Vw} {t : Tk} {own r : Led} {l : Addr} (h : OwnBut own l ((sLed w K v t ++ r).map (·.1))) (h1 : K.D ≠ l) (h2 : K.TD ≠ l) (h3 : K.ER ≠ l) : Off3 K own :=
  ⟨but_of h (by simp) h1, but_of h (by simp) h2, but_of h (by simp) h3⟩
theorem off3_off {K : SK} {w : World} {v : Vw} {t : Tk} {own r : Led} (h : OwnOff own ((sLed w K v t ++ r).map (·.1))) : Off3 K own :=
  ⟨off_of h (by simp), off_of h (by simp), off_of h (by simp)⟩
theorem off3_tup {K : SK} {w : World} {v : Vw} {t : Tk} {r : Led} {h₀ h : Heap} {L CH : Addr} {xs : Array Value} (N : News h₀ L h ((CH, ({ cls := .type "tuple", data := .seq xs } : Obj)) :: (sLed w K v t ++ r))) : Off3 K [(CH, ({ cls := .type "tuple", data := .seq xs } : Obj))] := by
  have h0 := (N _ (List.mem_cons_self ..)).1
  have key : ∀ b o, (b, o) ∈ sLed w K v t → o.cls ≠ .type "tuple" → CH ≠ b := by
    intro b o hm hc e
    have h1 := (N (b, o) (List.mem_cons_of_mem _ (List.mem_append_left _ hm))).1
    rw [← e] at h1
    rw [h0] at h1
    exact hc (congrArg Obj.cls (Option.some.inj h1)).symm
  refine ⟨fun p hp => ?_, fun p hp => ?_, fun p hp => ?_⟩ <;> rw [List.mem_singleton.mp hp]
  · exact key K.D (sD w K v.chunk t.a3 v.chunk.length t.a4 v.off t.a5 v.pl t.a7 v.pc t.a8 (bufV v.buf t.a9)) (by simp [sLed]) (by intro e; injection e with e; exact absurd e (by decide))
  · exact key K.TD (tD w K v.text t.b0 v.place t.b1) (by simp [sLed]) (by intro e; injection e with e; exact absurd e (by decide))
  · exact key K.ER (PySem.W.listOf (errV t.errs) t.c) (by simp [sLed]) (by intro e; injection e with e; exact absurd e (by decide))
theorem news_left {h₀ h : Heap} {L : Addr} {a b c : Led} (N : News h₀ L h (a ++ (b ++ c))) : News h₀ L h (a ++ b) := news_sub N fun _ hp =>
  (List.mem_append.mp hp).elim (fun h => List.mem_append_left _ h) (fun h => List.mem_append_right _ (List.mem_append_left _ h))
theorem news_mid {h₀ h : Heap} {L : Addr} {a r : Led} {c : Addr × Obj} (N : News h₀ L h (c :: (a ++ r))) : News h₀ L h (a ++ c :: r) := news_sub N fun p hp =>
  (List.mem_append.mp hp).elim (fun h => List.mem_cons_of_mem _ (List.mem_append_left _ h)) (fun h => (List.mem_cons.mp h).elim (fun e => e ▸ List.mem_cons_self ..) (fun h => List.mem_cons_of_mem _ (List.mem_append_right _ h)))
theorem news_skip {h₀ h : Heap} {L : Addr} {a r : Led} {c : Addr × Obj} (N : News h₀ L h (a ++ c :: r)) : News h₀ L h (a ++ r) := news_sub N fun p hp =>
  (List.mem_append.mp hp).elim (fun h => List.mem_append_left _ h) (fun h => List.mem_append_right _ (List.mem_cons_of_mem _ h))
theorem acc_at {acc : List (List Nat × Tok)} {i : Nat} {v : Value} (h : (acc.map fun p => Value.str (tx p.1) p.2)[i]? = some v) : ∃ x t, v = .str (tx x) t ∧ (acc.map (·.1))[i]? = some x := by
  rw [List.getElem?_map] at h
  cases hq : acc[i]? with
  | none => rw [hq] at h; cases h
  | some p => rw [hq] at h; exact ⟨p.1, p.2, by simpa using h.symm, by rw [List.getElem?_map, hq]; rfl⟩
section
variable {prog : Program} {w : World} {A : Around} {E : Value → Shared → Prop} {s : Shared} {env : Env} {h₀ : Heap} {body : List Stmt} {Q : Flow → Shared → Prop}
/-- what is to hold behind it, by a name -/
theorem abs_QE {Q : Flow → Shared → Prop} (hp : PassesOwn (model prog w) A env E) (h : ∀ Q' E', Q' = Q → PassesOwn (model prog w) A env E' → wpAny (model prog w) A (execs body env) Q' E' s) : wpAny (model prog w) A (execs body env) Q E s := h Q E rfl hp
theorem abs_Q {t : Sem Flow} {Q : Flow → Shared → Prop} (h : ∀ Q', Q' = Q → wpAny (model prog w) A t Q' E s) : wpAny (model prog w) A t Q E s := h Q rfl
/-- a loop over a text's signs that may be left by break -/
theorem iter_cut {x : Str} {l : List Nat} {tl : Tok} {m₀ : Str → Option Value} {news : Led} (J : Nat → (Str → Option Value) → Led → Prop) (P : (Str → Option Value) → Led → Prop)
    (hh : A.handled = none) (F : Fr h₀ env.locals s.heap m₀) (N : News h₀ env.locals s.heap news) (hj : J 0 m₀ news)
    (turn : ∀ i c t m₁ nx h tk own, l[i]? = some c → nx.map (·.1) = news.map (·.1) → OwnOff own (news.map (·.1)) → J i m₁ nx → Fr h₀ env.locals h (fun y => if y = x then some (.str (tx [c]) t) else m₁ y) → News h₀ env.locals h (nx ++ own) →
      wpAny (model prog w) A (execs body env) (InvPostN h₀ env.locals (J (i + 1)) own (news.map (·.1)) { s with heap := h, toks := tk } (CutQ h₀ env.locals P s)) E { s with heap := h, toks := tk })
    (done : ∀ m₁ nx, J l.length m₁ nx → P m₁ nx)
    (fin : ∀ m₁ nx h tk, P m₁ nx → Fr h₀ env.locals h m₁ → News h₀ env.locals h nx → Q .next { s with heap := h, toks := tk }) :
    wpAny (model prog w) A (pyIter (.str (tx l) tl)) (fun it s₂ => LoopAtV prog w A h₀ env x body Q E it s₂) E s := by
  refine iter_tx J hh F N hj ?_ ?_
  · intro i c t m₁ nx h tk own h1 h2 h3 h4 h5 h6
    refine wpAny_mono (turn i c t m₁ nx h tk own h1 h2 h3 h4 h5 h6) (fun f s₂ p => ?_) fun _ _ e => e
    have key : ∀ g, CutQ h₀ env.locals P s g s₂ → Q g s₂ := by
      intro g p
      cases p with
      | mk m nx h tk hP F N => exact fin m nx h tk hP F N
    cases f with
    | ret v => exact key _ p
    | brk => exact key _ p
    | next => exact p
    | cont => exact p
  · intro m₁ nx h tk hJ F N
    exact fin m₁ nx h tk (done m₁ nx hJ) F N
end
section
variable {prog : Program} {w : World} {A : Around} {E : Value → Shared → Prop} {s : Shared} {h₀ : Heap} {L : Addr} {news : Led} {Q : Value → Shared → Prop}
theorem r_tup_ne {T1 T2 : Addr} {a b a' b' : Int} {t u t' u' : Tok} (N : News h₀ L s.heap news) (hm1 : (T1, tup2 a t b u) ∈ news) (hm2 : (T2, tup2 a' t' b' u') ∈ news) (ea : a = a') (eb : b = b') (hu : A.units + 64 < cLine) (h : Q (.bool false) s) :
    wpAny (model prog w) A (compareOp .NotEq (.ref T1) (.ref T2)) Q E s := by
  subst ea eb
  refine ne_dataH (reads_tuple_at (News.get N hm1) rfl rfl (.cons (.int a t) (.cons (.int b u) .nil))) (reads_tuple_at (News.get N hm2) rfl rfl (.cons (.int a t') (.cons (.int b u') .nil))) rfl rfl hu ?_
  have e : PyData.eqv (.tuple [.int a, .int b]) (.tuple [.int a, .int b]) = true := by simp [PyData.eqv, PyData.eqvAll]
  first | (rw [e]; exact h) | (simp only [PyData.eqv, PyData.eqvAll, beq_self_eq_true, Bool.and_true, Bool.not_true]; exact h)
theorem r_tup_eq {T1 T2 : Addr} {a b a' b' : Int} {t u t' u' : Tok} (N : News h₀ L s.heap news) (hm1 : (T1, tup2 a t b u) ∈ news) (hm2 : (T2, tup2 a' t' b' u') ∈ news) (ea : a = a') (eb : b = b') (hu : A.units + 64 < cLine) (h : Q (.bool true) s) :
    wpAny (model prog w) A (compareOp .Eq (.ref T1) (.ref T2)) Q E s := by
  subst ea eb
  refine eq_dataH (reads_tuple_at (News.get N hm1) rfl rfl (.cons (.int a t) (.cons (.int b u) .nil))) (reads_tuple_at (News.get N hm2) rfl rfl (.cons (.int a t') (.cons (.int b u') .nil))) rfl rfl hu ?_
  have e : PyData.eqv (.tuple [.int a, .int b]) (.tuple [.int a, .int b]) = true := by simp [PyData.eqv, PyData.eqvAll]
  first | (rw [e]; exact h) | (simp only [PyData.eqv, PyData.eqvAll, beq_self_eq_true, Bool.and_true]; exact h)
theorem r_ieq_yes {a b : Int} {t u : Tok} (e : a = b) (h : Q (.bool true) s) : wpAny (model prog w) A (compareOp .Eq (.int a t) (.int b u)) Q E s := PyProof.Rows.eq_int (by subst e; simpa using h)
theorem r_ieq_no {a b : Int} {t u : Tok} (e : a ≠ b) (h : Q (.bool false) s) : wpAny (model prog w) A (compareOp .Eq (.int a t) (.int b u)) Q E s := PyProof.Rows.eq_int (by
  have q : (a == b) = false := by simpa using e
  rw [q]; exact h)
theorem r_igt_yes {a b : Int} {t u : Tok} (e : b < a) (h : Q (.bool true) s) : wpAny (model prog w) A (compareOp .Gt (.int a t) (.int b u)) Q E s := PyProof.Rows.gt_int (by rw [decide_eq_true e]; exact h)
theorem r_igt_no {a b : Int} {t u : Tok} (e : ¬ b < a) (h : Q (.bool false) s) : wpAny (model prog w) A (compareOp .Gt (.int a t) (.int b u)) Q E s := PyProof.Rows.gt_int (by rw [decide_eq_false e]; exact h)
theorem r_ige_yes {a b : Int} {t u : Tok} (e : b ≤ a) (h : Q (.bool true) s) : wpAny (model prog w) A (compareOp .GtE (.int a t) (.int b u)) Q E s := PyProof.Rows.ge_int (by first | (rw [decide_eq_true e]; exact h) | (simpa [e] using h))
theorem r_ige_no {a b : Int} {t u : Tok} (e : ¬ b ≤ a) (h : Q (.bool false) s) : wpAny (model prog w) A (compareOp .GtE (.int a t) (.int b u)) Q E s := PyProof.Rows.ge_int (by first | (rw [decide_eq_false e]; exact h) | (simpa [e] using h))
theorem r_ilt_yes {a b : Int} {t u : Tok} (e : a < b) (h : Q (.bool true) s) : wpAny (model prog w) A (compareOp .Lt (.int a t) (.int b u)) Q E s := PyProof.Rows.lt_int (by rw [decide_eq_true e]; exact h)
theorem r_ilt_no {a b : Int} {t u : Tok} (e : ¬ a < b) (h : Q (.bool false) s) : wpAny (model prog w) A (compareOp .Lt (.int a t) (.int b u)) Q E s := PyProof.Rows.lt_int (by rw [decide_eq_false e]; exact h)
theorem r_ne_same {a : List Nat} {t u : Tok} (h : Q (.bool false) s) : wpAny (model prog w) A (compareOp .NotEq (.str (tx a) t) (.str (tx a) u)) Q E s := r_ne (by simpa using h)
theorem r_eq_same {a : List Nat} {t u : Tok} (h : Q (.bool true) s) : wpAny (model prog w) A (compareOp .Eq (.str (tx a) t) (.str (tx a) u)) Q E s := r_eq (by simpa using h)
theorem r_eq_no {c : Nat} {t u : Tok} (hc : c ≠ 10) (h : Q (.bool false) s) : wpAny (model prog w) A (compareOp .Eq (.str (tx [c]) t) (.str (tx [10]) u)) Q E s := r_eq (by simpa [hc] using h)
theorem r_ne_yes {c : Nat} {t u : Tok} (hc : c ≠ 10) (h : Q (.bool true) s) : wpAny (model prog w) A (compareOp .NotEq (.str (tx [c]) t) (.str (tx [10]) u)) Q E s := r_ne (by simpa [hc] using h)
theorem r_find {l : List Nat} {c j : Nat} {t u : Tok} (hn : l.Nodup) (hj : l[j]? = some c) (h : Q (.int (j : Int) s.toks) { s with toks := s.toks + 1 }) : wpAny (model prog w) A (call (.builtin "str.find") [.str (tx l) t, .str (tx [c]) u]) Q E s := SC.find (by rw [find_at hn hj]; exact h)
end
theorem turn_facts {ls : List (List Nat)} {last txt line : List Nat} {i : Nat} (hW : Whole ls last txt) (hli : ls[i]? = some line) : ∃ R, norm txt = flat (ls.take i) ++ (line ++ 10 :: R) := by
  obtain ⟨R, hR⟩ := flat_at hli
  exact ⟨R ++ last, by rw [hW.norm, hR]; simp⟩
theorem turn_pos {ls : List (List Nat)} {last txt : List Nat} {i : Nat} {p : List Nat} (hW : Whole ls last txt) (hi : i ≤ ls.length) (hp : 10 ∉ p) : (flat (ls.take i) ++ p).count 10 = i ∧ colFrom 0 (flat (ls.take i) ++ p) = p.length := by
  have := flat_pos (ls := ls.take i) (p := p) (fun l hl => hW.good l (List.mem_of_mem_take hl)) hp
  rw [List.length_take, Nat.min_eq_left hi] at this
  exact this
theorem sign_at {line : List Nat} {j c : Nat} (hc : (line ++ [10])[j]? = some c) : (j < line.length ∧ line[j]? = some c) ∨ (j = line.length ∧ c = 10) := by
  rcases Nat.lt_or_ge j line.length with q | q
  · left
    rw [List.getElem?_append_left q] at hc
    exact ⟨q, hc⟩
  · right
    rw [List.getElem?_append_right q] at hc
    cases hk : j - line.length with
    | zero => rw [hk] at hc; exact ⟨by omega, by simpa using hc.symm⟩
    | succ k => rw [hk] at hc; simp at hc
theorem turn_next {txt line F R : List Nat} {j c : Nat} (hn : norm txt = F ++ (line ++ 10 :: R)) (hc : (line ++ [10])[j]? = some c) : norm txt = (F ++ line.take j) ++ c :: ((line ++ [10]).drop (j + 1) ++ R) := by
  obtain ⟨hl, e⟩ := List.getElem?_eq_some_iff.mp hc
  have h1 := List.take_append_drop j (line ++ [10])
  rw [List.drop_eq_getElem_cons hl, e] at h1
  have h2 : (line ++ [10]).take j = line.take j := List.take_append_of_le_length (by simp at hl; omega)
  rw [h2] at h1
  rw [hn, show line ++ 10 :: R = (line ++ [10]) ++ R by simp]
  conv => lhs; rw [← h1]
  simp
theorem line_split {line : List Nat} {j c : Nat} (h : line[j]? = some c) : line = line.take j ++ c :: line.drop (j + 1) ∧ line.take (j + 1) = line.take j ++ [c] := by
  obtain ⟨hl, e⟩ := List.getElem?_eq_some_iff.mp h
  refine ⟨?_, by rw [List.take_succ_eq_append_getElem hl, e]⟩
  have := List.take_append_drop j line
  rw [List.drop_eq_getElem_cons hl, e] at this
  exact this.symm
end Mine
namespace Mine
theorem has_bad (n : Nat) : Txt.contains (Str.ofString "\x7f\u0085") ⟨#[n]⟩ = isBad n := by
  rw [lit_bad]
  have key : Txt.contains (tx [127, 133]) ⟨#[n]⟩ = true ↔ (n = 127 ∨ n = 133) := by
    rcases find_whole (tx [127, 133]) ⟨#[n]⟩ with ⟨h1, h2⟩ | ⟨i, h1, h2, _⟩
    · have hno : ¬ (n = 127 ∨ n = 133) := by
        rintro (rfl | rfl)
        · exact h2 0 ((at_one [127, 133] 127 0).mpr rfl)
        · exact h2 1 ((at_one [127, 133] 133 1).mpr rfl)
      constructor
      · intro h
        exfalso
        unfold Txt.contains at h
        unfold Txt.find at h1
        cases hq : Builtin.Str.occurrences (tx [127, 133]) ⟨#[n]⟩ 0 (tx [127, 133]).length 1 with
        | nil => rw [hq] at h; cases h
        | cons a r => rw [hq] at h1; simp only at h1; omega
      · intro h; exact absurd h hno
    · have h3 := (at_one [127, 133] n i).mp h2
      constructor
      · intro _
        rcases i with _ | _ | i
        · left; simpa using h3.symm
        · right; simpa using h3.symm
        · simp at h3
      · intro _
        unfold Txt.contains
        unfold Txt.find at h1
        cases hq : Builtin.Str.occurrences (tx [127, 133]) ⟨#[n]⟩ 0 (tx [127, 133]).length 1 with
        | nil => rw [hq] at h1; simp only at h1; omega
        | cons a r => rfl
  unfold isBad
  rw [Bool.eq_iff_iff, key, decide_eq_true_iff]
theorem bad_len (l : List Nat) : ((PyProof.Rows.signs (tx l)).filter fun a => Txt.contains (Str.ofString "\x7f\u0085") a).length = l.countP isBad := by
  have e : PyProof.Rows.signs (tx l) = l.map fun n => (⟨#[n]⟩ : Str) := by
    unfold PyProof.Rows.signs
    simp
  rw [e]
  induction l with
  | nil => rfl
  | cons c r ih =>
    have ih := ih (by unfold PyProof.Rows.signs; simp)
    rw [List.map_cons, List.filter_cons, has_bad, List.countP_cons]
    cases isBad c with
    | true => simp only [if_true, List.length_cons, ih]
    | false => simp only [Bool.false_eq_true, if_false, ih, Nat.add_zero]
theorem flat_rep {α : Type} (a : α) : ∀ n : Nat, (List.replicate n [a]).flatten = List.replicate n a
  | 0 => rfl
  | n + 1 => by rw [List.replicate_succ, List.flatten_cons, flat_rep a n]; rfl
theorem carried_errs (x : Str) : ∀ l : List Tok, CarriedAll (l.map fun t => Value.str x t) (List.replicate l.length (PyData.str x))
  | [] => .nil
  | t :: r => .cons (.str x t) (carried_errs x r)
theorem carried_rep (x : Str) (t : Tok) : ∀ n : Nat, CarriedAll (List.replicate n (Value.str x t)) (List.replicate n (PyData.str x))
  | 0 => .nil
  | n + 1 => .cons (.str x t) (carried_rep x t n)
theorem shaped_rep (x : Str) (hx : PyData.strOk x = true) (n : Nat) : SeqAt.shaped (.list (List.replicate n (PyData.str x))) = true := by
  have h1 : ∀ n, PyData.canLayAll0 (List.replicate n (PyData.str x)) = true := by
    intro n
    induction n with
    | zero => rfl
    | succ n ih => simp [List.replicate_succ, PyData.canLayAll0, PyData.canLay0, ih, hx]
  have h2 : ∀ n, PyData.depthAll (List.replicate n (PyData.str x)) = 0 := by
    intro n
    induction n with
    | zero => rfl
    | succ n ih => simp [List.replicate_succ, PyData.depthAll, PyData.depth, ih]
  simp [SeqAt.shaped, PyData.canLay0, PyData.depth, h1, h2]
theorem eqv_rep (x : Str) (n : Nat) : PyData.eqv (.list (List.replicate n (PyData.str x))) (.list (List.replicate n (PyData.str x))) = true := by
  have h1 : ∀ n, PyData.eqvAll (List.replicate n (PyData.str x)) (List.replicate n (PyData.str x)) = true := by
    intro n
    induction n with
    | zero => rfl
    | succ n ih => simp [List.replicate_succ, PyData.eqvAll, PyData.eqv, ih]
  simp [PyData.eqv, h1]
section
variable {prog : Program} {w : World} {A : Around} {E : Value → Shared → Prop} {s : Shared} {h₀ : Heap} {L : Addr} {news : Led} {Q : Value → Shared → Prop}
theorem r_errs_eq {a b : Addr} {x : Str} {l : List Tok} {c n : Nat} {vs : List Value} (N : News h₀ L s.heap news) (hm : (a, PySem.W.listOf (l.map fun t => Value.str x t).toArray c) ∈ news) (hb : s.heap.IsList b vs.toArray) (hv : CarriedAll vs (List.replicate n (PyData.str x))) (hn : l.length = n) (hx : PyData.strOk x = true) (hu : A.units + 64 < cLine) (h : Q (.bool true) s) :
    wpAny (model prog w) A (compareOp .Eq (.ref a) (.ref b)) Q E s := by
  subst hn
  refine eq_dataH (reads_newData (News.isList N hm) (carried_errs x l)) (reads_newData hb hv) (shaped_rep _ hx _) (shaped_rep _ hx _) hu ?_
  rw [eqv_rep]; exact h
end
end Mine
end
open PySem PySem.W PyProof.Rows PySem.Calls
namespace Mine
local macro_rules | `(tactic| k_room) => `(tactic| ((try simp only [depth_under_make, depth_under_kw, depth_in1, depth_deeper, depth_caller]); (try dsimp only [ktrTop]); first | exact Mine.room3 (by assumption) (by decide) | exact Mine.room2 (by assumption) (by decide) | omega))
-- lengths and signs of lists
local macro_rules | `(tactic| walk_at "mine ar") => `(tactic| first | assumption | exact Nat.succ_pos _ | exact Nat.lt_succ_self _ | exact Nat.le_trans (by assumption) (Nat.le_of_ble_eq_true rfl) | exact Nat.le_of_ble_eq_true rfl | omega | ((try simp only [List.length_append, List.length_take, List.length_drop, List.length_cons, List.length_nil, List.length_dropLast]); omega))
local macro_rules | `(tactic| walk_at "eval Constant str") => `(tactic| (k_here; with_reducible first | refine Mine.r_nl ?_ | refine Mine.r_cr ?_ | refine Mine.r_crnl ?_ | refine Mine.r_empty ?_))
local macro_rules | `(tactic| walk_at "mine slice") => `(tactic| (k_here; (with_reducible rename Fr _ _ _ _ => F'); (with_reducible rename News _ _ _ _ => N'); (first
  | refine Mine.r_slice_ss (s := ⟨_, _, _, _, _⟩) F' N' (by walk_at "mine ar") (by walk_at "mine ar") (by walk_at "mine ar") ?_
  | refine Mine.r_slice_back (s := ⟨_, _, _, _, _⟩) F' N' (by walk_at "mine ar") ?_
  | refine Mine.r_slice_sn (s := ⟨_, _, _, _, _⟩) F' N' (by walk_at "mine ar") (by walk_at "mine ar") ?_
  | refine Mine.r_slice_front (s := ⟨_, _, _, _, _⟩) F' N' (by walk_at "mine ar") (by walk_at "mine ar") ?_); intro h' t' k' F' N'))
local macro_rules | `(tactic| walk_at "mine item") => `(tactic| (k_here; first | refine Mine.r_item_last (by walk_at "mine ar") (by walk_at "mine ar") ?_ | refine Mine.r_item (by walk_at "mine ar") (by walk_at "mine ar") (by walk_at "mine ar") ?_))
local macro_rules | `(tactic| walk_at "binaryOp Add str str") => `(tactic| (k_here; refine Mine.r_add (by walk_at "mine ar") ?_; intro t' k'))
local macro_rules | `(tactic| walk_at "inplaceOp Add str str") => `(tactic| (k_here; refine Mine.r_iadd (by walk_at "mine ar") ?_; intro t' k'))
local macro_rules | `(tactic| walk_at "compareOp Eq str str") => `(tactic| (k_here; with_reducible refine Mine.r_eq ?_))
local macro_rules | `(tactic| walk_at "compareOp NotEq str str") => `(tactic| (k_here; with_reducible refine Mine.r_ne ?_))
local macro_rules | `(tactic| walk_at "call builtin:len") => `(tactic| (k_here; refine Mine.r_len (by first | walk_at "mine ar" | (refine Mine.norm_le ?_; walk_at "mine ar")) ?_))
local macro_rules | `(tactic| walk_at "call builtin:ord") => `(tactic| (k_here; with_reducible refine Mine.r_ord _ ?_))
local macro_rules | `(tactic| walk_at "truthy str") => `(tactic| (k_here; refine Mine.r_truthy (by walk_at "mine ar") ?_; intro k'))
local macro_rules | `(tactic| walk_at "call builtin:str.count") => `(tactic| (k_here; refine Mine.r_count (by walk_at "mine ar") (by walk_at "mine ar") ?_))
local macro_rules | `(tactic| walk_at "call builtin:str.rfind") => `(tactic| (k_here; refine Mine.r_rfind (by walk_at "mine ar") (by walk_at "mine ar") ?_))
local macro_rules | `(tactic| walk_at "call builtin:str.replace") => `(tactic| (k_here; (first | refine Mine.r_repl1 (by walk_at "mine ar") (by walk_at "mine ar") (by walk_at "mine ar") (by walk_at "mine ar") ?_ | refine Mine.r_repl2 (by walk_at "mine ar") (by walk_at "mine ar") (by walk_at "mine ar") (by walk_at "mine ar") ?_); intro t' k'))
local macro_rules | `(tactic| k_all) => `(tactic| first | assumption | (refine' Mine.ne_of_allLt ?_; assumption))
local macro_rules | `(tactic| k_ne) => `(tactic| exact Mine.Apart.ne (by assumption) (by constructor))
local macro_rules | `(tactic| walk_at "mine eq") => `(tactic| first | rfl | (dsimp only; omega) | assumption)
local macro_rules | `(tactic| walk_at "mine sled") => `(tactic| (refine' Mine.sled_in ?n ?e1 ?e2 ?e3 ?e4 ?e5 ?e6 ?e7 ?e8 ?e9; (case n => first | k_asm | exact Mine.news_tail (by k_asm) | exact Mine.news_drop8 (by k_asm)); (case e1 => first | exact Mine.errV_push _ _ | walk_at "mine eq"); (case e8 => first | exact Mine.buf_no (t := 0) | exact Mine.buf_cut (by assumption) | walk_at "mine eq"); all_goals walk_at "mine eq"))
local macro_rules | `(tactic| walk_at "mine pos") => `(tactic| first | exact Nat.le_add_left 1 _ | assumption | exact Nat.le_add_right 1 _ | omega | (dsimp only; omega) | (simp only [List.length_cons, List.length_nil]; omega))
local macro_rules | `(tactic| walk_at "execs cons") => `(tactic| (k_here; first | (with_reducible refine Mine.gen_toks1 ?_; intro tk htk) | (with_reducible (refine Mine.gen_toks (X := _ + List.length _) ?k1 ?_); (case k1 => walk_at "mine pos"); intro tk htk)))
local macro_rules | `(tactic| walk_at "subscriptTail") => `(tactic| walk_at "mine slice")
local macro_rules | `(tactic| walk_at "subscriptTail Name Slice str ref") => `(tactic| walk_at "mine slice")
local macro_rules | `(tactic| walk_at "subscriptTail Attribute Name Slice str ref") => `(tactic| walk_at "mine slice")
local macro_rules | `(tactic| walk_at "subscriptTail") => `(tactic| walk_at "mine item")
local macro_rules | `(tactic| walk_at "subscriptTail Name UnaryOp str int") => `(tactic| walk_at "mine item")
local macro_rules | `(tactic| walk_at "subscriptTail Name Name str int") => `(tactic| walk_at "mine item")
local macro_rules | `(tactic| walk_at "subscriptTail Name BinOp str int") => `(tactic| walk_at "mine item")
local macro_rules | `(tactic| walk_at "subscriptTail Attribute Name Name str int") => `(tactic| walk_at "mine item")
local macro_rules | `(tactic| k_mem) => `(tactic| assumption)

theorem fill (w : World) : PySem.Challenge.rw_te0075_01.most = some 63 ∧ (Mine.hd.heap_39 w.params).length = (Mine.hd.heap_39 w.params).length := by
  k_fill
  exact ⟨rfl, rfl⟩


theorem again1 : True := by
  w_top off
  try walk1
  trivial
section
variable {w : World} {mean : ExcName → Option Value} {mg mb : Str → Option Value} {dp un : Nat} {gd : Option (List Code)} {cn : Str} {csn : List (Str × NameKind)} {csm : List (Str × Const)} {a : Addr} {ccd : Value} {cl : List (Str × Addr)} {outer : List Env} {A₀ : Around} {base h₀ : Heap} {L : Addr} {m : Str → Option Value} {rest : Led} {s : Shared} {Q E : Value → Shared → Prop}
  (B : Below A₀ base outer h₀) (F : Fr h₀ L s.heap m) (X : (Mine.hd.heap_39 w.params).In h₀) (T : Top Mine.hd.view_39 (looseW Mine.hd.view_39 [Str.ofString "HTMLUnicodeInputStream"]) mean mg mb h₀)
include B F X T
theorem isInvalid_spec (c : Nat) (t : Tok) (hc : c < 256) (N : News h₀ L s.heap rest) (hd : dp + 4 < recursionLimit)
    (hret : ∀ h' tk', Fr h₀ L h' m → News h₀ L h' rest → Q (.bool (inv c)) { s with heap := h', toks := tk' }) :
    wpAny (model PySem.Challenge.rw_te0075_01.row.prog w) (ktrTop dp un gd cn ⟨.function, csn, false, false, csm⟩ L a ccd cl outer) (call (.ref 49) [.int c t]) Q E s := by
  k_steps
  all_goals refine close_bool (hret _ _ (by k_asm) (by first | k_asm | exact news_tail (by k_asm))) ?_
  all_goals first
    | (unfold inv; rw [Bool.eq_iff_iff]; simp only [decide_eq_true_eq, beq_iff_eq, no_far hc]; omega)
    | (exfalso; (have hno := no_far hc); simp_all; done)

end

theorem again2 : True := by
  w_top off
  try walk1
  trivial
section
variable {w : World} {mean : ExcName → Option Value} {mg mb : Str → Option Value} {dp un : Nat} {gd : Option (List Code)} {cn : Str} {csn : List (Str × NameKind)} {csm : List (Str × Const)} {a : Addr} {ccd : Value} {cl : List (Str × Addr)} {outer : List Env} {A₀ : Around} {base h₀ : Heap} {L : Addr} {m : Str → Option Value} {rest : Led} {s : Shared} {Q E : Value → Shared → Prop}
  (B : Below A₀ base outer h₀) (F : Fr h₀ L s.heap m) (X : (Mine.hd.heap_39 w.params).In h₀) (T : Top Mine.hd.view_39 (looseW Mine.hd.view_39 [Str.ofString "HTMLUnicodeInputStream"]) mean mg mb h₀)
include B F X T
theorem posn_spec (K : SK) (o1 o2 o3 o4 o5 : Obj) (chunk : List Nat) (a3 a4 a5 a7 a8 : Tok) (cs off : Int) (pl pc : Nat) (bv : Value) (n : Nat) (tn : Tok) (hn : n ≤ chunk.length) (hz : chunk.length ≤ 5000)
    (N : News h₀ L s.heap ((K.ER, o1) :: (K.X, o2) :: (K.TD, o3) :: (K.NL, o4) :: (K.RM, o5) :: (K.S, instObj 131 K.D) :: (K.D, sD w K chunk a3 cs a4 off a5 pl a7 pc a8 bv) :: rest)) (hd : dp + 4 < recursionLimit)
    (hret : ∀ T t1 t2 h' tk', Fr h₀ L h' m → News h₀ L h' ((T, tup2 ((pl + (chunk.take n).count 10 : Nat) : Int) t1 (colFrom pc (chunk.take n)) t2) :: (K.ER, o1) :: (K.X, o2) :: (K.TD, o3) :: (K.NL, o4) :: (K.RM, o5) :: (K.S, instObj 131 K.D) :: (K.D, sD w K chunk a3 cs a4 off a5 pl a7 pc a8 bv) :: rest) →
      AllLt T ((K.ER, o1) :: (K.X, o2) :: (K.TD, o3) :: (K.NL, o4) :: (K.RM, o5) :: (K.S, instObj 131 K.D) :: (K.D, sD w K chunk a3 cs a4 off a5 pl a7 pc a8 bv) :: rest) → Q (.ref T) { s with heap := h', toks := tk' }) :
    wpAny (model PySem.Challenge.rw_te0075_01.row.prog w) (ktrTop dp un gd cn ⟨.function, csn, false, false, csm⟩ L a ccd cl outer) (call (.ref 84) [.ref K.S, .int n tn]) Q E s := by
  k_steps
  all_goals (
    refine' hret _ _ _ _ _ (by k_asm) ?n ?f
    case f => assumption
    case n =>
      refine' news_tup2 ?n ?a ?b
      (case n => k_asm)
      (case a => simp)
      (case b =>
        simp only [Int.toNat_natCast] at *
        (have hl : (chunk.take n).length = n := by simp; omega)
        first
        | (rw [col_none _ _ (by assumption), hl])
        | (rw [col_some _ _ (by assumption), hl])))
theorem position_spec (K : SK) (o1 o2 o3 o4 o5 : Obj) (chunk : List Nat) (a3 a4 a5 a7 a8 : Tok) (cs : Int) (off pl pc : Nat) (bv : Value) (hn : off ≤ chunk.length) (hz : chunk.length ≤ 5000)
    (N : News h₀ L s.heap ((K.ER, o1) :: (K.X, o2) :: (K.TD, o3) :: (K.NL, o4) :: (K.RM, o5) :: (K.S, instObj 131 K.D) :: (K.D, sD w K chunk a3 cs a4 off a5 pl a7 pc a8 bv) :: rest)) (hd : dp + 8 < recursionLimit)
    (hret : ∀ T t1 t2 h' tk', Fr h₀ L h' m → News h₀ L h' ((T, tup2 ((pl + (chunk.take off).count 10 + 1 : Nat) : Int) t1 (colFrom pc (chunk.take off)) t2) :: (K.ER, o1) :: (K.X, o2) :: (K.TD, o3) :: (K.NL, o4) :: (K.RM, o5) :: (K.S, instObj 131 K.D) :: (K.D, sD w K chunk a3 cs a4 off a5 pl a7 pc a8 bv) :: rest) →
      AllLt T ((K.ER, o1) :: (K.X, o2) :: (K.TD, o3) :: (K.NL, o4) :: (K.RM, o5) :: (K.S, instObj 131 K.D) :: (K.D, sD w K chunk a3 cs a4 off a5 pl a7 pc a8 bv) :: rest) → Q (.ref T) { s with heap := h', toks := tk' }) :
    wpAny (model PySem.Challenge.rw_te0075_01.row.prog w) (ktrTop dp un gd cn ⟨.function, csn, false, false, csm⟩ L a ccd cl outer) (call (.ref 91) [.ref K.S]) Q E s := by
  k_steps
  all_goals (
    refine' hret _ _ _ _ _ (by k_asm) ?n ?f
    case f => exact And.right (a := _) (by assumption)
    case n =>
      refine' news_tup2 (news_drop2 ?n) ?a ?b
      (case n => k_asm)
      (case a => simp; try omega)
      (case b =>
        simp only [Int.toNat_natCast] at *
        (have hl : (chunk.take off).length = off := by simp; omega)
        first
        | (rw [col_none _ _ (by assumption), hl])
        | (rw [col_some _ _ (by assumption), hl])))

end

theorem again3 : True := by
  w_top off
  try walk1
  trivial
section
variable {w : World} {mean : ExcName → Option Value} {mg mb : Str → Option Value} {dp un : Nat} {gd : Option (List Code)} {cn : Str} {csn : List (Str × NameKind)} {csm : List (Str × Const)} {a : Addr} {ccd : Value} {cl : List (Str × Addr)} {outer : List Env} {A₀ : Around} {base h₀ : Heap} {L : Addr} {m : Str → Option Value} {rest : Led} {s : Shared} {Q E : Value → Shared → Prop}
  (B : Below A₀ base outer h₀) (F : Fr h₀ L s.heap m) (X : (Mine.hd.heap_39 w.params).In h₀) (T : Top Mine.hd.view_39 (looseW Mine.hd.view_39 [Str.ofString "HTMLUnicodeInputStream"]) mean mg mb h₀)
include B F X T
theorem char_spec (K : SK) (v : Vw) (t : Tk) (hK : K.Ok) (he : t.errs.length = v.ne) (rD : ∀ p ∈ rest, p.1 ≠ K.D) (hn : v.off < v.chunk.length) (hz : v.chunk.length ≤ 5000) (N : News h₀ L s.heap (sLed w K v t ++ rest)) (hd : dp + 4 < recursionLimit)
    (hret : ∀ tr t' h' tk', Fr h₀ L h' m → News h₀ L h' (sLed w K { v with off := v.off + 1 } t' ++ rest) → t'.errs.length = v.ne → Q (.str (tx [v.chunk.getD v.off 0]) tr) { s with heap := h', toks := tk' }) :
    wpAny (model PySem.Challenge.rw_te0075_01.row.prog w) (ktrTop dp un gd cn ⟨.function, csn, false, false, csm⟩ L a ccd cl outer) (call (.ref 98) [.ref K.S]) Q E s := by
  obtain ⟨k1, k2, k3, k4, k5, k6⟩ := id hK
  simp only [List.cons_append, List.nil_append] at N
  k_steps
  simp only [Int.toNat_natCast]
  refine' hret _ _ _ _ (by k_asm) ?n ?he
  case n => walk_at "mine sled"
  case he => exact he
theorem unget_spec (K : SK) (v : Vw) (t : Tk) (tu : Tok) (hK : K.Ok) (he : t.errs.length = v.ne) (rD : ∀ p ∈ rest, p.1 ≠ K.D) (h0 : 1 ≤ v.off) (hn : v.off ≤ v.chunk.length) (h10 : v.chunk.getD (v.off - 1) 0 = 10) (hz : v.chunk.length ≤ 5000) (N : News h₀ L s.heap (sLed w K v t ++ rest)) (hd : dp + 4 < recursionLimit)
    (hret : ∀ t' h' tk', Fr h₀ L h' m → News h₀ L h' (sLed w K { v with off := v.off - 1 } t' ++ rest) → t'.errs.length = v.ne → Q .none { s with heap := h', toks := tk' }) :
    wpAny (model PySem.Challenge.rw_te0075_01.row.prog w) (ktrTop dp un gd cn ⟨.function, csn, false, false, csm⟩ L a ccd cl outer) (call (.ref 128) [.ref K.S, .str (tx [10]) tu]) Q E s := by
  obtain ⟨k1, k2, k3, k4, k5, k6⟩ := id hK
  simp only [List.cons_append, List.nil_append] at N
  have g1 : (v.off : Int) ≠ 0 := by omega
  have g2 : [v.chunk.getD ((v.off : Int) - 1).toNat 0] = [10] := by
    have e : ((v.off : Int) - 1).toNat = v.off - 1 := by omega
    rw [e, h10]
  k_steps
  all_goals first
    | (exfalso; contradiction)
    | (refine' hret _ _ _ (by k_asm) ?n ?he
       case n => walk_at "mine sled"
       case he => exact he)
theorem unget_none (K : SK) (N : News h₀ L s.heap rest) (hd : dp + 4 < recursionLimit)
    (hret : ∀ h' tk', Fr h₀ L h' m → News h₀ L h' rest → Q .none { s with heap := h', toks := tk' }) :
    wpAny (model PySem.Challenge.rw_te0075_01.row.prog w) (ktrTop dp un gd cn ⟨.function, csn, false, false, csm⟩ L a ccd cl outer) (call (.ref 128) [.ref K.S, .none]) Q E s := by
  k_steps
  exact hret _ _ (by k_asm) (by k_asm)

end

theorem again4 : True := by
  w_top off
  try walk1
  trivial
section
variable {w : World} {mean : ExcName → Option Value} {mg mb : Str → Option Value} {dp un : Nat} {gd : Option (List Code)} {cn : Str} {csn : List (Str × NameKind)} {csm : List (Str × Const)} {a : Addr} {ccd : Value} {cl : List (Str × Addr)} {outer : List Env} {A₀ : Around} {base h₀ : Heap} {L : Addr} {m : Str → Option Value} {rest : Led} {s : Shared} {Q E : Value → Shared → Prop}
  (B : Below A₀ base outer h₀) (F : Fr h₀ L s.heap m) (X : (Mine.hd.heap_39 w.params).In h₀) (T : Top Mine.hd.view_39 (looseW Mine.hd.view_39 [Str.ofString "HTMLUnicodeInputStream"]) mean mg mb h₀)
include B F X T
theorem read_spec (K : SK) (text : List Nat) (b0 : Tok) (place : Nat) (b1 : Tok) (o1 o2 o3 o4 o5 : Obj) (n : Nat) (tn : Tok) (P : List Nat) (hP : P = (text.drop place).take n) (hK : K.Ok) (rTD : ∀ p ∈ rest, p.1 ≠ K.TD) (hz1 : text.length ≤ 5000)
    (N : News h₀ L s.heap ((K.ER, o1) :: (K.X, instObj 38 K.TD) :: (K.TD, tD w K text b0 place b1) :: (K.NL, o2) :: (K.RM, o3) :: (K.S, o4) :: (K.D, o5) :: rest)) (hd : dp + 4 < recursionLimit)
    (hret : ∀ tr b1' h' tk', Fr h₀ L h' m → News h₀ L h' ((K.ER, o1) :: (K.X, instObj 38 K.TD) :: (K.TD, tD w K text b0 (place + P.length : Nat) b1') :: (K.NL, o2) :: (K.RM, o3) :: (K.S, o4) :: (K.D, o5) :: rest) →
      Q (.str (tx P) tr) { s with heap := h', toks := tk' }) :
    wpAny (model PySem.Challenge.rw_te0075_01.row.prog w) (ktrTop dp un gd cn ⟨.function, csn, false, false, csm⟩ L a ccd cl outer) (call (.ref 35) [.ref K.X, .int n tn]) Q E s := by
  obtain ⟨k1, k2, k3, k4, k5, k6⟩ := id hK
  k_steps
  have e1 : ((place : Int)).toNat = place := by omega
  have e2 : ((place : Int) + n - place).toNat = n := by omega
  simp only [e1, e2] at *
  subst hP
  refine' hret _ _ _ _ (by k_asm) (?n : News _ _ _ _)
  case n => 
    rw [Int.natCast_add]
    k_asm

end

theorem again5 : True := by
  w_top off
  try walk1
  trivial
section
variable {w : World} {mean : ExcName → Option Value} {mg mb : Str → Option Value} {dp un : Nat} {gd : Option (List Code)} {cn : Str} {csn : List (Str × NameKind)} {csm : List (Str × Const)} {a : Addr} {ccd : Value} {cl : List (Str × Addr)} {outer : List Env} {A₀ : Around} {base h₀ : Heap} {L : Addr} {m : Str → Option Value} {rest : Led} {s : Shared} {Q E : Value → Shared → Prop}
  (B : Below A₀ base outer h₀) (F : Fr h₀ L s.heap m) (X : (Mine.hd.heap_39 w.params).In h₀) (T : Top Mine.hd.view_39 (looseW Mine.hd.view_39 [Str.ofString "HTMLUnicodeInputStream"]) mean mg mb h₀)
include B F X T
local macro_rules | `(tactic| walk_at "call ref") => `(tactic| (k_here; (with_reducible show wpAny _ _ (call (Value.ref 49) _) _ _ _); k_dflt (refine' isInvalid_spec ?b ?f ?x ?t _ _ ?c ?n ?d ?_; (case b => k_asm); (case f => k_asm); (case x => k_asm); (case t => k_asm); (case c => assumption); (case n => k_asm); (case d => k_room)); intro h' tk' F' N'; (try k_sweep); (try dsimp only)))
local macro_rules | `(tactic| walk_at "call builtin:list.append") => `(tactic| (k_here; (with_reducible show wpAny _ _ (call (Value.builtin _) [Value.ref _, _]) _ _ _); k_dflt (refine' append_K ?k1 ?k2 ?k3 ?_ ?z; (case k1 => k_asm); (case k2 => k_asm); (case k3 => k_upd); (case z => assumption); k_whole); intro h' F' N'; (try k_sweep)))
theorem cherr_code (K : SK) (errs : List Tok) (c0 : Nat) (o1 o2 o3 o4 : Obj) (chunk : List Nat) (a3 a4 a5 a7 a8 : Tok) (cs off pl pc : Int) (bv : Value) (data : List Nat) (td : Tok) (hK : K.Ok) (rER : ∀ p ∈ rest, p.1 ≠ K.ER) (hz : errs.length + data.length ≤ 5000) (hs : ∀ c ∈ data, c < 256)
    (N : News h₀ L s.heap ((K.ER, PySem.W.listOf (errV errs) c0) :: (K.X, o1) :: (K.TD, o2) :: (K.NL, o3) :: (K.RM, o4) :: (K.S, instObj 131 K.D) :: (K.D, sD w K chunk a3 cs a4 off a5 pl a7 pc a8 bv) :: rest)) (hd : dp + 12 < recursionLimit)
    (hret : ∀ errs' c' h' tk', Fr h₀ L h' m → News h₀ L h' ((K.ER, PySem.W.listOf (errV errs') c') :: (K.X, o1) :: (K.TD, o2) :: (K.NL, o3) :: (K.RM, o4) :: (K.S, instObj 131 K.D) :: (K.D, sD w K chunk a3 cs a4 off a5 pl a7 pc a8 bv) :: rest) →
      errs'.length = errs.length + data.countP inv → Q .none { s with heap := h', toks := tk' }) :
    codeAny (model PySem.Challenge.rw_te0075_01.row.prog w) (ktrTop dp un gd cn ⟨.function, csn, false, false, csm⟩ L a ccd cl outer) (.call (.ref 113) ⟨[.ref K.S, .str (tx data) td], []⟩) (fun r s' => match r with | .ok (.ret v) => Q v s' | .ok _ => False | .error e => E e s') s := by
  obtain ⟨k1, k2, k3, k4, k5, k6⟩ := hK
  k_dflt k_enter
  (repeat' ((fail_if_success (with_reducible show wpAny _ _ (exec (Stmt.For _ _ _ _ _) _) _ _ _)); first | (k_unfold; (try dsimp only)) | (k_end; wrow_close) | walk1 | (dsimp only; walk1) | (leave1; walk_say "STEP leave1"; try dsimp only)))
  (((with_reducible rename Fr _ _ _ _ => lF'); (with_unfolding_all refine' For_invVF lF' ?k1 ?k2 ?_; (case k1 => exact rfl); (case k2 => exact rfl))))
  (repeat' ((fail_if_success (with_reducible show wpAny _ _ (pyIter _) _ _ _)); first | (k_unfold; (try dsimp only)) | (k_end; wrow_close) | walk1 | (dsimp only; walk1) | (leave1; walk_say "STEP leave1"; try dsimp only)))
  (with_reducible rename Fr _ _ _ _ => F1)
  (with_reducible rename News _ _ _ _ => N1)
  refine iter_tx (fun i m nx => (∃ errs' c', nx = ((K.ER, PySem.W.listOf (errV errs') c') :: (K.X, o1) :: (K.TD, o2) :: (K.NL, o3) :: (K.RM, o4) :: (K.S, instObj 131 K.D) :: (K.D, sD w K chunk a3 cs a4 off a5 pl a7 pc a8 bv) :: rest) ∧ errs'.length = errs.length + (data.take i).countP inv) ∧ m (Str.ofString "self") = some (.ref K.S)) (by rfl) F1 N1 ⟨⟨errs, c0, rfl, by simp⟩, by rfl⟩ ?_ ?_
  · clear N1 F1 N
    rintro i c tc m₁ nx h tk own hc - hoff ⟨⟨errs', c', rfl, he'⟩, hself⟩ F2 N2
    have F3 := fr_known (Str.ofString "self") F2 (v := .ref K.S) (by rw [if_neg (by decide)]; exact hself)
    clear F2
    have rER' : ∀ p ∈ rest ++ own, p.1 ≠ K.ER := off_append rER (off_of hoff (by simp))
    have hc256 : c < 256 := hs c (List.mem_of_getElem? hc)
    have htake : (data.take (i + 1)).countP inv = (data.take i).countP inv + if inv c then 1 else 0 := by
      rw [List.take_add_one, hc]; simp [List.countP_append, List.countP_cons]
    have hsz : (errV errs').size ≤ sizeLine := by
      have q := List.countP_le_length (p := inv) (l := data.take i)
      simp only [List.size_toArray, List.length_map, List.length_take, sizeLine_eq] at q ⊢
      omega
    simp only [List.cons_append] at N2
    generalize hnx : rest ++ own = rest' at N2 rER'
    k_steps
    all_goals (subst hnx)
    · (with_reducible rename Fr _ _ _ _ => F9)
      (with_reducible rename News _ _ _ _ => N9)
      rw [errV_push] at N9
      refine end_in (nx := (K.ER, PySem.W.listOf (errV (errs' ++ [_])) (c' + 1)) :: (K.X, o1) :: (K.TD, o2) :: (K.NL, o3) :: (K.RM, o4) :: (K.S, instObj 131 K.D) :: (K.D, sD w K chunk a3 cs a4 off a5 pl a7 pc a8 bv) :: rest) F9 N9 ⟨⟨_, _, rfl, ?_⟩, rfl⟩ rfl
      simp only [List.length_append, List.length_cons, List.length_nil]; rw [htake, he', if_pos (by assumption)]; omega
    · (with_reducible rename Fr _ _ _ _ => F9)
      (with_reducible rename News _ _ _ _ => N9)
      refine end_in (nx := (K.ER, PySem.W.listOf (errV errs') c') :: (K.X, o1) :: (K.TD, o2) :: (K.NL, o3) :: (K.RM, o4) :: (K.S, instObj 131 K.D) :: (K.D, sD w K chunk a3 cs a4 off a5 pl a7 pc a8 bv) :: rest) F9 N9 ⟨⟨_, _, rfl, ?_⟩, rfl⟩ rfl
      rw [htake, he', if_neg (by first | assumption | (rw [(by assumption : inv c = false)]; decide))]; omega
  · clear N1 F1 N
    rintro m₁ nx h tk ⟨⟨errs', c', rfl, he'⟩, hself⟩ F2 N2
    rw [List.take_length] at he'
    k_steps
    exact hret errs' c' _ _ (by k_asm) (by k_asm) he'

end

theorem again6 : True := by
  w_top off
  try walk1
  trivial
section
variable {w : World} {mean : ExcName → Option Value} {mg mb : Str → Option Value} {dp un : Nat} {gd : Option (List Code)} {cn : Str} {csn : List (Str × NameKind)} {csm : List (Str × Const)} {a : Addr} {ccd : Value} {cl : List (Str × Addr)} {outer : List Env} {A₀ : Around} {base h₀ : Heap} {L : Addr} {m : Str → Option Value} {rest : Led} {s : Shared} {Q E : Value → Shared → Prop}
  (B : Below A₀ base outer h₀) (F : Fr h₀ L s.heap m) (X : (Mine.hd.heap_39 w.params).In h₀) (T : Top Mine.hd.view_39 (looseW Mine.hd.view_39 [Str.ofString "HTMLUnicodeInputStream"]) mean mg mb h₀)
include B F X T
local macro_rules | `(tactic| walk_at "call ref") => `(tactic| (k_here; (with_reducible show wpAny _ _ (call (Value.ref 84) _) _ _ _); refine Mine.toks_in 1 ?kt ?_; (case kt => walk_at "mine pos"); k_dflt (refine' posn_spec ?b ?f ?x ?t _ _ _ _ _ _ _ _ _ _ _ _ _ _ _ _ _ _ _ ?hn ?hz ?n ?d ?_; (case b => k_asm); (case f => k_asm); (case x => k_asm); (case t => k_asm); (case n => k_asm); (case hn => walk_at "mine ar"); (case hz => walk_at "mine ar"); (case d => k_room)); intro T' t1' t2' h' tk' F' N' l1 htk; (simp only [AllLt, and_true] at l1); (try k_sweep); (try dsimp only at htk ⊢)))
local macro_rules | `(tactic| walk_at "mine codes") => `(tactic| (intro c hc; (try (replace hc := List.mem_of_mem_dropLast hc)); first | exact (by assumption : ∀ c ∈ _, c < 256) c hc | (rcases List.mem_append.mp hc with h | h; (simp only [List.mem_cons, List.not_mem_nil, or_false] at h; omega); exact (by assumption : ∀ c ∈ _, c < 256) c h) | (rcases List.mem_cons.mp hc with h | h; omega; exact (by assumption : ∀ c ∈ _, c < 256) c h)))
local macro_rules | `(tactic| walk_at "call ref") => `(tactic| (k_here; (with_reducible show wpAny _ _ (call (Value.ref (Mine.SK.RM _)) _) _ _ _); refine Mine.toks_in 1 ?kt ?_; (case kt => walk_at "mine pos"); k_dflt (refine' call_meth ?k1 ?k2 ?_; (case k1 => k_asm); (case k2 => k_mem)); k_dflt (refine' cherr_code ?b ?f ?x ?t _ _ _ _ _ _ _ _ _ _ _ _ _ _ _ _ _ _ _ _ ?hK ?hr ?hz ?hs ?n ?d ?_; (case b => k_asm); (case f => k_asm); (case x => k_asm); (case t => k_asm); (case n => k_asm); (case hK => assumption); (case hr => assumption); (case hz => walk_at "mine ar"); (case hs => assumption); (case d => k_room)); intro errs' c' h' tk' F' N' he' htk; (try k_sweep); (try dsimp only at htk ⊢)))
local macro_rules | `(tactic| walk_at "call ref") => `(tactic| (k_here; (with_reducible show wpAny _ _ (call (Value.ref 35) _) _ _ _); refine Mine.toks_in 1 ?kt ?_; (case kt => walk_at "mine pos"); k_dflt (refine' read_spec ?b ?f ?x ?t _ _ _ _ _ _ _ _ _ _ _ _ _ ?hP ?hK ?hr ?hz ?n ?d ?_; (case b => k_asm); (case f => k_asm); (case x => k_asm); (case t => k_asm); (case n => first | k_asm | exact news_tail (by k_asm)); (case hP => assumption); (case hK => assumption); (case hr => assumption); (case hz => walk_at "mine ar"); (case d => k_room)); intro tr' b1' h' tk' F' N' htk; (try k_sweep); (try dsimp only at htk ⊢)))
local macro_rules | `(tactic| walk_at "truthy ref") => `(tactic| (k_here; k_dflt (refine' truthy_method ?k1 ?k2 ?_; (case k1 => k_asm); (case k2 => k_mem); k_whole)))
local macro_rules | `(tactic| walk_at "truthy str") => `(tactic| (k_here; (with_reducible show wpAny _ _ (truthy (Value.str (Mine.tx _) _)) _ _ _); first | (refine' Mine.r_truthy_yes ?zk1 ?zk2 ?_; (case zk2 => assumption); (case zk1 => walk_at "mine ar"); intro k') | (refine' Mine.r_truthy_no ?zk2 ?_; (case zk2 => assumption); intro k')))
theorem readChunk_go (K : SK) (v : Vw) (t : Tk) (n : Nat) (tn : Tok) (hK : K.Ok) (he : t.errs.length = v.ne) (rD : ∀ p ∈ rest, p.1 ≠ K.D) (rTD : ∀ p ∈ rest, p.1 ≠ K.TD) (rER : ∀ p ∈ rest, p.1 ≠ K.ER)
    (hz : v.chunk.length ≤ 2000) (hz1 : v.text.length ≤ 2000) (hz2 : v.place ≤ v.text.length) (hz3 : v.ne ≤ 2000) (hn : 1 ≤ n) (hn2 : n ≤ 100000) (hs : ∀ c ∈ v.text, c < 256) (hf : v.data0 n ≠ []) (N : News h₀ L s.heap (sLed w K v t ++ rest)) (hd : dp + 20 < recursionLimit)
    (hret : ∀ t' h' tk', Fr h₀ L h' m → News h₀ L h' (sLed w K (v.rd n) t' ++ rest) → t'.errs.length = (v.rd n).ne → Q (.bool true) { s with heap := h', toks := tk' }) :
    wpAny (model PySem.Challenge.rw_te0075_01.row.prog w) (ktrTop dp un gd cn ⟨.function, csn, false, false, csm⟩ L a ccd cl outer) (call (.ref 106) [.ref K.S, .int n tn]) Q E s := by
  obtain ⟨k1, k2, k3, k4, k5, k6⟩ := id hK
  obtain ⟨P, hPd⟩ : ∃ P, P = v.part n := ⟨_, rfl⟩
  have hP : P = (v.text.drop v.place).take n := hPd
  have hpart : ∀ c ∈ P, c < 256 := fun c hc => hs c (List.mem_of_mem_drop (List.mem_of_mem_take (hP ▸ hc)))
  have hPl : P.length ≤ 2000 := by rw [hP, List.length_take, List.length_drop]; omega
  obtain ⟨D0, hD0⟩ : ∃ D0, D0 = v.data0 n := ⟨_, rfl⟩
  have hDl : D0.length ≤ 2001 := by
    have := data0_len v n
    rw [hD0, this, ← hPd]; split <;> omega
  have hDc : ∀ c ∈ D0, c < 256 := by
    intro c hc
    rw [hD0] at hc
    unfold Vw.data0 at hc
    rw [← hPd] at hc
    split at hc
    · rcases List.mem_cons.mp hc with h | h
      · omega
      · exact hpart c h
    · exact hpart c hc
  rw [← hD0] at hf
  simp only [sLed, List.cons_append, List.nil_append] at N
  repeat' ((fail_if_success (with_reducible show wpAny _ _ (exec (Stmt.If (PySem.Expr.Attribute _ _ _) _ _ _) _) _ _ _)); first | (k_unfold; (try dsimp only)) | walk1 | (dsimp only; walk1))
  (with_reducible rename Fr _ _ _ _ => F1)
  (with_reducible rename News _ _ _ _ => N1)
  simp only [List.take_length] at N1
  refine stmt_cut (fun m nx => ∃ t' td, nx = sLed w K ⟨[], 0, v.pl + v.chunk.count 10, colFrom v.pc v.chunk, false, v.text, v.place + P.length, v.ne⟩ t' ++ rest ∧ t'.errs.length = v.ne ∧ m (Str.ofString "self") = some (.ref K.S) ∧ m (Str.ofString "data") = some (.str (tx D0) td)) F1 N1 ?zc1 ?zf1
  case zc1 =>
    by_cases hb : v.buf = true
    · have hbv : bufV v.buf t.a9 = .str (tx [13]) t.a9 := by rw [hb]; rfl
      have hd0 : [13] ++ P = D0 := by rw [hD0]; unfold Vw.data0; rw [if_pos hb, ← hPd]; rfl
      have h13 : ([13] : List Nat) ≠ [] := by simp
      rw [hbv] at N1
      clear hret hDc hf hs hpart hD0
      (repeat' ((fail_if_success (with_reducible show CutQ _ _ _ _ _ _)); (fail_if_success (with_reducible show WhlRest _ _ _ _ _ _ _ _ _ _ _)); first | (k_unfold; (try dsimp only)) | walk1 | (dsimp only; walk1)))
      refine' CutQ.mk _ (sLed w K ⟨[], 0, v.pl + v.chunk.count 10, colFrom v.pc v.chunk, false, v.text, v.place + P.length, v.ne⟩ ?zt1 ++ rest) _ _ ⟨?zt1, _, rfl, ?zhe1, rfl, ?zdd1⟩ (by k_asm) ?zn1
      case zn1 => walk_at "mine sled"
      case zhe1 => exact he
      case zdd1 => exact congrArg (fun z => some (Value.str (tx z) _)) hd0
    · have hb' : v.buf = false := by simpa using hb
      have hbv : bufV v.buf t.a9 = .none := by rw [hb']; rfl
      have hd0 : P = D0 := by rw [hD0]; unfold Vw.data0; rw [hb', hPd]; rfl
      have hPne : P ≠ [] := by rw [hd0]; exact hf
      rw [hbv] at N1
      clear hret hDc hf hs hpart hD0
      (repeat' ((fail_if_success (with_reducible show CutQ _ _ _ _ _ _)); (fail_if_success (with_reducible show WhlRest _ _ _ _ _ _ _ _ _ _ _)); first | (k_unfold; (try dsimp only)) | walk1 | (dsimp only; walk1)))
      refine' CutQ.mk _ (sLed w K ⟨[], 0, v.pl + v.chunk.count 10, colFrom v.pc v.chunk, false, v.text, v.place + P.length, v.ne⟩ ?zt2 ++ rest) _ _ ⟨?zt2, _, rfl, ?zhe2, rfl, ?zdd2⟩ (by k_asm) ?zn2
      case zn2 => walk_at "mine sled"
      case zhe2 => exact he
      case zdd2 => exact congrArg (fun z => some (Value.str (tx z) _)) hd0
  case zf1 =>
    clear F1 N1 N
    intro m1 nx1 h1 tk1 hP1 F2 N2
    obtain ⟨t2, td, rfl, he2, g1, g2⟩ := hP1
    have F3 := fr_known (Str.ofString "data") (fr_known (Str.ofString "self") F2 g1) (by rw [if_neg (by decide)]; exact g2)
    clear F2
    simp only [sLed, List.cons_append, List.nil_append] at N2
    (try dsimp only at N2)
    have hlast : D0.getD (D0.length - 1) 0 < 256 := getD_all hDc
    repeat' ((fail_if_success (with_reducible show wpAny _ _ (exec (Stmt.If _ _ _ _) _) _ _ _)); first | (k_unfold; (try dsimp only)) | walk1 | (dsimp only; walk1))
    (with_reducible rename Fr _ _ _ _ => F4)
    (with_reducible rename News _ _ _ _ => N4)
    refine stmt_cut (fun m nx => ∃ t' td, nx = sLed w K ⟨[], 0, v.pl + v.chunk.count 10, colFrom v.pc v.chunk, v.cut n, v.text, v.place + P.length, v.ne⟩ t' ++ rest ∧ t'.errs.length = v.ne ∧ m (Str.ofString "self") = some (.ref K.S) ∧ m (Str.ofString "data") = some (.str (tx (v.data1 n)) td)) F4 N4 ?zc2 ?zf2
    case zc2 =>
      clear hret hPl hP hpart
      (repeat' ((fail_if_success (with_reducible show CutQ _ _ _ _ _ _)); (fail_if_success (with_reducible show WhlRest _ _ _ _ _ _ _ _ _ _ _)); first | (k_unfold; (try dsimp only)) | walk1 | (dsimp only; walk1)))
      all_goals first
        | (exfalso; omega)
        | (have hcut : v.cut n = true := by unfold Vw.cut; rw [← hD0]; exact decide_eq_true ⟨by omega, by omega⟩
           have hd1 : D0.dropLast = v.data1 n := by unfold Vw.data1; rw [if_pos hcut, hD0]
           refine' CutQ.mk _ (sLed w K ⟨[], 0, v.pl + v.chunk.count 10, colFrom v.pc v.chunk, v.cut n, v.text, v.place + P.length, v.ne⟩ ?zt3 ++ rest) _ _ ⟨?zt3, _, rfl, ?zhe3, rfl, ?zdd3⟩ (by k_asm) ?zn3
           case zn3 => rw [hcut]; walk_at "mine sled"
           case zhe3 => exact he2
           case zdd3 => exact congrArg (fun z => some (Value.str (tx z) _)) hd1)
        | (have hcut : v.cut n = false := by unfold Vw.cut; rw [← hD0]; exact decide_eq_false (fun q => by omega)
           have hd1 : D0 = v.data1 n := by unfold Vw.data1; rw [hcut, hD0]; rfl
           refine' CutQ.mk _ (sLed w K ⟨[], 0, v.pl + v.chunk.count 10, colFrom v.pc v.chunk, v.cut n, v.text, v.place + P.length, v.ne⟩ ?zt4 ++ rest) _ _ ⟨?zt4, _, rfl, ?zhe4, rfl, ?zdd4⟩ (by k_asm) ?zn4
           case zn4 => rw [hcut]; walk_at "mine sled"
           case zhe4 => exact he2
           case zdd4 => exact congrArg (fun z => some (Value.str (tx z) _)) hd1)
    case zf2 =>
      clear F4 N4
      intro m3 nx3 h3 tk3 hP3 F5 N5
      obtain ⟨t5, td5, rfl, he5, g5, g6⟩ := hP3
      have F6 := fr_known (Str.ofString "data") (fr_known (Str.ofString "self") F5 g5) (by rw [if_neg (by decide)]; exact g6)
      clear F5
      simp only [sLed, List.cons_append, List.nil_append] at N5
      (try dsimp only at N5)
      have hrd : v.rd n = ⟨norm (v.data1 n), 0, v.pl + v.chunk.count 10, colFrom v.pc v.chunk, v.cut n, v.text, v.place + P.length, v.ne + (v.data1 n).countP inv⟩ := by unfold Vw.rd; rw [← hPd]
      rw [hrd] at hret
      have hE1 : (v.data1 n).length ≤ 2001 := by
        have := data1_len v n
        rw [← hD0] at this; omega
      have hE2 : ∀ c ∈ v.data1 n, c < 256 := by
        intro c hc
        unfold Vw.data1 at hc
        rw [← hD0] at hc
        split at hc
        · exact hDc c (List.dropLast_subset _ hc)
        · exact hDc c hc
      obtain ⟨D1, hD1⟩ : ∃ D1, D1 = v.data1 n := ⟨_, rfl⟩
      obtain ⟨bc, hbc⟩ : ∃ bc, bc = v.cut n := ⟨_, rfl⟩
      rw [← hD1] at hE1 hE2 hret
      rw [← hbc] at hret
      simp only [← hD1, ← hbc] at F6 N5
      clear hD0 hDl hDc hf hP hpart hPl hs hD1 hbc hrd
      k_steps
      refine' hret _ _ _ (by k_asm) ?zn4 ?zhe4
      case zn4 => walk_at "mine sled"
      case zhe4 => dsimp only; omega

local macro_rules | `(tactic| walk_at "call ref") => `(tactic| (k_here; (with_reducible show wpAny _ _ (call (Value.ref 35) _) _ _ _); refine Mine.toks_in 1 ?kt ?_; (case kt => walk_at "mine pos"); k_dflt (refine' read_spec (n := 10240) ?b ?f ?x ?t _ _ _ _ _ _ _ _ _ _ _ _ ?hP ?hK ?hr ?hz ?n ?d ?_; (case b => k_asm); (case f => k_asm); (case x => k_asm); (case t => k_asm); (case n => first | k_asm | exact news_tail (by k_asm)); (case hP => assumption); (case hK => assumption); (case hr => assumption); (case hz => walk_at "mine ar"); (case d => k_room)); intro tr' b1' h' tk' F' N' htk; (try k_sweep); (try dsimp only at htk ⊢)))
theorem readChunk0_go (K : SK) (v : Vw) (t : Tk) (hK : K.Ok) (he : t.errs.length = v.ne) (rD : ∀ p ∈ rest, p.1 ≠ K.D) (rTD : ∀ p ∈ rest, p.1 ≠ K.TD) (rER : ∀ p ∈ rest, p.1 ≠ K.ER)
    (hz : v.chunk.length ≤ 2000) (hz1 : v.text.length ≤ 2000) (hz2 : v.place ≤ v.text.length) (hz3 : v.ne ≤ 2000) (hs : ∀ c ∈ v.text, c < 256) (hf : v.data0 10240 ≠ []) (N : News h₀ L s.heap (sLed w K v t ++ rest)) (hd : dp + 20 < recursionLimit)
    (hret : ∀ t' h' tk', Fr h₀ L h' m → News h₀ L h' (sLed w K (v.rd 10240) t' ++ rest) → t'.errs.length = (v.rd 10240).ne → Q (.bool true) { s with heap := h', toks := tk' }) :
    wpAny (model PySem.Challenge.rw_te0075_01.row.prog w) (ktrTop dp un gd cn ⟨.function, csn, false, false, csm⟩ L a ccd cl outer) (call (.ref 106) [.ref K.S]) Q E s := by
  obtain ⟨k1, k2, k3, k4, k5, k6⟩ := id hK
  obtain ⟨P, hPd⟩ : ∃ P, P = v.part 10240 := ⟨_, rfl⟩
  have hP : P = (v.text.drop v.place).take 10240 := hPd
  have hpart : ∀ c ∈ P, c < 256 := fun c hc => hs c (List.mem_of_mem_drop (List.mem_of_mem_take (hP ▸ hc)))
  have hPl : P.length ≤ 2000 := by rw [hP, List.length_take, List.length_drop]; omega
  obtain ⟨D0, hD0⟩ : ∃ D0, D0 = v.data0 10240 := ⟨_, rfl⟩
  have hDl : D0.length ≤ 2001 := by
    have := data0_len v 10240
    rw [hD0, this, ← hPd]; split <;> omega
  have hDc : ∀ c ∈ D0, c < 256 := by
    intro c hc
    rw [hD0] at hc
    unfold Vw.data0 at hc
    rw [← hPd] at hc
    split at hc
    · rcases List.mem_cons.mp hc with h | h
      · omega
      · exact hpart c h
    · exact hpart c hc
  rw [← hD0] at hf
  simp only [sLed, List.cons_append, List.nil_append] at N
  repeat' ((fail_if_success (with_reducible show wpAny _ _ (exec (Stmt.If (PySem.Expr.Attribute _ _ _) _ _ _) _) _ _ _)); first | (k_unfold; (try dsimp only)) | walk1 | (dsimp only; walk1))
  (with_reducible rename Fr _ _ _ _ => F1)
  (with_reducible rename News _ _ _ _ => N1)
  simp only [List.take_length] at N1
  refine stmt_cut (fun m nx => ∃ t' td, nx = sLed w K ⟨[], 0, v.pl + v.chunk.count 10, colFrom v.pc v.chunk, false, v.text, v.place + P.length, v.ne⟩ t' ++ rest ∧ t'.errs.length = v.ne ∧ m (Str.ofString "self") = some (.ref K.S) ∧ m (Str.ofString "data") = some (.str (tx D0) td)) F1 N1 ?zc1 ?zf1
  case zc1 =>
    by_cases hb : v.buf = true
    · have hbv : bufV v.buf t.a9 = .str (tx [13]) t.a9 := by rw [hb]; rfl
      have hd0 : [13] ++ P = D0 := by rw [hD0]; unfold Vw.data0; rw [if_pos hb, ← hPd]; rfl
      have h13 : ([13] : List Nat) ≠ [] := by simp
      rw [hbv] at N1
      clear hret hDc hf hs hpart hD0
      (repeat' ((fail_if_success (with_reducible show CutQ _ _ _ _ _ _)); (fail_if_success (with_reducible show WhlRest _ _ _ _ _ _ _ _ _ _ _)); first | (k_unfold; (try dsimp only)) | walk1 | (dsimp only; walk1)))
      refine' CutQ.mk _ (sLed w K ⟨[], 0, v.pl + v.chunk.count 10, colFrom v.pc v.chunk, false, v.text, v.place + P.length, v.ne⟩ ?zt1 ++ rest) _ _ ⟨?zt1, _, rfl, ?zhe1, rfl, ?zdd1⟩ (by k_asm) ?zn1
      case zn1 => walk_at "mine sled"
      case zhe1 => exact he
      case zdd1 => exact congrArg (fun z => some (Value.str (tx z) _)) hd0
    · have hb' : v.buf = false := by simpa using hb
      have hbv : bufV v.buf t.a9 = .none := by rw [hb']; rfl
      have hd0 : P = D0 := by rw [hD0]; unfold Vw.data0; rw [hb', hPd]; rfl
      have hPne : P ≠ [] := by rw [hd0]; exact hf
      rw [hbv] at N1
      clear hret hDc hf hs hpart hD0
      (repeat' ((fail_if_success (with_reducible show CutQ _ _ _ _ _ _)); (fail_if_success (with_reducible show WhlRest _ _ _ _ _ _ _ _ _ _ _)); first | (k_unfold; (try dsimp only)) | walk1 | (dsimp only; walk1)))
      refine' CutQ.mk _ (sLed w K ⟨[], 0, v.pl + v.chunk.count 10, colFrom v.pc v.chunk, false, v.text, v.place + P.length, v.ne⟩ ?zt2 ++ rest) _ _ ⟨?zt2, _, rfl, ?zhe2, rfl, ?zdd2⟩ (by k_asm) ?zn2
      case zn2 => walk_at "mine sled"
      case zhe2 => exact he
      case zdd2 => exact congrArg (fun z => some (Value.str (tx z) _)) hd0
  case zf1 =>
    clear F1 N1 N
    intro m1 nx1 h1 tk1 hP1 F2 N2
    obtain ⟨t2, td, rfl, he2, g1, g2⟩ := hP1
    have F3 := fr_known (Str.ofString "data") (fr_known (Str.ofString "self") F2 g1) (by rw [if_neg (by decide)]; exact g2)
    clear F2
    simp only [sLed, List.cons_append, List.nil_append] at N2
    (try dsimp only at N2)
    have hlast : D0.getD (D0.length - 1) 0 < 256 := getD_all hDc
    repeat' ((fail_if_success (with_reducible show wpAny _ _ (exec (Stmt.If _ _ _ _) _) _ _ _)); first | (k_unfold; (try dsimp only)) | walk1 | (dsimp only; walk1))
    (with_reducible rename Fr _ _ _ _ => F4)
    (with_reducible rename News _ _ _ _ => N4)
    refine stmt_cut (fun m nx => ∃ t' td, nx = sLed w K ⟨[], 0, v.pl + v.chunk.count 10, colFrom v.pc v.chunk, v.cut 10240, v.text, v.place + P.length, v.ne⟩ t' ++ rest ∧ t'.errs.length = v.ne ∧ m (Str.ofString "self") = some (.ref K.S) ∧ m (Str.ofString "data") = some (.str (tx (v.data1 10240)) td)) F4 N4 ?zc2 ?zf2
    case zc2 =>
      clear hret hPl hP hpart
      (repeat' ((fail_if_success (with_reducible show CutQ _ _ _ _ _ _)); (fail_if_success (with_reducible show WhlRest _ _ _ _ _ _ _ _ _ _ _)); first | (k_unfold; (try dsimp only)) | walk1 | (dsimp only; walk1)))
      all_goals first
        | (exfalso; omega)
        | (have hcut : v.cut 10240 = true := by unfold Vw.cut; rw [← hD0]; exact decide_eq_true ⟨by omega, by omega⟩
           have hd1 : D0.dropLast = v.data1 10240 := by unfold Vw.data1; rw [if_pos hcut, hD0]
           refine' CutQ.mk _ (sLed w K ⟨[], 0, v.pl + v.chunk.count 10, colFrom v.pc v.chunk, v.cut 10240, v.text, v.place + P.length, v.ne⟩ ?zt3 ++ rest) _ _ ⟨?zt3, _, rfl, ?zhe3, rfl, ?zdd3⟩ (by k_asm) ?zn3
           case zn3 => rw [hcut]; walk_at "mine sled"
           case zhe3 => exact he2
           case zdd3 => exact congrArg (fun z => some (Value.str (tx z) _)) hd1)
        | (have hcut : v.cut 10240 = false := by unfold Vw.cut; rw [← hD0]; exact decide_eq_false (fun q => by omega)
           have hd1 : D0 = v.data1 10240 := by unfold Vw.data1; rw [hcut, hD0]; rfl
           refine' CutQ.mk _ (sLed w K ⟨[], 0, v.pl + v.chunk.count 10, colFrom v.pc v.chunk, v.cut 10240, v.text, v.place + P.length, v.ne⟩ ?zt4 ++ rest) _ _ ⟨?zt4, _, rfl, ?zhe4, rfl, ?zdd4⟩ (by k_asm) ?zn4
           case zn4 => rw [hcut]; walk_at "mine sled"
           case zhe4 => exact he2
           case zdd4 => exact congrArg (fun z => some (Value.str (tx z) _)) hd1)
    case zf2 =>
      clear F4 N4
      intro m3 nx3 h3 tk3 hP3 F5 N5
      obtain ⟨t5, td5, rfl, he5, g5, g6⟩ := hP3
      have F6 := fr_known (Str.ofString "data") (fr_known (Str.ofString "self") F5 g5) (by rw [if_neg (by decide)]; exact g6)
      clear F5
      simp only [sLed, List.cons_append, List.nil_append] at N5
      (try dsimp only at N5)
      have hrd : v.rd 10240 = ⟨norm (v.data1 10240), 0, v.pl + v.chunk.count 10, colFrom v.pc v.chunk, v.cut 10240, v.text, v.place + P.length, v.ne + (v.data1 10240).countP inv⟩ := by unfold Vw.rd; rw [← hPd]
      rw [hrd] at hret
      have hE1 : (v.data1 10240).length ≤ 2001 := by
        have := data1_len v 10240
        rw [← hD0] at this; omega
      have hE2 : ∀ c ∈ v.data1 10240, c < 256 := by
        intro c hc
        unfold Vw.data1 at hc
        rw [← hD0] at hc
        split at hc
        · exact hDc c (List.dropLast_subset _ hc)
        · exact hDc c hc
      obtain ⟨D1, hD1⟩ : ∃ D1, D1 = v.data1 10240 := ⟨_, rfl⟩
      obtain ⟨bc, hbc⟩ : ∃ bc, bc = v.cut 10240 := ⟨_, rfl⟩
      rw [← hD1] at hE1 hE2 hret
      rw [← hbc] at hret
      simp only [← hD1, ← hbc] at F6 N5
      clear hD0 hDl hDc hf hP hpart hPl hs hD1 hbc hrd
      k_steps
      refine' hret _ _ _ (by k_asm) ?zn4 ?zhe4
      case zn4 => walk_at "mine sled"
      case zhe4 => dsimp only; omega


theorem readChunk0_end (K : SK) (v : Vw) (t : Tk) (hK : K.Ok) (he : t.errs.length = v.ne) (rD : ∀ p ∈ rest, p.1 ≠ K.D) (rTD : ∀ p ∈ rest, p.1 ≠ K.TD) (rER : ∀ p ∈ rest, p.1 ≠ K.ER)
    (hz : v.chunk.length ≤ 2000) (hz1 : v.text.length ≤ 2000) (hz2 : v.place ≤ v.text.length) (hz3 : v.ne ≤ 2000) (hs : ∀ c ∈ v.text, c < 256) (hb : v.buf = false) (hne : v.part 10240 = []) (N : News h₀ L s.heap (sLed w K v t ++ rest)) (hd : dp + 20 < recursionLimit)
    (hret : ∀ t' h' tk', Fr h₀ L h' m → News h₀ L h' (sLed w K v.rdEnd t' ++ rest) → t'.errs.length = v.ne → Q (.bool false) { s with heap := h', toks := tk' }) :
    wpAny (model PySem.Challenge.rw_te0075_01.row.prog w) (ktrTop dp un gd cn ⟨.function, csn, false, false, csm⟩ L a ccd cl outer) (call (.ref 106) [.ref K.S]) Q E s := by
  obtain ⟨k1, k2, k3, k4, k5, k6⟩ := id hK
  have hbv : ∀ t, bufV v.buf t = .none := fun t => by rw [hb]; rfl
  obtain ⟨P, hPd⟩ : ∃ P, P = v.part 10240 := ⟨_, rfl⟩
  have hP : P = (v.text.drop v.place).take 10240 := hPd
  have hPne : P = [] := by rw [hPd]; exact hne
  have hPl : P.length ≤ 2000 := by rw [hPne]; simp
  simp only [sLed, List.cons_append, List.nil_append, hbv] at N
  k_steps
  all_goals first
    | (exfalso; contradiction)
    | (simp only [List.take_length, hPne, List.length_nil, Nat.add_zero] at *
       refine' hret _ _ _ (by k_asm) ?n ?he
       case n => unfold Vw.rdEnd; rw [hb]; walk_at "mine sled"
       case he => exact he)

end

theorem again7 : True := by
  w_top off
  try walk1
  trivial
section
variable {w : World} {mean : ExcName → Option Value} {mg mb : Str → Option Value} {dp un : Nat} {gd : Option (List Code)} {cn : Str} {csn : List (Str × NameKind)} {csm : List (Str × Const)} {a : Addr} {ccd : Value} {cl : List (Str × Addr)} {outer : List Env} {A₀ : Around} {base h₀ : Heap} {L : Addr} {m : Str → Option Value} {rest : Led} {s : Shared} {Q E : Value → Shared → Prop}
  (B : Below A₀ base outer h₀) (F : Fr h₀ L s.heap m) (X : (Mine.hd.heap_39 w.params).In h₀) (T : Top Mine.hd.view_39 (looseW Mine.hd.view_39 [Str.ofString "HTMLUnicodeInputStream"]) mean mg mb h₀)
include B F X T
theorem readChunk_yes (K : SK) (v : Vw) (t : Tk) (n : Nat) (tn : Tok) (hK : K.Ok) (he : t.errs.length = v.ne) (rD : ∀ p ∈ rest, p.1 ≠ K.D) (rTD : ∀ p ∈ rest, p.1 ≠ K.TD) (rER : ∀ p ∈ rest, p.1 ≠ K.ER)
    (hv : v.Ok) (hn : 1 ≤ n) (hn2 : n ≤ 100000) (hf : v.data0 n ≠ []) (N : News h₀ L s.heap (sLed w K v t ++ rest)) (hd : dp + 20 < recursionLimit)
    (hret : ∀ t' h' tk', Fr h₀ L h' m → News h₀ L h' (sLed w K (v.rd n) t' ++ rest) → t'.errs.length = (v.rd n).ne → (v.rd n).Ok → Q (.bool true) { s with heap := h', toks := tk' }) :
    wpAny (model PySem.Challenge.rw_te0075_01.row.prog w) (ktrTop dp un gd cn ⟨.function, csn, false, false, csm⟩ L a ccd cl outer) (call (.ref 106) [.ref K.S, .int n tn]) Q E s := by
  have h1 := hv.text; have h2 := hv.chunk; have h3 := hv.place; have h4 := hv.ne
  have ok := hv.rd n
  exact readChunk_go B F X T K v t n tn hK he rD rTD rER (by omega) (by omega) h3 (by omega) hn hn2 hv.code hf N hd fun t' h' tk' F' N' he' => hret t' h' tk' F' N' he' ok
theorem readChunk0_yes (K : SK) (v : Vw) (t : Tk) (hK : K.Ok) (he : t.errs.length = v.ne) (rD : ∀ p ∈ rest, p.1 ≠ K.D) (rTD : ∀ p ∈ rest, p.1 ≠ K.TD) (rER : ∀ p ∈ rest, p.1 ≠ K.ER)
    (hv : v.Ok) (hf : v.data0 10240 ≠ []) (N : News h₀ L s.heap (sLed w K v t ++ rest)) (hd : dp + 20 < recursionLimit)
    (hret : ∀ t' h' tk', Fr h₀ L h' m → News h₀ L h' (sLed w K (v.rd 10240) t' ++ rest) → t'.errs.length = (v.rd 10240).ne → (v.rd 10240).Ok → Q (.bool true) { s with heap := h', toks := tk' }) :
    wpAny (model PySem.Challenge.rw_te0075_01.row.prog w) (ktrTop dp un gd cn ⟨.function, csn, false, false, csm⟩ L a ccd cl outer) (call (.ref 106) [.ref K.S]) Q E s := by
  have h1 := hv.text; have h2 := hv.chunk; have h3 := hv.place; have h4 := hv.ne
  have ok := hv.rd 10240
  exact readChunk0_go B F X T K v t hK he rD rTD rER (by omega) (by omega) h3 (by omega) hv.code hf N hd fun t' h' tk' F' N' he' => hret t' h' tk' F' N' he' ok
theorem readChunk0_no (K : SK) (v : Vw) (t : Tk) (hK : K.Ok) (he : t.errs.length = v.ne) (rD : ∀ p ∈ rest, p.1 ≠ K.D) (rTD : ∀ p ∈ rest, p.1 ≠ K.TD) (rER : ∀ p ∈ rest, p.1 ≠ K.ER)
    (hv : v.Ok) (hf : v.data0 10240 = []) (N : News h₀ L s.heap (sLed w K v t ++ rest)) (hd : dp + 20 < recursionLimit)
    (hret : ∀ t' h' tk', Fr h₀ L h' m → News h₀ L h' (sLed w K v.rdEnd t' ++ rest) → t'.errs.length = v.rdEnd.ne → v.rdEnd.Ok → Q (.bool false) { s with heap := h', toks := tk' }) :
    wpAny (model PySem.Challenge.rw_te0075_01.row.prog w) (ktrTop dp un gd cn ⟨.function, csn, false, false, csm⟩ L a ccd cl outer) (call (.ref 106) [.ref K.S]) Q E s := by
  have h1 := hv.text; have h2 := hv.chunk; have h3 := hv.place; have h4 := hv.ne
  have ok := hv.rdEnd
  have hb' : v.buf = false := by
    cases hb : v.buf with
    | false => rfl
    | true => exact absurd hf (buf_full hb)
  exact readChunk0_end B F X T K v t hK he rD rTD rER (by omega) (by omega) h3 (by omega) hv.code hb' (by rw [← nobuf_part hb']; exact hf) N hd fun t' h' tk' F' N' he' => hret t' h' tk' F' N' he' ok

end

theorem again8 : True := by
  w_top off
  try walk1
  trivial
section
variable {w : World} {mean : ExcName → Option Value} {mg mb : Str → Option Value} {dp un : Nat} {gd : Option (List Code)} {cn : Str} {csn : List (Str × NameKind)} {csm : List (Str × Const)} {a : Addr} {ccd : Value} {cl : List (Str × Addr)} {outer : List Env} {A₀ : Around} {base h₀ : Heap} {L : Addr} {m : Str → Option Value} {rest : Led} {s : Shared} {Q E : Value → Shared → Prop}
  (B : Below A₀ base outer h₀) (F : Fr h₀ L s.heap m) (X : (Mine.hd.heap_39 w.params).In h₀) (T : Top Mine.hd.view_39 (looseW Mine.hd.view_39 [Str.ofString "HTMLUnicodeInputStream"]) mean mg mb h₀)
include B F X T
local macro_rules | `(tactic| walk_at "call ref") => `(tactic| (k_here; (try dsimp only); (with_reducible show wpAny _ _ (call (Value.ref 106) _) _ _ _); first
  | (k_dflt (refine' readChunk0_yes ?b ?f ?x ?t _ _ _ ?hK ?he ?rD ?rTD ?rER ?hv ?hf ?n ?d ?_; (case b => k_asm); (case f => k_asm); (case x => k_asm); (case t => k_asm); (case hK => assumption); (case hf => assumption); (case hv => assumption); (case he => assumption); (case n => exact news_rot7 (by k_asm)); (case rD => k_all); (case rTD => k_all); (case rER => k_all); (case d => k_room)); intro t' h' tk' F' N' he' ok'; (simp only [Mine.sLed, List.cons_append, List.nil_append] at N'); (try k_sweep); (try dsimp only))
  | (k_dflt (refine' readChunk0_no ?b ?f ?x ?t _ _ _ ?hK ?he ?rD ?rTD ?rER ?hv ?hf ?n ?d ?_; (case b => k_asm); (case f => k_asm); (case x => k_asm); (case t => k_asm); (case hK => assumption); (case hf => assumption); (case hv => assumption); (case he => assumption); (case n => exact news_rot7 (by k_asm)); (case rD => k_all); (case rTD => k_all); (case rER => k_all); (case d => k_room)); intro t' h' tk' F' N' he' ok'; (simp only [Mine.sLed, List.cons_append, List.nil_append] at N'); (try k_sweep); (try dsimp only))))
local macro_rules | `(tactic| walk_at "compareOp In str ref") => `(tactic| (k_here; k_dflt (refine' r_in1 ?n ?m ?_; (case n => k_asm); (case m => k_mem); k_whole)))
local macro_rules | `(tactic| walk_at "call builtin:list.append") => `(tactic| (k_here; (with_reducible show wpAny _ _ (call (Value.builtin _) [Value.ref _, _]) _ _ _); k_dflt (refine' append_K ?k1 ?k2 ?k3 ?_ ?z; (case k1 => k_asm); (case k2 => k_asm); (case k3 => k_upd); (case z => assumption); k_whole); intro h' F' N'; (try k_sweep)))
theorem charsUntil_spec (K : SK) (v : Vw) (t : Tk) (CH : Addr) (tc : Tok) (R : List Nat) (vE : Vw) (hcu : Cu v R vE) (hRlen : R.length ≤ 100000) (hK : K.Ok) (he : t.errs.length = v.ne) (rD : ∀ p ∈ rest, p.1 ≠ K.D) (rTD : ∀ p ∈ rest, p.1 ≠ K.TD) (rER : ∀ p ∈ rest, p.1 ≠ K.ER)
    (hCH : (CH, ({ cls := .type "tuple", data := .seq #[.str (tx [10]) tc] } : Obj)) ∈ rest) (hv : v.Ok) (N : News h₀ L s.heap (sLed w K v t ++ rest)) (hd : dp + 30 < recursionLimit)
    (hret : ∀ tr t' h' tk', Fr h₀ L h' m → News h₀ L h' (sLed w K vE t' ++ rest) → t'.errs.length = vE.ne → vE.Ok → Q (.str (tx R) tr) { s with heap := h', toks := tk' }) :
    wpAny (model PySem.Challenge.rw_te0075_01.row.prog w) (ktrTop dp un gd cn ⟨.function, csn, false, false, csm⟩ L a ccd cl outer) (call (.ref 121) [.ref K.S, .ref CH]) Q E s := by
  obtain ⟨k1, k2, k3, k4, k5, k6⟩ := id hK
  simp only [sLed, List.cons_append, List.nil_append] at N
  (repeat' ((fail_if_success (with_reducible show wpAny _ _ (exec (Stmt.While _ _ _ _) _) _ _ _)); first | (k_unfold; (try dsimp only)) | (k_end; wrow_close) | walk1 | (dsimp only; walk1) | (leave1; walk_say "STEP leave1"; try dsimp only)))
  (with_reducible rename Fr _ _ _ _ => F1)
  (with_reducible rename News _ _ _ _ => N1)
  (with_reducible rename _ ∧ _ => l1)
  rename_i RV _ _ _ _
  refine whl_start 0 (while_inv (fun (c : List (List Nat × Tok) × Vw) m nx => ∃ t' c0 l, nx = (RV, PySem.W.listOf (accV c.1) c0) :: (sLed w K c.2 t' ++ rest) ∧ t'.errs.length = c.2.ne ∧ c.2.Ok ∧ Cu c.2 l vE ∧ accT c.1 ++ l = R ∧ c.1.length + c.2.left ≤ 1001 ∧
    m (Str.ofString "self") = some (.ref K.S) ∧ m (Str.ofString "characters") = some (.ref CH) ∧ m (Str.ofString "opposite") = some (.bool false) ∧ m (Str.ofString "rv") = some (.ref RV)) (fun c => c.2.left) ?hE ?turn ([], v) _ _ _ _ ?h0 F1 N1)
  case hE => first | passes_own | with_unfolding_all passes_own
  case h0 =>
    refine ⟨t, 0, R, rfl, he, hv, hcu, rfl, ?_, rfl, rfl, rfl, rfl⟩
    have h1 := hv.text
    show 0 + v.left ≤ 1001
    unfold Vw.left
    split <;> omega
  case turn =>
    clear F1 N1 N
    rintro ⟨acc, v1⟩ m1 nx h tk ⟨t1, c0, l, rfl, he1, hv1, hcu1, hR, hlen, g1, g2, g3, g4⟩ F2 N2 IH
    have F3 := fr_known (Str.ofString "rv") (fr_known (Str.ofString "opposite") (fr_known (Str.ofString "characters") (fr_known (Str.ofString "self") F2 g1) (by rw [if_neg (by decide)]; exact g2)) (by rw [if_neg (by decide), if_neg (by decide)]; exact g3)) (by rw [if_neg (by decide), if_neg (by decide), if_neg (by decide)]; exact g4)
    clear F2
    simp only [sLed, List.cons_append, List.nil_append] at N2
    dsimp only at he1 hv1 hcu1 hR hlen
    have q1 := hv1.text
    have q2 := hv1.chunk
    have q3 := hv1.off
    have hsz : (accV acc).size ≤ sizeLine := by
      simp only [List.size_toArray, List.length_map, sizeLine_eq]
      omega
    (repeat' ((fail_if_success (with_reducible show wpAny _ _ (exec (Stmt.While _ _ _ _) _) _ _ _)); first | (k_unfold; (try dsimp only)) | (k_end; wrow_close) | walk1 | (dsimp only; walk1) | (leave1; walk_say "STEP leave1"; try dsimp only)))
    (with_reducible rename Fr _ _ _ _ => F4)
    (with_reducible rename News _ _ _ _ => N4)
    refine whl_start 0 (while_inv (fun (e : Nat) m nx => nx = (RV, PySem.W.listOf (accV acc) c0) :: (sLed w K v1 t1 ++ rest) ∧ v1.off ≤ e ∧ e ≤ v1.chunk.length ∧ (∀ i, v1.off ≤ i → i < e → v1.chunk.getD i 0 ≠ 10) ∧ (∃ te, m (Str.ofString "end") = some (.int e te)) ∧
      m (Str.ofString "self") = some (.ref K.S) ∧ m (Str.ofString "characters") = some (.ref CH) ∧ m (Str.ofString "opposite") = some (.bool false) ∧ m (Str.ofString "rv") = some (.ref RV)) (fun e => v1.chunk.length - e) ?hE2 ?turn2 v1.off _ _ _ _ ?h02 F4 N4)
    case hE2 => first | passes_own | with_unfolding_all passes_own
    case h02 => exact ⟨rfl, Nat.le_refl _, q3, fun i h1 h2 => by omega, ⟨_, rfl⟩, rfl, rfl, rfl, rfl⟩
    case turn2 =>
      clear F4 N4
      rintro e m2 nx2 h2 tk2 ⟨rfl, p1, p2, p3, ⟨te, p4⟩, p5, p6, p7, p8⟩ F5 N5 IH2
      have F6 := fr_known (Str.ofString "end") (fr_known (Str.ofString "rv") (fr_known (Str.ofString "opposite") (fr_known (Str.ofString "characters") (fr_known (Str.ofString "self") F5 p5) (by rw [if_neg (by decide)]; exact p6)) (by rw [if_neg (by decide), if_neg (by decide)]; exact p7)) (by rw [if_neg (by decide), if_neg (by decide), if_neg (by decide)]; exact p8)) (by rw [if_neg (by decide), if_neg (by decide), if_neg (by decide), if_neg (by decide)]; exact p4)
      clear F5
      simp only [sLed, List.cons_append, List.nil_append] at N5
      have hRb : R.length ≤ 100000 := hRlen
      repeat' ((fail_if_success (with_reducible show wpAny _ _ (call (Value.builtin "str.join") _) _ _ _)); (fail_if_success (with_reducible show WhlRest _ _ _ _ _ _ _ _ _ _ _)); (fail_if_success (with_reducible show wpAny _ _ (call (Value.ref 106) _) _ _ _)); first | (k_unfold; (try dsimp only)) | (k_end; wrow_close) | walk1 | (dsimp only; walk1))
      all_goals try (exfalso; omega; done)
      · have hc10 : v1.chunk.getD e 0 ≠ 10 := by
          have q : (decide (v1.chunk.getD (e : Int).toNat 0 = 10) == false) = true := by assumption
          simpa using q
        have hlt : e < v1.chunk.length := by
          have q : (e : Int) ≠ v1.chunk.length := by assumption
          omega
        exact IH2 (e + 1) _ _ _ _ (by omega) ⟨rfl, by omega, by omega, fun i h1 h2 => by rcases Nat.lt_or_ge i e with h | h; exact p3 i h1 h; rw [show i = e by omega]; exact hc10, ⟨_, rfl⟩, rfl, rfl, rfl, rfl⟩ (by k_asm) (by k_asm)
      · have hc10 : v1.chunk.getD e 0 = 10 := by
          have q : (decide (v1.chunk.getD (e : Int).toNat 0 = 10) == false) = false := by assumption
          simpa using q
        have hlt : e < v1.chunk.length := by
          have q : (e : Int) ≠ v1.chunk.length := by assumption
          omega
        obtain ⟨m10, htw⟩ := ahead_hit v1 e p1 hlt p3 hc10
        obtain ⟨rfl, rfl⟩ := cu_hit hcu1 m10
        have htl : (v1.ahead.takeWhile (· ≠ 10)).length = e - v1.off := by rw [htw, List.length_take, List.length_drop]; omega
        have hR0 : accT acc = R := by
          rw [← hR, htw, show e - v1.off = 0 by omega]; simp
        have hRl : (accT acc).length + acc.length ≤ 1000000 := by rw [hR0]; omega
        (refine' r_join (acc := acc) rfl ?n ?m hRl ?_; (case n => k_asm); (case m => k_mem))
        intro t9 k9
        k_steps
        rw [hR0]
        refine' hret _ _ _ _ (by k_asm) ?n ?he ?ok
        case n => walk_at "mine sled"
        case he => exact he1
        case ok => exact ⟨hv1.text, hv1.place, hv1.chunk, by dsimp only; omega, hv1.ne, hv1.code⟩
      · have hc10 : v1.chunk.getD e 0 = 10 := by
          have q : (decide (v1.chunk.getD (e : Int).toNat 0 = 10) == false) = false := by assumption
          simpa using q
        have hlt : e < v1.chunk.length := by
          have q : (e : Int) ≠ v1.chunk.length := by assumption
          omega
        obtain ⟨m10, htw⟩ := ahead_hit v1 e p1 hlt p3 hc10
        obtain ⟨rfl, rfl⟩ := cu_hit hcu1 m10
        have htl : (v1.ahead.takeWhile (· ≠ 10)).length = e - v1.off := by rw [htw, List.length_take, List.length_drop]; omega
        have hx : List.take ((e : Int) - v1.off).toNat (List.drop ((v1.off : Int)).toNat v1.chunk) = v1.ahead.takeWhile (· ≠ 10) := by
          rw [htw, Int.toNat_natCast, show ((e : Int) - v1.off).toNat = e - v1.off by omega]
        have hR0 : ∀ tq : Tok, accT (acc ++ [(List.take ((e : Int) - v1.off).toNat (List.drop ((v1.off : Int)).toNat v1.chunk), tq)]) = R := by
          intro tq; rw [accT_snoc, hx, hR]
        have hRl : ∀ tq : Tok, (accT (acc ++ [(List.take ((e : Int) - v1.off).toNat (List.drop ((v1.off : Int)).toNat v1.chunk), tq)])).length + (acc ++ [(List.take ((e : Int) - v1.off).toNat (List.drop ((v1.off : Int)).toNat v1.chunk), tq)]).length ≤ 1000000 := by
          intro tq; rw [hR0, List.length_append, List.length_singleton]; omega
        (refine' r_join (accV_push acc _ _) ?n ?m (hRl _) ?_; (case n => k_asm); (case m => k_mem))
        intro t9 k9
        k_steps
        rw [hR0]
        refine' hret _ _ _ _ (by k_asm) ?n ?he ?ok
        case n => walk_at "mine sled"
        case he => exact he1
        case ok => exact ⟨hv1.text, hv1.place, hv1.chunk, by dsimp only; omega, hv1.ne, hv1.code⟩
      all_goals (
        by_cases hd10 : v1.data0 10240 = []
        · repeat' ((fail_if_success (with_reducible show wpAny _ _ (call (Value.builtin "str.join") _) _ _ _)); (fail_if_success (with_reducible show WhlRest _ _ _ _ _ _ _ _ _ _ _)); first | (k_unfold; (try dsimp only)) | walk1 | (dsimp only; walk1))
          have hes : (e : Int) = v1.chunk.length := by assumption
          have m10 : 10 ∉ v1.ahead := ahead_miss v1 fun i h1 h2 => p3 i h1 (by omega)
          have hx : List.drop ((v1.off : Int)).toNat v1.chunk = v1.ahead := by rw [Int.toNat_natCast]; rfl
          obtain ⟨rfl, rfl⟩ := cu_stop hcu1 m10 hd10
          have hR0 : ∀ tq : Tok, accT (acc ++ [(List.drop ((v1.off : Int)).toNat v1.chunk, tq)]) = R := by
            intro tq; rw [accT_snoc, hx, hR]
          have hRl : ∀ tq : Tok, (accT (acc ++ [(List.drop ((v1.off : Int)).toNat v1.chunk, tq)])).length + (acc ++ [(List.drop ((v1.off : Int)).toNat v1.chunk, tq)]).length ≤ 1000000 := by
            intro tq; rw [hR0, List.length_append, List.length_singleton]; omega
          (refine' r_join (accV_push acc _ _) ?n ?m (hRl _) ?_; (case n => k_asm); (case m => k_mem))
          intro t9 k9
          k_steps
          rw [hR0]
          refine' hret _ _ _ _ (by k_asm) ?n ?he ?ok
          case n => walk_at "mine sled"
          case he => assumption
          case ok => exact hv1.rdEnd
        · repeat' ((fail_if_success (with_reducible show wpAny _ _ (call (Value.builtin "str.join") _) _ _ _)); (fail_if_success (with_reducible show WhlRest _ _ _ _ _ _ _ _ _ _ _)); first | (k_unfold; (try dsimp only)) | walk1 | (dsimp only; walk1))
          have hes : (e : Int) = v1.chunk.length := by assumption
          have m10 : 10 ∉ v1.ahead := ahead_miss v1 fun i h1 h2 => p3 i h1 (by omega)
          have hx : List.drop ((v1.off : Int)).toNat v1.chunk = v1.ahead := by rw [Int.toNat_natCast]; rfl
          obtain ⟨l', rfl, hcu2⟩ := cu_more hcu1 m10 hd10
          have hleft := left_rd hv1 hd10
          (with_reducible rename News _ _ _ _ => N9)
          (with_reducible rename Fr _ _ _ _ => F9)
          (with_reducible rename List.length (Tk.errs _) = _ => he9)
          have N10 := news_back7 N9
          rw [accV_push, hx] at N10
          exact IH (acc ++ [(_, _)], v1.rd 10240) _ _ _ _ hleft ⟨_, _, l', rfl, he9, hv1.rd _, hcu2, by rw [accT_snoc, List.append_assoc]; exact hR, by simp only [List.length_append, List.length_singleton]; omega, rfl, rfl, rfl, rfl⟩ F9 N10)

end

theorem again9 : True := by
  w_top off
  try walk1
  trivial
section
variable {w : World} {mean : ExcName → Option Value} {mg mb : Str → Option Value} {dp un : Nat} {gd : Option (List Code)} {cn : Str} {csn : List (Str × NameKind)} {csm : List (Str × Const)} {a : Addr} {ccd : Value} {cl : List (Str × Addr)} {outer : List Env} {A₀ : Around} {base h₀ : Heap} {L : Addr} {m : Str → Option Value} {rest : Led} {s : Shared} {Q E : Value → Shared → Prop}
  (B : Below A₀ base outer h₀) (F : Fr h₀ L s.heap m) (X : (Mine.hd.heap_39 w.params).In h₀) (T : Top Mine.hd.view_39 (looseW Mine.hd.view_39 [Str.ofString "HTMLUnicodeInputStream"]) mean mg mb h₀)
include B F X T
local macro_rules | `(tactic| walk_at "call ref") => `(tactic| (k_here; (try dsimp only); (with_reducible show wpAny _ _ (call (Value.ref 106) _) _ _ _); (k_dflt (refine' readChunk0_no ?b ?f ?x ?t _ _ _ ?hK ?he ?rD ?rTD ?rER ?hv ?hf ?n ?d ?_; (case b => k_asm); (case f => k_asm); (case x => k_asm); (case t => k_asm); (case hK => assumption); (case hf => assumption); (case hv => assumption); (case he => assumption); (case n => k_asm); (case rD => k_all); (case rTD => k_all); (case rER => k_all); (case d => k_room)); intro t' h' tk' F' N' he' ok'; (try k_sweep); (try dsimp only))))
theorem charEnd_spec (K : SK) (v : Vw) (t : Tk) (hK : K.Ok) (he : t.errs.length = v.ne) (rD : ∀ p ∈ rest, p.1 ≠ K.D) (rTD : ∀ p ∈ rest, p.1 ≠ K.TD) (rER : ∀ p ∈ rest, p.1 ≠ K.ER) (hv : v.Ok) (hn : v.off = v.chunk.length) (hf : v.data0 10240 = []) (N : News h₀ L s.heap (sLed w K v t ++ rest)) (hd : dp + 30 < recursionLimit)
    (hret : ∀ t' h' tk', Fr h₀ L h' m → News h₀ L h' (sLed w K v.rdEnd t' ++ rest) → t'.errs.length = v.rdEnd.ne → v.rdEnd.Ok → Q .none { s with heap := h', toks := tk' }) :
    wpAny (model PySem.Challenge.rw_te0075_01.row.prog w) (ktrTop dp un gd cn ⟨.function, csn, false, false, csm⟩ L a ccd cl outer) (call (.ref 98) [.ref K.S]) Q E s := by
  simp only [sLed, List.cons_append, List.nil_append] at N
  have q1 := hv.chunk
  k_steps
  all_goals first
    | (exfalso; omega; done)
    | (refine' hret _ _ _ (by k_asm) ?n ?he (by assumption)
       case n => k_asm
       case he => assumption)

end

theorem again10 : True := by
  w_top off
  try walk1
  trivial
section
variable {w : World} {mean : ExcName → Option Value} {mg mb : Str → Option Value} {dp un : Nat} {gd : Option (List Code)} {cn : Str} {csn : List (Str × NameKind)} {csm : List (Str × Const)} {a : Addr} {ccd : Value} {cl : List (Str × Addr)} {outer : List Env} {A₀ : Around} {base h₀ : Heap} {L : Addr} {m : Str → Option Value} {rest : Led} {s : Shared} {Q E : Value → Shared → Prop}
  (B : Below A₀ base outer h₀) (F : Fr h₀ L s.heap m) (X : (Mine.hd.heap_39 w.params).In h₀) (T : Top Mine.hd.view_39 (looseW Mine.hd.view_39 [Str.ofString "HTMLUnicodeInputStream"]) mean mg mb h₀)
include B F X T
theorem init_spec (x : List Nat) (tx0 : Tok) (N : News h₀ L s.heap rest) (hd : dp + 30 < recursionLimit)
    (hret : ∀ (K : SK) t' h' tk', K.Ok → (∀ p ∈ rest, @LT.lt Nat _ p.1 K.D) → Fr h₀ L h' m → News h₀ L h' (sLed w K ⟨[], 0, 0, 0, false, x, 0, 0⟩ t' ++ rest) → t'.errs.length = 0 → Q (.ref K.S) { s with heap := h', toks := tk' }) :
    wpAny (model PySem.Challenge.rw_te0075_01.row.prog w) (ktrTop dp un gd cn ⟨.function, csn, false, false, csm⟩ L a ccd cl outer) (call (.ref 131) [.str (tx x) tx0]) Q E s := by
  k_steps
  (with_reducible rename News _ _ _ _ => N9)
  (with_reducible rename Fr _ _ _ _ => F9)
  refine' hret ⟨_, _, _, _, _, _, _, kOf [_, _, _, _, _, _, _, _, _, _, _, _], _⟩ ⟨_, _, _, _, _, 0, _, _, [], _⟩ _ _ ?k ?r F9 N9 rfl
  case k => refine ⟨?_, ?_, ?_, ?_, ?_, ?_⟩ <;> (dsimp only; omega)
  case r => assumption

end

theorem again11 : True := by
  w_top off
  try walk1
  trivial
section
variable {w : World} {mean : ExcName → Option Value} {mg mb : Str → Option Value} {dp un : Nat} {gd : Option (List Code)} {cn : Str} {csn : List (Str × NameKind)} {csm : List (Str × Const)} {a : Addr} {ccd : Value} {cl : List (Str × Addr)} {outer : List Env} {A₀ : Around} {base h₀ : Heap} {L : Addr} {m : Str → Option Value} {rest : Led} {s : Shared} {Q E : Value → Shared → Prop}
  (B : Below A₀ base outer h₀) (F : Fr h₀ L s.heap m) (X : (Mine.hd.heap_39 w.params).In h₀) (T : Top Mine.hd.view_39 (looseW Mine.hd.view_39 [Str.ofString "HTMLUnicodeInputStream"]) mean mg mb h₀)
include B F X T
theorem lines_spec (N : News h₀ L s.heap rest) (hd : dp + 10 < recursionLimit)
    (hret : ∀ (LL : Addr) t0 t1 t2 t3 t4 t5 t6 h' tk', (∀ p ∈ rest, @LT.lt Nat _ p.1 LL) → Fr h₀ L h' m → News h₀ L h' ((LL, PySem.W.listOf #[.str (tx []) t0, .str (tx [97]) t1, .str (tx []) t2, .str (tx [233, 32, 12]) t3, .str (tx [97, 98, 60, 133]) t4, .str (tx [9, 0, 99, 100, 101]) t5, .str (tx [127]) t6] 0) :: rest) → Q (.ref LL) { s with heap := h', toks := tk' }) :
    wpAny (model PySem.Challenge.rw_te0075_01.row.prog w) (ktrTop dp un gd cn ⟨.function, csn, false, false, csm⟩ L a ccd cl outer) (call (.ref 142) []) Q E s := by
  k_steps
  (with_reducible rename News _ _ _ _ => N9)
  (with_reducible rename Fr _ _ _ _ => F9)
  rw [lit_a, lit_b, lit_c, lit_d, lit_e] at N9
  exact hret _ _ _ _ _ _ _ _ _ _ (by assumption) F9 N9
theorem ends_spec (N : News h₀ L s.heap rest) (hd : dp + 10 < recursionLimit)
    (hret : ∀ (LL : Addr) t0 t1 t2 h' tk', (∀ p ∈ rest, @LT.lt Nat _ p.1 LL) → Fr h₀ L h' m → News h₀ L h' ((LL, PySem.W.listOf #[.str (tx [10]) t0, .str (tx [13]) t1, .str (tx [13, 10]) t2] 0) :: rest) → Q (.ref LL) { s with heap := h', toks := tk' }) :
    wpAny (model PySem.Challenge.rw_te0075_01.row.prog w) (ktrTop dp un gd cn ⟨.function, csn, false, false, csm⟩ L a ccd cl outer) (call (.ref 149) []) Q E s := by
  k_steps
  (with_reducible rename News _ _ _ _ => N9)
  (with_reducible rename Fr _ _ _ _ => F9)
  exact hret _ _ _ _ _ _ (by assumption) F9 N9

end

theorem again12 : True := by
  w_top off
  try walk1
  trivial
section
variable {w : World} {mean : ExcName → Option Value} {mg mb : Str → Option Value} {dp un : Nat} {gd : Option (List Code)} {cn : Str} {csn : List (Str × NameKind)} {csm : List (Str × Const)} {a : Addr} {ccd : Value} {cl : List (Str × Addr)} {outer : List Env} {A₀ : Around} {base h₀ : Heap} {L : Addr} {m : Str → Option Value} {rest : Led} {s : Shared} {Q E : Value → Shared → Prop}
  (B : Below A₀ base outer h₀) (F : Fr h₀ L s.heap m) (X : (Mine.hd.heap_39 w.params).In h₀) (T : Top Mine.hd.view_39 (looseW Mine.hd.view_39 [Str.ofString "HTMLUnicodeInputStream"]) mean mg mb h₀)
include B F X T
local macro_rules | `(tactic| walk_at "subscriptTail Name BinOp str int") => `(tactic| (k_here; (with_reducible show wpAny _ _ (subscriptTail _ _ (Value.str (Mine.tx _) _) (Value.int _ _)) _ _ _); (refine Mine.r_item ?k0 ?k1 ?k2 ?_; (case k0 => walk_at "mine ar"); (case k1 => walk_at "mine ar"); (case k2 => walk_at "mine ar"))))
abbrev tup3 (a : Int) (t : Tok) (b : Int) (u : Tok) (c : Int) (v : Tok) : Obj := { cls := .type "tuple", data := .seq #[.int a t, .int b u, .int c v] }
theorem fetched_spec (text : List Nat) (t0 : Tok) (start taken size : Nat) (t1 t2 t3 : Tok) (h1 : text.length ≤ 1000) (h0 : 1 ≤ text.length) (hs : 1 ≤ size) (N : News h₀ L s.heap rest) (hd : dp + 10 < recursionLimit)
    (hret : ∀ (TT : Addr) q1 q2 q3 h' tk', (∀ p ∈ rest, @LT.lt Nat _ p.1 TT) → Fr h₀ L h' m → News h₀ L h' ((TT, tup3 (fS text start taken size) q1 (fT text taken size) q2 (signs text (fS text start taken size)) q3) :: rest) → Q (.ref TT) { s with heap := h', toks := tk' }) :
    wpAny (model PySem.Challenge.rw_te0075_01.row.prog w) (ktrTop dp un gd cn ⟨.function, csn, false, false, csm⟩ L a ccd cl outer) (call (.ref 156) [.str (tx text) t0, .int start t1, .int taken t2, .int size t3]) Q E s := by
  have eT : (if (text.length : Int) < (taken : Int) + size then (text.length : Int) else (taken : Int) + size) = (fT text taken size : Nat) := by
    unfold fT; split <;> omega
  have hT1 : 1 ≤ fT text taken size := by unfold fT; omega
  have hT2 : fT text taken size ≤ text.length := by unfold fT; omega
  have hS : fS text start taken size ≤ text.length := by unfold fS; split <;> omega
  repeat' ((fail_if_success (with_reducible show wpAny _ _ (exec (Stmt.Assign _ (PySem.Expr.IfExp _ _ _ _) _) _) _ _ _)); first | (k_unfold; (try dsimp only)) | walk1 | (dsimp only; walk1))
  (with_reducible rename Fr _ _ _ _ => F0)
  (with_reducible rename News _ _ _ _ => N0)
  simp only [eT] at F0
  refine stmt_cut (fun m nx => nx = rest ∧ (∃ q, m (Str.ofString "start") = some (.int (fS text start taken size : Nat) q)) ∧ (∃ q, m (Str.ofString "taken") = some (.int (fT text taken size : Nat) q)) ∧ m (Str.ofString "text") = some (.str (tx text) t0)) F0 N0 ?zc ?zf
  case zc =>
    repeat' ((fail_if_success (with_reducible show CutQ _ _ _ _ _ _)); first | (k_unfold; (try dsimp only)) | walk1 | (dsimp only; walk1))
    all_goals (
      have e2 : (((fT text taken size : Nat) : Int) - 1).toNat = fT text taken size - 1 := by omega
      simp only [e2, List.cons.injEq, and_true] at *
      (with_reducible rename News _ _ _ _ => N9)
      (with_reducible rename Fr _ _ _ _ => F9)
      first
        | (have q : ((fT text taken size : Nat) : Int) - 1 = (fS text start taken size : Nat) := by (unfold fS; split <;> omega)
           exact CutQ.mk _ _ _ _ ⟨rfl, ⟨_, congrArg (fun z => some (Value.int z _)) q⟩, ⟨_, rfl⟩, rfl⟩ F9 N9)
        | (have q : ((fT text taken size : Nat) : Int) = (fS text start taken size : Nat) := by (unfold fS; split <;> omega)
           exact CutQ.mk _ _ _ _ ⟨rfl, ⟨_, congrArg (fun z => some (Value.int z _)) q⟩, ⟨_, rfl⟩, rfl⟩ F9 N9))
  case zf =>
    clear F0 N0
    rintro m5 nx5 h5 tk5 ⟨hnx5, ⟨qs, g5⟩, ⟨qt, g6⟩, g7⟩ F6 N6
    rw [hnx5] at N6
    clear hnx5
    have F7 := fr_known (Str.ofString "start") (fr_known (Str.ofString "taken") (fr_known (Str.ofString "text") F6 g7) (by rw [if_neg (by decide)]; exact g6)) (by rw [if_neg (by decide), if_neg (by decide)]; exact g5)
    clear F6
    (repeat' ((fail_if_success (with_reducible show wpAny _ _ (exec (Stmt.For _ _ _ _ _) _) _ _ _)); first | (k_unfold; (try dsimp only)) | (k_end; wrow_close) | walk1 | (dsimp only; walk1) | (leave1; walk_say "STEP leave1"; try dsimp only)))
    (((with_reducible rename Fr _ _ _ _ => lF'); (with_unfolding_all refine' For_invVF lF' ?k1 ?k2 ?_; (case k1 => exact rfl); (case k2 => exact rfl))))
    (repeat' ((fail_if_success (with_reducible show wpAny _ _ (pyIter _) _ _ _)); first | (k_unfold; (try dsimp only)) | (k_end; wrow_close) | walk1 | (dsimp only; walk1) | (leave1; walk_say "STEP leave1"; try dsimp only)))
    (with_reducible rename News _ _ _ _ => N1)
    (with_reducible rename Fr _ _ _ _ => F1)
    (with_reducible rename IsRange _ _ _ _ _ _ _ _ => R1)
    refine iter_rng (fS text start taken size) (fun i m nx => nx = rest ∧ (∃ q, m (Str.ofString "signs") = some (.int (signs text i) q)) ∧ (∃ q, m (Str.ofString "start") = some (.int (fS text start taken size) q)) ∧ (∃ q, m (Str.ofString "taken") = some (.int (fT text taken size) q)) ∧ m (Str.ofString "text") = some (.str (tx text) t0)) (by rfl) R1 rfl (by omega) F1 N1 ?_ ?_ ?_
    · exact ⟨rfl, ⟨_, rfl⟩, ⟨_, rfl⟩, ⟨_, rfl⟩, rfl⟩
    · clear N1 F1 R1
      rintro i ti m₁ nx h tk own hi - hoff ⟨rfl, ⟨qa, g1⟩, ⟨qb, g2⟩, ⟨qc, g3⟩, g4⟩ F2 N2
      have F3 := fr_known (Str.ofString "signs") (fr_known (Str.ofString "text") F2 (v := .str (tx text) t0) (by rw [if_neg (by decide)]; exact g4)) (v := .int (signs text i) qa) (by rw [if_neg (by decide), if_neg (by decide)]; exact g1)
      clear F2
      iterate 37 (all_goals first | (k_unfold; (try dsimp only)) | walk1 | (dsimp only; walk1) | skip)
      all_goals (with_reducible rename News _ _ _ (_ ++ _) => N5)
      all_goals first
        | (rename ¬ ([_] : List Nat) = [13] => z; have hs : isSign text i = true := sign_yes3 z; clear z; rename ((_ : Nat) : Int) ≠ 0 => z2; clear z2)
        | (rename ¬ ([_] : List Nat) = [10] => z; have hs : isSign text i = true := sign_yes1 z; clear z)
        | (rename ((_ : Nat) : Int) = 0 => z; have hs : isSign text i = true := sign_yes2 z; clear z)
        | (rename ([_] : List Nat) = [13] => z3; rename ((_ : Nat) : Int) ≠ 0 => z2; have hs : isSign text i = false := sign_no (by assumption) z2 z3; clear z2 z3)
      clear hT1 hT2 hS h1 h0
      k_steps
      all_goals (
        (with_reducible rename Fr _ _ _ _ => F9)
        (with_reducible rename News _ _ _ (_ ++ _) => N9)
        refine end_in F9 N9 ⟨rfl, ?_, ?_, ?_, ?_⟩ rfl
        · first
            | (rw [signs_no hs]; exact ⟨_, rfl⟩)
            | (rw [signs_yes hs]; exact ⟨_, rfl⟩)
        · exact ⟨_, g2⟩
        · exact ⟨_, g3⟩
        · rfl)
    · clear N1 F1 R1
      rintro m₁ nx h tk ⟨rfl, ⟨qa, g1⟩, ⟨qb, g2⟩, ⟨qc, g3⟩, g4⟩ F2 N2
      have F3 := fr_known (Str.ofString "start") (fr_known (Str.ofString "taken") (fr_known (Str.ofString "signs") F2 g1) (by rw [if_neg (by decide)]; exact g3)) (by rw [if_neg (by decide), if_neg (by decide)]; exact g2)
      clear F2
      k_steps
      (with_reducible rename Fr _ _ (Shared.heap _) _ => F9)
      (with_reducible rename News _ _ (Shared.heap _) _ => N9)
      exact hret _ _ _ _ _ _ (by assumption) F9 N9

end

theorem again13 : True := by
  w_top off
  try walk1
  trivial
section
variable {w : World} {mean : ExcName → Option Value} {mg mb : Str → Option Value} {dp un : Nat} {gd : Option (List Code)} {cn : Str} {csn : List (Str × NameKind)} {csm : List (Str × Const)} {a : Addr} {ccd : Value} {cl : List (Str × Addr)} {outer : List Env} {A₀ : Around} {base h₀ : Heap} {L : Addr} {m : Str → Option Value} {rest : Led} {s : Shared} {Q E : Value → Shared → Prop}
  (B : Below A₀ base outer h₀) (F : Fr h₀ L s.heap m) (X : (Mine.hd.heap_39 w.params).In h₀) (T : Top Mine.hd.view_39 (looseW Mine.hd.view_39 [Str.ofString "HTMLUnicodeInputStream"]) mean mg mb h₀)
include B F X T
theorem pos_call (K : SK) (v : Vw) (t : Tk) (A Bc : Nat) (hA : v.pl + (v.chunk.take v.off).count 10 + 1 = A) (hB : colFrom v.pc (v.chunk.take v.off) = Bc) (h1 : v.off ≤ v.chunk.length) (h2 : v.chunk.length ≤ 5000)
    (N : News h₀ L s.heap (sLed w K v t ++ rest)) (hd : dp + 8 < recursionLimit)
    (hret : ∀ T t1 t2 h' tk', Fr h₀ L h' m → News h₀ L h' ((T, tup2 (A : Nat) t1 (Bc : Nat) t2) :: (sLed w K v t ++ rest)) → (∀ p ∈ sLed w K v t ++ rest, @LT.lt Nat _ p.1 T) → Q (.ref T) { s with heap := h', toks := tk' }) :
    wpAny (model PySem.Challenge.rw_te0075_01.row.prog w) (ktrTop dp un gd cn ⟨.function, csn, false, false, csm⟩ L a ccd cl outer) (call (.ref 91) [.ref K.S]) Q E s := by
  subst hA hB
  exact position_spec B F X T K _ _ _ _ _ v.chunk _ _ _ _ _ _ v.off v.pl v.pc _ h1 h2 N hd fun T t1 t2 h' tk' F' N' l' => hret T t1 t2 h' tk' F' N' (allLt_all l')
theorem char_call (K : SK) (v : Vw) (t : Tk) (c : Nat) (hc : v.chunk.getD v.off 0 = c) (he : t.errs.length = v.ne) (rD : Off3 K rest) (hn : v.off < v.chunk.length) (hz : v.chunk.length ≤ 5000) (N : News h₀ L s.heap (sLed w K v t ++ rest)) (hd : dp + 4 < recursionLimit)
    (hK : K.Ok)
    (hret : ∀ tr t' h' tk', Fr h₀ L h' m → News h₀ L h' (sLed w K { v with off := v.off + 1 } t' ++ rest) → t'.errs.length = v.ne → Q (.str (tx [c]) tr) { s with heap := h', toks := tk' }) :
    wpAny (model PySem.Challenge.rw_te0075_01.row.prog w) (ktrTop dp un gd cn ⟨.function, csn, false, false, csm⟩ L a ccd cl outer) (call (.ref 98) [.ref K.S]) Q E s := by
  subst hc
  exact char_spec B F X T K v t hK he rD.D hn hz N hd hret
theorem unget_call (K : SK) (v : Vw) (t : Tk) (tu : Tok) (hK : K.Ok) (he : t.errs.length = v.ne) (rD : Off3 K rest) (hn : v.off < v.chunk.length) (h10 : v.chunk.getD v.off 0 = 10) (hz : v.chunk.length ≤ 5000) (N : News h₀ L s.heap (sLed w K { v with off := v.off + 1 } t ++ rest)) (hd : dp + 4 < recursionLimit)
    (hret : ∀ t' h' tk', Fr h₀ L h' m → News h₀ L h' (sLed w K v t' ++ rest) → t'.errs.length = v.ne → Q .none { s with heap := h', toks := tk' }) :
    wpAny (model PySem.Challenge.rw_te0075_01.row.prog w) (ktrTop dp un gd cn ⟨.function, csn, false, false, csm⟩ L a ccd cl outer) (call (.ref 128) [.ref K.S, .str (tx [10]) tu]) Q E s :=
  unget_spec B F X T K { v with off := v.off + 1 } t tu hK he rD.D (Nat.le_add_left 1 _) hn (by show v.chunk.getD (v.off + 1 - 1) 0 = 10; rw [Nat.add_sub_cancel]; exact h10) hz N hd hret
theorem readc_call (K : SK) (v : Vw) (t : Tk) (n : Nat) (tn : Tok) (N : News h₀ L s.heap (sLed w K v t ++ rest)) {txt pre : List Nat} {start taken : Nat} (hK : K.Ok) (he : t.errs.length = v.ne) (rD : Off3 K rest) (hS : St txt v start taken pre) (hlt : start < txt.length) (hn : 2 ≤ n) (hn2 : n ≤ 100000) (hd : dp + 20 < recursionLimit)
    (hret : ∀ t' h' tk', Fr h₀ L h' m → News h₀ L h' (sLed w K (v.rd n) t' ++ rest) → t'.errs.length = (v.rd n).ne → Q (.bool true) { s with heap := h', toks := tk' }) :
    wpAny (model PySem.Challenge.rw_te0075_01.row.prog w) (ktrTop dp un gd cn ⟨.function, csn, false, false, csm⟩ L a ccd cl outer) (call (.ref 106) [.ref K.S, .int n tn]) Q E s :=
  readChunk_yes B F X T K v t n tn hK he rD.D rD.TD rD.ER hS.ok (by omega) hn2 (hS.data_ne hlt (by omega)) N hd fun t' h' tk' F' N' he' _ => hret t' h' tk' F' N' he'
theorem posn_call (K : SK) (v : Vw) (t : Tk) (N : News h₀ L s.heap (sLed w K v t ++ rest)) {txt pre D : List Nat} {start taken i b : Nat} (hS : St txt v start taken pre) (hD : pre ++ v.chunk.take v.off = D) (hc : D.count 10 = i) (hb : colFrom 0 D = b) (hd : dp + 8 < recursionLimit)
    (hret : ∀ T t1 t2 h' tk', Fr h₀ L h' m → News h₀ L h' ((T, tup2 ((i + 1 : Nat) : Int) t1 (b : Nat) t2) :: (sLed w K v t ++ rest)) → (∀ p ∈ sLed w K v t ++ rest, @LT.lt Nat _ p.1 T) → Q (.ref T) { s with heap := h', toks := tk' }) :
    wpAny (model PySem.Challenge.rw_te0075_01.row.prog w) (ktrTop dp un gd cn ⟨.function, csn, false, false, csm⟩ L a ccd cl outer) (call (.ref 91) [.ref K.S]) Q E s :=
  pos_call B F X T K v t (i + 1) b (by rw [(hS.pos hD).1, hc]) (by rw [(hS.pos hD).2, hb]) hS.ok.off (by have := hS.ok.chunk; omega) N hd hret
theorem chr_call (K : SK) (v : Vw) (t : Tk) (N : News h₀ L s.heap (sLed w K v t ++ rest)) {txt pre D R : List Nat} {start taken c : Nat} (hS : St txt v start taken pre) (hD : pre ++ v.chunk.take v.off = D) (hn : norm txt = D ++ c :: R) (ho : v.off < v.chunk.length) (he : t.errs.length = v.ne) (rD : Off3 K rest) (hK : K.Ok) (hd : dp + 4 < recursionLimit)
    (hret : ∀ tr t' h' tk', Fr h₀ L h' m → News h₀ L h' (sLed w K { v with off := v.off + 1 } t' ++ rest) → t'.errs.length = v.ne → Q (.str (tx [c]) tr) { s with heap := h', toks := tk' }) :
    wpAny (model PySem.Challenge.rw_te0075_01.row.prog w) (ktrTop dp un gd cn ⟨.function, csn, false, false, csm⟩ L a ccd cl outer) (call (.ref 98) [.ref K.S]) Q E s :=
  char_call B F X T K v t c (hS.next hD hn ho).1 he rD ho (by have := hS.ok.chunk; omega) N hd hK hret
theorem ung_call (K : SK) (v : Vw) (t : Tk) (tu : Tok) (N : News h₀ L s.heap (sLed w K { v with off := v.off + 1 } t ++ rest)) {txt pre D R : List Nat} {start taken : Nat} (hS : St txt v start taken pre) (hD : pre ++ v.chunk.take v.off = D) (hn : norm txt = D ++ 10 :: R) (ho : v.off < v.chunk.length) (he : t.errs.length = v.ne) (rD : Off3 K rest) (hK : K.Ok) (hd : dp + 4 < recursionLimit)
    (hret : ∀ t' h' tk', Fr h₀ L h' m → News h₀ L h' (sLed w K v t' ++ rest) → t'.errs.length = v.ne → Q .none { s with heap := h', toks := tk' }) :
    wpAny (model PySem.Challenge.rw_te0075_01.row.prog w) (ktrTop dp un gd cn ⟨.function, csn, false, false, csm⟩ L a ccd cl outer) (call (.ref 128) [.ref K.S, .str (tx [10]) tu]) Q E s :=
  unget_call B F X T K v t tu hK he rD ho (hS.next hD hn ho).1 (by have := hS.ok.chunk; omega) N hd hret
theorem cu_call (K : SK) (v : Vw) (t : Tk) (CH : Addr) (tc : Tok) {txt pre D r X' : List Nat} {start taken : Nat} (hS : St txt v start taken pre) (hD : pre ++ v.chunk.take v.off = D) (hn : norm txt = D ++ (r ++ X')) (h10 : 10 ∉ r) (hX : X' = [] ∨ ∃ R, X' = 10 :: R) (hr : r.length ≤ 5) (hK : K.Ok) (he : t.errs.length = v.ne) (rD : Off3 K rest)
    (N : News h₀ L s.heap ((CH, ({ cls := .type "tuple", data := .seq #[.str (tx [10]) tc] } : Obj)) :: (sLed w K v t ++ rest))) (hd : dp + 30 < recursionLimit)
    (hret : ∀ vE, Cu v r vE → ∀ tr t' h' tk', Fr h₀ L h' m → News h₀ L h' (sLed w K vE t' ++ rest) → t'.errs.length = vE.ne → vE.Ok → Q (.str (tx r) tr) { s with heap := h', toks := tk' }) :
    wpAny (model PySem.Challenge.rw_te0075_01.row.prog w) (ktrTop dp un gd cn ⟨.function, csn, false, false, csm⟩ L a ccd cl outer) (call (.ref 121) [.ref K.S, .ref CH]) Q E s := by
  obtain ⟨l, vE, hC⟩ := cu_exists (v.left + 1) v hS.ok (Nat.lt_succ_self _)
  obtain rfl : l = r := cu_text hC hS (by rw [hD]; exact hn) h10 hX
  have hO : Off3 K [(CH, ({ cls := .type "tuple", data := .seq #[.str (tx [10]) tc] } : Obj))] := off3_tup N
  exact charsUntil_spec B F X T (rest := (CH, ({ cls := .type "tuple", data := .seq #[.str (tx [10]) tc] } : Obj)) :: rest) K v t CH tc l vE hC (by omega) hK he (hO.app rD).D (hO.app rD).TD (hO.app rD).ER (List.mem_cons_self ..) hS.ok
    (news_mid N) hd
    fun tr t' h' tk' F' N' he' ok' => hret vE hC tr t' h' tk' F' (news_skip N') he' ok'
theorem end_call (K : SK) (v : Vw) (t : Tk) {txt : List Nat} (hK : K.Ok) (he : t.errs.length = v.ne) (rD : Off3 K rest) (hA : AtEnd txt v) (N : News h₀ L s.heap (sLed w K v t ++ rest)) (hd : dp + 30 < recursionLimit)
    (hret : ∀ v' t' h' tk', AtEnd txt v' → Fr h₀ L h' m → News h₀ L h' (sLed w K v' t' ++ rest) → t'.errs.length = v'.ne → Q .none { s with heap := h', toks := tk' }) :
    wpAny (model PySem.Challenge.rw_te0075_01.row.prog w) (ktrTop dp un gd cn ⟨.function, csn, false, false, csm⟩ L a ccd cl outer) (call (.ref 98) [.ref K.S]) Q E s :=
  charEnd_spec B F X T K v t hK he rD.D rD.TD rD.ER hA.ok (by rw [hA.off, hA.chunk]; rfl) hA.data N hd fun t' h' tk' F' N' he' _ => hret v.rdEnd t' h' tk' hA.again F' N' he'
theorem endp_call (K : SK) (v : Vw) (t : Tk) {txt : List Nat} {i b : Nat} (hA : AtEnd txt v) (hc : (norm txt).count 10 = i) (hb : colFrom 0 (norm txt) = b) (N : News h₀ L s.heap (sLed w K v t ++ rest)) (hd : dp + 8 < recursionLimit)
    (hret : ∀ T t1 t2 h' tk', Fr h₀ L h' m → News h₀ L h' ((T, tup2 ((i + 1 : Nat) : Int) t1 (b : Nat) t2) :: (sLed w K v t ++ rest)) → (∀ p ∈ sLed w K v t ++ rest, @LT.lt Nat _ p.1 T) → Q (.ref T) { s with heap := h', toks := tk' }) :
    wpAny (model PySem.Challenge.rw_te0075_01.row.prog w) (ktrTop dp un gd cn ⟨.function, csn, false, false, csm⟩ L a ccd cl outer) (call (.ref 91) [.ref K.S]) Q E s :=
  pos_call B F X T K v t (i + 1) b (by rw [hA.off, hA.pl]; simp; exact hc) (by rw [hA.off, hA.pc]; show colFrom _ [] = b; rw [← hb]; simp [colFrom]) (by rw [hA.off]; exact Nat.zero_le _) (by rw [hA.chunk]; simp) N hd hret

end

theorem again14 : True := by
  w_top off
  try walk1
  trivial
section
local macro_rules | `(tactic| walk_at "subscriptTail") => `(tactic| (k_here; first
  | ((refine' Mine.r_pick7 ?zn ?zm ?z0 ?z1 ?_; (case zn => k_asm); (case zm => k_mem); (case z0 => walk_at "mine mod"); (case z1 => walk_at "mine mod")); intro xg tg hgood; have hgl := Good.len hgood; (with_reducible rename News _ _ _ _ => Np); replace Np := Mine.news_tail Np)
  | ((refine' Mine.r_pick3 ?zn ?zm ?z0 ?z1 ?_; (case zn => k_asm); (case zm => k_mem); (case z0 => walk_at "mine mod"); (case z1 => walk_at "mine mod")); intro xe te hend; have hel := IsEnd.len hend; (with_reducible rename News _ _ _ _ => Np); replace Np := Mine.news_tail Np)))
local macro_rules | `(tactic| walk_at "call builtin:list.append") => `(tactic| (k_here; k_dflt (refine' append_K ?zk1 ?zk2 ?zk3 ?_ ?zz; (case zk1 => k_asm); (case zk2 => k_asm); (case zk3 => k_upd); (case zz => assumption); k_whole); intro h' F' N'; (try k_sweep)))
local macro_rules | `(tactic| walk_at "mine mod") => `(tactic| first | omega | (rw [Int.fmod_eq_emod_of_nonneg _ (by decide)]; omega) | exact Int.emod_nonneg _ (by decide) | exact Int.emod_lt_of_pos _ (by decide))
local macro_rules | `(tactic| walk_at "call ref") => `(tactic| (k_here; (try dsimp only); (with_reducible show wpAny _ _ (call (.ref 142) _) _ _ _); k_dflt (refine' Mine.lines_spec (by k_asm) (by k_asm) (by k_asm) (by k_asm) (by k_asm) (by k_room) ?_); intro LL' q0 q1 q2 q3 q4 q5 q6 h' tk' l1 F' N'; (try k_sweep); (try dsimp only)))
local macro_rules | `(tactic| walk_at "call ref") => `(tactic| (k_here; (try dsimp only); (with_reducible show wpAny _ _ (call (.ref 149) _) _ _ _); k_dflt (refine' Mine.ends_spec (by k_asm) (by k_asm) (by k_asm) (by k_asm) (by k_asm) (by k_room) ?_); intro LL' q0 q1 q2 h' tk' l1 F' N'; (try k_sweep); (try dsimp only)))
local macro_rules | `(tactic| walk_at "call ref") => `(tactic| (k_here; (try dsimp only); (with_reducible show wpAny _ _ (call (.ref 106) _) _ _ _); k_dflt (refine' Mine.readc_call (by k_asm) (by k_asm) (by k_asm) (by k_asm) _ _ _ _ _ (by k_asm) (by assumption) (by assumption) (by assumption) (by assumption) (by assumption) (by assumption) (by omega) (by k_room) ?_); intro t' h' tk' F' N' he'; (try k_sweep); (try dsimp only)))
local macro_rules | `(tactic| walk_at "call ref") => `(tactic| (k_here; (try dsimp only); (with_reducible show wpAny _ _ (call (.ref 91) _) _ _ _); k_dflt (refine' Mine.posn_call (by k_asm) (by k_asm) (by k_asm) (by k_asm) _ _ _ (by first | k_asm | exact Mine.news_tail (by k_asm)) (by assumption) (by assumption) (by assumption) (by assumption) (by k_room) ?_); intro T' q1' q2' h' tk' F' N' lT'; (try k_sweep); (try dsimp only)))
local macro_rules | `(tactic| walk_at "call ref") => `(tactic| (k_here; (try dsimp only); (with_reducible show wpAny _ _ (call (.ref 98) _) _ _ _); k_dflt (refine' Mine.chr_call (by k_asm) (by k_asm) (by k_asm) (by k_asm) _ _ _ (by first | k_asm | exact Mine.news_tail (by k_asm)) (by assumption) (by assumption) (by assumption) (by assumption) (by assumption) (by assumption) (by assumption) (by k_room) ?_); intro tr' t' h' tk' F' N' he'; (try k_sweep); (try dsimp only)))
local macro_rules | `(tactic| walk_at "call ref") => `(tactic| (k_here; (try dsimp only); (with_reducible show wpAny _ _ (call (.ref 156) _) _ _ _); k_dflt (refine' Mine.fetched_spec (by k_asm) (by k_asm) (by k_asm) (by k_asm) _ _ _ _ _ _ _ _ (by assumption) (by omega) (by omega) (by k_asm) (by k_room) ?_); intro TT' q1' q2' q3' h' tk' lT' F' N'; (try k_sweep); (try dsimp only)))
local macro_rules | `(tactic| walk_at "compareOp NotEq ref ref") => `(tactic| (k_here; k_dflt (refine' Mine.r_tup_ne (by k_asm) (by first | k_mem | simp) (by first | k_mem | simp) (by first | rfl | omega) (by first | rfl | omega) (by ke_room) ?_); (((with_reducible rename News _ _ _ _ => Np); replace Np := Mine.news_tail (Mine.news_tail Np)))))
local macro_rules | `(tactic| walk_at "compareOp NotEq str str") => `(tactic| (k_here; first | with_reducible refine Mine.r_ne_same ?_ | with_reducible refine Mine.r_ne_yes (by assumption) ?_))
local macro_rules | `(tactic| walk_at "compareOp Eq str str") => `(tactic| (k_here; first | with_reducible refine Mine.r_eq_same ?_ | with_reducible refine Mine.r_eq_no (by assumption) ?_))
local macro_rules | `(tactic| walk_at "compareOp Eq int int") => `(tactic| (k_here; first | with_reducible refine Mine.r_ieq_yes (by assumption) ?_ | with_reducible refine Mine.r_ieq_no (by assumption) ?_))
local macro_rules | `(tactic| walk_at "compareOp Gt int int") => `(tactic| (k_here; first | with_reducible refine Mine.r_igt_yes (by assumption) ?_ | with_reducible refine Mine.r_igt_no (by assumption) ?_))
local macro_rules | `(tactic| walk_at "call builtin:str.find") => `(tactic| (k_here; refine' Mine.r_find (by assumption) (by assumption) ?_))
local macro_rules | `(tactic| walk_at "compareOp GtE int int") => `(tactic| (k_here; first | with_reducible refine Mine.r_ige_yes (by assumption) ?_ | with_reducible refine Mine.r_ige_no (by assumption) ?_))
local macro_rules | `(tactic| walk_at "compareOp Lt int int") => `(tactic| (k_here; first | with_reducible refine Mine.r_ilt_yes (by assumption) ?_ | with_reducible refine Mine.r_ilt_no (by assumption) ?_))
local macro_rules | `(tactic| walk_at "call ref") => `(tactic| (k_here; (try dsimp only); (with_reducible show wpAny _ _ (call (.ref 128) [_, .str _ _]) _ _ _); k_dflt (refine' Mine.ung_call (by k_asm) (by k_asm) (by k_asm) (by k_asm) _ _ _ _ (by first | k_asm | exact Mine.news_tail (by k_asm)) (by assumption) (by assumption) (by assumption) (by assumption) (by assumption) (by assumption) (by assumption) (by k_room) ?_); intro t' h' tk' F' N' he'; (try k_sweep); (try dsimp only)))
local macro_rules | `(tactic| passes_own) => `(tactic| assumption)
local macro_rules | `(tactic| k_in) => `(tactic| first | with_reducible assumption | exact Frag.In.keeps (by with_reducible assumption) (Fr.keep (by with_reducible assumption)))
theorem law_all : PySem.Challenge.rw_te0075_01.Holds := Mine.hd (by
  w_strict
  k_go0
  (all_goals try k_fold)
  refine abs_QE (by first | passes_own | with_unfolding_all passes_own) (fun Q0 E0 hQ0 hp0 => ?_)
  (repeat' ((fail_if_success (with_reducible show wpAny _ _ (eval (PySem.Expr.IfExp _ _ _ _) _) _ _ _)); first | (k_unfold; (try dsimp only)) | (k_end; wrow_close) | walk1 | (dsimp only; walk1) | (leave1; walk_say "STEP leave1"; try dsimp only)))
  (with_reducible rename Fr _ _ _ _ => F0)
  (with_reducible rename Heap.IsList _ _ _ => hLst)
  (with_reducible rename World => wld)
  (with_reducible rename News _ _ _ _ => N0)
  refine numbers_in F0 N0 ?w1 ?w2
  case w1 =>
    (repeat' (first | (k_unfold; (try dsimp only)) | walk1 | (dsimp only; walk1)))
    all_goals (
      (with_reducible rename Fr _ _ _ _ => F9)
      (with_reducible rename News _ _ _ _ => N9)
      first
        | exact .mk _ [_] [4] _ _ F9 N9 (.cons _ _ .nil) (by decide) (by decide)
        | exact .mk _ _ _ _ _ F9 N9 (by assumption) (by omega) (by omega))
  case w2 =>
    intro D ws ns h1 tk1 F1 N1 hI hI1 hI2
    clear F0 N0
    (repeat' ((fail_if_success (with_reducible show wpAny _ _ (exec (Stmt.For _ _ _ _ _) _) _ _ _)); first | (k_unfold; (try dsimp only)) | (k_end; wrow_close) | walk1 | (dsimp only; walk1) | (leave1; walk_say "STEP leave1"; try dsimp only)))
    (((with_reducible rename Fr _ _ _ _ => lF'); (with_unfolding_all refine' For_invVF lF' ?k1 ?k2 ?_; (case k1 => exact rfl); (case k2 => exact rfl))))
    (repeat' ((fail_if_success (with_reducible show wpAny _ _ (pyIter _) _ _ _)); first | (k_unfold; (try dsimp only)) | (k_end; wrow_close) | walk1 | (dsimp only; walk1) | (leave1; walk_say "STEP leave1"; try dsimp only)))
    (with_reducible rename News _ _ _ _ => N2)
    (with_reducible rename Fr _ _ _ _ => F2)
    (with_reducible rename @LT.lt Nat _ D _ => l1)
    rename_i LS _ _ _ _
    refine iter_list (fun i m nx => ∃ acc text t c, nx = [(LS, PySem.W.listOf (accV acc) c), (D, PySem.W.listOf ws.toArray 0)] ∧ acc.length = i ∧ Built (acc.map (·.1)) text ∧ m (Str.ofString "text") = some (.str (tx text) t) ∧ m (Str.ofString "lines") = some (.ref LS) ∧ m (Str.ofString "numbers") = some (.ref D) ∧ m (Str.ofString "script") = some (.ref (addrOf hLst))) (by rfl) (l := D) (vs := ws) (c := 0) (by simp) F2 N2 ?j ?turn ?done
    case j => exact ⟨[], [], _, _, rfl, rfl, built_nil, rfl, rfl, rfl, rfl⟩
    case turn =>
      clear F2 N2
      intro i v m1 nx h2 tk2 own hv hadr hown hJ F3 N3
      dsimp only [envOf] at F3 N3
      refine abs_QE (by first | passes_own | with_unfolding_all passes_own) (fun Q1 E1 hQ1 hp1 => ?_)
      obtain ⟨n, tn, rfl⟩ := ints_at hI hv
      obtain ⟨acc, text, tt, cc, rfl, hacc, hB, g1, g2, g3, g4⟩ := hJ
      have F4 := fr_known (Str.ofString "lines") (fr_known (Str.ofString "text") F3 (by rw [if_neg (by decide)]; exact g1)) (by rw [if_neg (by decide), if_neg (by decide)]; exact g2)
      clear F3
      have b1 := hB.len
      simp only [List.length_map] at b1
      have hi12 : i < 12 := by
        have := (List.getElem?_eq_some_iff.mp hv).1
        have := hI.length
        omega
      have hoff : ∀ p ∈ own, p.1 ≠ LS := but_of hown (by simp) (Nat.ne_of_gt l1)
      have hsz : (accV acc).size ≤ sizeLine := by
        simp only [List.size_toArray, List.length_map, sizeLine_eq]
        omega
      k_steps
      all_goals (
        (with_reducible rename Fr _ _ _ _ => F9)
        (with_reducible rename News _ _ _ _ => N9)
        rw [accV_push] at N9
        rw [hQ1]
        refine end_in (nx := [(LS, PySem.W.listOf (accV (acc ++ [(_, _)])) _), (D, PySem.W.listOf ws.toArray 0)]) F9 N9 ⟨_, _, _, _, rfl, (by simp [hacc]), ?_, rfl, rfl, g3, g4⟩ rfl
        simp only [List.map_append, List.map_cons, List.map_nil]
        first
          | exact built_step hB (by assumption) (by assumption) (fun q => by first | exact absurd q.1 (by assumption) | exact absurd q.2 (by assumption))
          | exact built_step hB (by assumption) (Or.inr (Or.inr rfl)) (fun q => by have := congrArg List.length q.2; simp at this))
    case done =>
      clear F2 N2
      intro m1 nx h2 tk2 hJ F3 N3
      dsimp only [envOf] at F3 N3
      obtain ⟨acc, text, tt, cc, rfl, hacc, hB, g1, g2, g3, g4⟩ := hJ
      have F4 := fr_known (Str.ofString "script") (fr_known (Str.ofString "numbers") (fr_known (Str.ofString "lines") (fr_known (Str.ofString "text") F3 g1) (by rw [if_neg (by decide)]; exact g2)) (by rw [if_neg (by decide), if_neg (by decide)]; exact g3)) (by rw [if_neg (by decide), if_neg (by decide), if_neg (by decide)]; exact g4)
      clear F3
      have b1 := hB.len
      simp only [List.length_map] at b1
      have hn12 : acc.length ≤ 12 := by
        have := hI.length
        omega
      repeat' ((fail_if_success (with_reducible show wpAny _ _ (PyProof.Rows.subscriptTail _ _ _ _) _ _ _)); first | (k_unfold; (try dsimp only)) | walk1 | (dsimp only; walk1))
      k_here
      refine' Mine.r_pick7 ?zn ?zm ?z0 ?z1 ?_
      case zn => k_asm
      case zm => k_mem
      case z0 => walk_at "mine mod"
      case z1 => walk_at "mine mod"
      intro last tlast hgood
      have hgl := Good.len hgood
      (with_reducible rename News _ _ _ _ => Np)
      replace Np := Mine.news_tail Np
      repeat' ((fail_if_success (with_reducible show wpAny _ _ (call (Value.ref 131) _) _ _ _)); first | (k_unfold; (try dsimp only)) | walk1 | (dsimp only; walk1))
      k_here
      k_dflt (refine' Mine.init_spec ?zb ?zf ?zx ?zt _ _ ?zn ?zd ?_; (case zb => k_asm); (case zf => k_asm); (case zx => k_asm); (case zt => k_asm); (case zn => k_asm); (case zd => k_room))
      intro K t0 h3 tk3 hK lK F5 N5 he0
      (try k_sweep)
      (try dsimp only)
      (repeat' ((fail_if_success (with_reducible show wpAny _ _ (call (Value.type "enumerate") _) _ _ _)); first | (k_unfold; (try dsimp only)) | (k_end; wrow_close) | walk1 | (dsimp only; walk1)))
      (with_reducible rename Fr _ _ _ _ => F6)
      (with_reducible rename News _ _ _ _ => N6)
      obtain ⟨ls, hls⟩ : ∃ ls, ls = acc.map (·.1) := ⟨_, rfl⟩
      have hW : Whole ls last (text ++ last) := hls ▸ whole_of hB hgood (by simpa using hn12)
      have hrest : Off3 K [(LS, PySem.W.listOf (accV acc) cc), (D, PySem.W.listOf ws.toArray 0)] := off3_low hK lK
      have hKLS : K.D ≠ LS ∧ K.TD ≠ LS ∧ K.ER ≠ LS := ⟨(hrest.D _ (List.mem_cons_self ..)).symm, (hrest.TD _ (List.mem_cons_self ..)).symm, (hrest.ER _ (List.mem_cons_self ..)).symm⟩
      refine iter_enum (vs := acc.map fun p => Value.str (tx p.1) p.2) (c := cc) (fun i m nx => ∃ v t start taken pre q1 q2 q3 q4 tt, nx = sLed wld K v t ++ [(LS, PySem.W.listOf (accV acc) cc), (D, PySem.W.listOf ws.toArray 0)] ∧ St (text ++ last) v start taken pre ∧ pre ++ v.chunk.take v.off = flat (ls.take i) ∧ t.errs.length = v.ne ∧ Has m (nmK K (text ++ last) last tt tlast LS D (start : Nat) (taken : Nat) (signs (text ++ last) start : Nat) ((flat (ls.take i)).length : Nat) q1 q2 q3 q4)) (by rfl) ?zm F6 N6 ?zj ?zturn ?zdone
      case zm => simp
      case zj =>
        exact ⟨_, t0, 0, 0, [], _, _, _, _, _, rfl, st_init hW.len hW.code, rfl, he0, .cons rfl (.cons rfl (.cons rfl (.cons rfl (.cons rfl (.cons rfl (.cons rfl (.cons rfl (.cons rfl .nil))))))))⟩
      case zturn =>
        clear F6 N6
        obtain ⟨txt, htxt⟩ : ∃ txt, txt = text ++ last := ⟨_, rfl⟩
        rw [← htxt] at hW
        simp only [← htxt]
        intro i vv ta m6 nx h6 tk6 own hv hadr hown hJ F7 N7
        dsimp only [envOf] at F7 N7
        obtain ⟨line, tg, rfl, hli⟩ := acc_at hv
        rw [← hls] at hli
        obtain ⟨v, t, start, taken, pre, q1, q2, q3, q4, ttx, rfl, hS, hD, he, hN⟩ := hJ
        obtain ⟨gt, gl, gs, gn, gu, ga, gb, gc, gd⟩ := ((hN.bindK (x := Str.ofString "at") (v := some (.int (i : Int) ta)) (by decide)).bindK (x := Str.ofString "line") (v := some (.str (tx line) tg)) (by decide)).nine
        have F8 := fr_over F7 (Has.cons gu Has.nil)
        simp only [over] at F8
        have hgL := hW.good line (List.mem_of_getElem? hli)
        have hR : Off3 K ([(LS, PySem.W.listOf (accV acc) cc), (D, PySem.W.listOf ws.toArray 0)] ++ own) := hrest.app (off3_but hown hKLS.1 hKLS.2.1 hKLS.2.2)
        rw [List.append_assoc] at N7
        have hDm : (D, PySem.W.listOf ws.toArray 0) ∈ [(LS, PySem.W.listOf (accV acc) cc), (D, PySem.W.listOf ws.toArray 0)] ++ own := List.mem_append_left _ (by simp)
        obtain ⟨rs, hrs⟩ : ∃ rs : Led, rs = [(LS, PySem.W.listOf (accV acc) cc), (D, PySem.W.listOf ws.toArray 0)] ++ own := ⟨_, rfl⟩
        rw [← hrs] at N7 hR hDm
        refine abs_QE (by first | passes_own | with_unfolding_all passes_own) (fun Q2 E2 hQ2 hp2 => ?_)
        clear F7 hN hadr hown
        have hiacc : i < acc.length := by
          have := (List.getElem?_eq_some_iff.mp hv).1
          simpa using this
        have hins : i < ns.length := by
          have := hI.length
          omega
        clear hv
        repeat' ((fail_if_success (with_reducible show wpAny _ _ (PyProof.Rows.subscriptTail _ _ _ _) _ _ _)); first | (k_unfold; (try dsimp only)) | walk1 | (dsimp only; walk1))
        k_here
        refine' Mine.r_nums (LL := D) (vs := ws) (ns := ns) (c := 0) ?zn ?zm ?zi ?zz ?z0 ?z1 ?_
        case zn => k_asm
        case zm => exact List.mem_append_right _ hDm
        case zi => exact hI
        case zz => exact hI2
        case z0 => omega
        case z1 => omega
        intro n tn
        have hll := hgL.len
        (repeat' ((fail_if_success (with_reducible show wpAny _ _ (exec (Stmt.For _ _ _ _ _) _) _ _ _)); first | (k_unfold; (try dsimp only)) | (k_end; wrow_close) | walk1 | (dsimp only; walk1) | (leave1; walk_say "STEP leave1"; try dsimp only)))
        (((with_reducible rename Fr _ _ _ _ => lF'); (with_unfolding_all refine' For_invVF lF' ?k1 ?k2 ?_; (case k1 => exact rfl); (case k2 => exact rfl))))
        (repeat' ((fail_if_success (with_reducible show wpAny _ _ (pyIter _) _ _ _)); first | (k_unfold; (try dsimp only)) | (k_end; wrow_close) | walk1 | (dsimp only; walk1) | (leave1; walk_say "STEP leave1"; try dsimp only)))
        (with_reducible rename Fr _ _ _ _ => F9)
        (with_reducible rename News _ _ _ _ => N9)
        obtain ⟨W, hWd⟩ : ∃ W, W = n + (i : Int) := ⟨_, rfl⟩
        obtain ⟨sz, hsz, hsz2, hsz5⟩ : ∃ sz : Nat, 2 + W.fmod 4 = (sz : Int) ∧ 2 ≤ sz ∧ sz ≤ 5 := by
          rw [Int.fmod_eq_emod_of_nonneg _ (by decide)]
          exact ⟨(2 + W % 4).toNat, by omega, by omega, by omega⟩
        simp only [← hWd, hsz] at F9
        obtain ⟨R, hnorm⟩ := turn_facts hW hli
        have hil : i ≤ ls.length := Nat.le_of_lt (List.getElem?_eq_some_iff.mp hli).1
        have hl1 := hW.len
        refine iter_cut (l := line ++ [10]) (fun j m nx => ∃ v t start taken pre q1 q2 q3 q4 qw qs, nx = sLed wld K v t ++ rs ∧ St txt v start taken pre ∧ pre ++ v.chunk.take v.off = flat (ls.take i) ++ line.take j ∧ t.errs.length = v.ne ∧ Has m (nmK K txt last ttx tlast LS D (start : Nat) (taken : Nat) (signs txt start : Nat) ((flat (ls.take i) ++ line.take j).length : Nat) q1 q2 q3 q4) ∧ Has m (nmX W sz line i qw qs tg ta) ∧ (line.length < j → v.off < v.chunk.length) ∧ (2 < W.fmod 5 → j = 0 ∨ line = []))
          (fun m nx => ∃ v t start taken pre q1 q2 q3 q4 qw qs, nx = sLed wld K v t ++ rs ∧ St txt v start taken pre ∧ pre ++ v.chunk.take v.off = flat (ls.take i) ++ line ∧ t.errs.length = v.ne ∧ Has m (nmK K txt last ttx tlast LS D (start : Nat) (taken : Nat) (signs txt start : Nat) ((flat (ls.take i) ++ line).length : Nat) q1 q2 q3 q4) ∧ Has m (nmX W sz line i qw qs tg ta) ∧ v.off < v.chunk.length) (by rfl) F9 N9 ?yj ?yturn ?ydone ?yfin
        case yj =>
          have e0 : flat (ls.take i) ++ line.take 0 = flat (ls.take i) := by simp
          rw [e0]
          exact ⟨v, t, start, taken, pre, _, _, _, _, _, _, rfl, hS, hD, he, .cons gt (.cons gl (.cons gs (.cons gn (.cons rfl (.cons ga (.cons gb (.cons gc (.cons gd .nil)))))))), .cons rfl (.cons rfl (.cons rfl (.cons rfl .nil))), (fun h => absurd h (Nat.not_lt_zero _)), fun _ => Or.inl rfl⟩
        case yturn =>
          clear F9 N9 hS hD he
          intro j c tc m7 nx h7 tk7 own2 hc hadr hown hJ F10 N10
          dsimp only [envOf] at F10 N10
          obtain ⟨v, t, start, taken, pre, q1, q2, q3, q4, qw, qs, rfl, hS, hD, he, hN, hX, hlast, hway⟩ := hJ
          have F11 := fr_over F10 ((hN.bindK (x := Str.ofString "sign") (by decide)).app (hX.bindX (by decide)))
          simp only [over, List.cons_append, List.nil_append] at F11
          have hR2 : Off3 K (rs ++ own2) := hR.app (off3_off hown)
          rw [List.append_assoc] at N10
          obtain ⟨rs2, hrs2⟩ : ∃ rs2 : Led, rs2 = rs ++ own2 := ⟨_, rfl⟩
          rw [← hrs2] at N10 hR2
          refine abs_QE (by first | passes_own | with_unfolding_all passes_own) (fun Q3 E3 hQ3 hp3 => ?_)
          clear F10 hN hX hadr hown
          have hSl := hS.len hD
          have hSu := hS.until
          have hSo := hS.ok.off
          have hjl : 10 ∉ line.take j := fun m => hgL.nl (List.mem_of_mem_take m)
          have hpos := turn_pos hW hil hjl
          have hnj : norm txt = (flat (ls.take i) ++ line.take j) ++ c :: ((line ++ [10]).drop (j + 1) ++ R) := turn_next hnorm hc
          clear hjl
          (repeat' ((fail_if_success (with_reducible show wpAny _ _ (exec (Stmt.If _ _ _ _) _) _ _ _)); first | (k_unfold; (try dsimp only)) | walk1 | (dsimp only; walk1)))
          (with_reducible rename Fr _ _ _ _ => F12)
          (with_reducible rename News _ _ _ _ => N12)
          refine stmt_cut (fun m nx => ∃ v t start taken pre q1 q2 q3 q4 qw qs, nx = sLed wld K v t ++ rs2 ∧ St txt v start taken pre ∧ pre ++ v.chunk.take v.off = flat (ls.take i) ++ line.take j ∧ t.errs.length = v.ne ∧ v.off < v.chunk.length ∧ Has m (nmK K txt last ttx tlast LS D (start : Nat) (taken : Nat) (signs txt start : Nat) ((flat (ls.take i) ++ line.take j).length : Nat) q1 q2 q3 q4) ∧ Has m (nmX W sz line i qw qs tg ta) ∧ m (Str.ofString "sign") = some (.str (tx [c]) tc)) F12 N12 ?zc ?zf
          case zc =>
            refine abs_Q (fun Q4 hQ4 => ?_)
            clear hway hlast hnorm hWd hsz htxt
            have hps1 := hpos.1
            have hps2 := hpos.2
            clear hpos
            by_cases hoff : v.off = v.chunk.length
            · have heq : (((flat (ls.take i) ++ line.take j).length : Nat) : Int) = (signs txt start : Nat) := by omega
              have hlt : start < txt.length := hS.more hD hnj hoff
              have hS2 := hS.rd hlt (n := sz) hsz2
              have hD2 := hS.rd_done sz hD hoff
              have ho2 := hS.rd_ne hlt (n := sz) (by omega)
              clear hnj
              rcases sign_at hc with ⟨hj, hcj⟩ | ⟨rfl, rfl⟩
              · have hc10 : c ≠ 10 := fun e => hgL.nl (e ▸ List.mem_of_getElem? hcj)
                have hapart := hgL.apart
                have hps2' : colFrom 0 (flat (ls.take i) ++ line.take j) = j := by rw [hps2, List.length_take]; omega
                clear hps2
                (repeat' ((fail_if_success (with_reducible show CutQ _ _ _ _ _ _)); (fail_if_success (with_reducible show WhlRest _ _ _ _ _ _ _ _ _ _ _)); first | (k_unfold; (try dsimp only)) | walk1 | (dsimp only; walk1)))
                (with_reducible rename Fr _ _ _ _ => F9)
                (with_reducible rename News _ _ _ _ => N9)
                (with_reducible rename List.length (Tk.errs _) = _ => he9)
                rw [hQ4]
                exact CutQ.mk _ _ _ _ ⟨v.rd sz, _, _, _, _, _, _, _, _, _, _, rfl, hS2, hD2, he9, ho2, .cons rfl (.cons rfl (.cons rfl (.cons rfl (.cons rfl (.cons rfl (.cons rfl (.cons rfl (.cons rfl .nil)))))))), .cons rfl (.cons rfl (.cons rfl (.cons rfl .nil))), rfl⟩ F9 (news_tail N9)
              · have hps2' : colFrom 0 (flat (ls.take i) ++ line.take line.length) = line.length := by rw [hps2, List.length_take]; omega
                clear hps2
                (repeat' ((fail_if_success (with_reducible show CutQ _ _ _ _ _ _)); (fail_if_success (with_reducible show WhlRest _ _ _ _ _ _ _ _ _ _ _)); first | (k_unfold; (try dsimp only)) | walk1 | (dsimp only; walk1)))
                (with_reducible rename Fr _ _ _ _ => F9)
                (with_reducible rename News _ _ _ _ => N9)
                (with_reducible rename List.length (Tk.errs _) = _ => he9)
                rw [hQ4]
                exact CutQ.mk _ _ _ _ ⟨v.rd sz, _, _, _, _, _, _, _, _, _, _, rfl, hS2, hD2, he9, ho2, .cons rfl (.cons rfl (.cons rfl (.cons rfl (.cons rfl (.cons rfl (.cons rfl (.cons rfl (.cons rfl .nil)))))))), .cons rfl (.cons rfl (.cons rfl (.cons rfl .nil))), rfl⟩ F9 (news_tail N9)
            · have heq : (((flat (ls.take i) ++ line.take j).length : Nat) : Int) ≠ (signs txt start : Nat) := by omega
              have ho2 : v.off < v.chunk.length := by omega
              clear hps1 hps2 hc
              (repeat' ((fail_if_success (with_reducible show CutQ _ _ _ _ _ _)); (fail_if_success (with_reducible show WhlRest _ _ _ _ _ _ _ _ _ _ _)); first | (k_unfold; (try dsimp only)) | walk1 | (dsimp only; walk1)))
              (with_reducible rename Fr _ _ _ _ => F9)
              (with_reducible rename News _ _ _ _ => N9)
              rw [hQ4]
              exact CutQ.mk _ _ _ _ ⟨v, t, start, taken, pre, _, _, _, _, _, _, rfl, hS, hD, he, ho2, .cons rfl (.cons rfl (.cons rfl (.cons rfl (.cons rfl (.cons rfl (.cons rfl (.cons rfl (.cons rfl .nil)))))))), .cons rfl (.cons rfl (.cons rfl (.cons rfl .nil))), rfl⟩ F9 N9
          case zf =>
            clear F12 N12 hS hD he hSl hSu hSo hpos
            intro m9 nx9 h9 tk9 hP9 F13 N13
            obtain ⟨v, t, start, taken, pre, q1, q2, q3, q4, qw, qs, rfl, hS, hD, he, ho, hN, hX, hg⟩ := hP9
            obtain ⟨gt, gl, gs, gn, gu, ga, gb, gc, gd⟩ := hN.nine
            obtain ⟨gw, gz, gi, gp⟩ := hX.four
            clear hN hX
            rcases sign_at hc with ⟨hj, hcj⟩ | ⟨rfl, rfl⟩
            · have hc10 : c ≠ 10 := fun e => hgL.nl (e ▸ List.mem_of_getElem? hcj)
              by_cases hw : 2 < W.fmod 5
              · obtain rfl : j = 0 := (hway hw).elim id (fun e => by rw [e] at hj; exact absurd hj (Nat.not_lt_zero _))
                have hn2 : norm txt = (flat (ls.take i) ++ line.take 0) ++ (line ++ 10 :: R) := by rw [hnorm]; simp
                have hX1 : (10 :: R) = [] ∨ ∃ R', (10 :: R) = 10 :: R' := Or.inr ⟨_, rfl⟩
                have hg10 := hgL.nl
                have F14 := fr_over F13 (Has.cons hg (Has.cons gw (Has.cons gs (Has.cons gi (Has.cons gd (Has.cons gc (Has.cons ga (Has.cons gt (Has.cons gb Has.nil)))))))))
                simp only [over] at F14
                clear F13
                (repeat' ((fail_if_success (with_reducible show wpAny _ _ (call (Value.ref 121) _) _ _ _)); first | (k_unfold; (try dsimp only)) | walk1 | (dsimp only; walk1)))
                k_here
                k_dflt (refine' Mine.cu_call ?zb ?zf ?zx ?zt _ _ _ _ _ ?zS ?zD ?zh ?z1 ?zX ?zl ?zK ?ze ?zr ?zn ?zd ?_; (case zb => k_asm); (case zf => k_asm); (case zx => k_asm); (case zt => k_asm); (case zn => first | k_asm | exact Mine.news_drop2 (by k_asm)); (case zS => assumption); (case zD => assumption); (case zh => assumption); (case z1 => assumption); (case zX => assumption); (case zl => assumption); (case zK => assumption); (case ze => assumption); (case zr => assumption); (case zd => k_room))
                intro vE hC tr9 te h12 tk12 F12 N12 he9 ok9
                (try k_sweep)
                (try dsimp only)
                have hwj : WJ txt (flat (ls.take i) ++ line) vE start taken := ⟨_, _, _, line, hS, hC, by rw [hD]; simp, hg10⟩
                have hpl : ((flat (ls.take i) ++ line.take 0).length : Int) + (line.length : Int) = ((flat (ls.take i) ++ line).length : Nat) := by simp
                have hnm : norm txt = (flat (ls.take i) ++ line) ++ 10 :: R := by rw [hnorm]; simp
                clear hS hD ho hway hc hnorm hsz hsz2 hsz5 hil hWd he hn2 hX1 hC hg10 ok9 htxt hnj hlast
                (repeat' ((fail_if_success (with_reducible show wpAny _ _ (exec (Stmt.While _ _ _ _) _) _ _ _)); first | (k_unfold; (try dsimp only)) | (k_end; wrow_close) | walk1 | (dsimp only; walk1) | (leave1; walk_say "STEP leave1"; try dsimp only)))
                (with_reducible rename Fr _ _ _ _ => F13)
                (with_reducible rename News _ _ _ _ => N13)
                refine whl_start 0 (while_inv (fun (c : Nat × Nat) m nx => WJ txt (flat (ls.take i) ++ line) vE c.1 c.2 ∧ nx = sLed wld K vE te ++ rs2 ∧ ∃ q1 q2 q3 q4 qw qs, Has m (nmK K txt last ttx tlast LS D (c.1 : Nat) (c.2 : Nat) (signs txt c.1 : Nat) ((flat (ls.take i) ++ line).length : Nat) q1 q2 q3 q4) ∧ Has m (nmX W sz line i qw qs tg ta)) (fun c => txt.length - c.1) ?hE ?wturn (start, taken) _ _ _ _ ?h0 F13 N13)
                case hE => first | passes_own | with_unfolding_all passes_own
                case h0 => exact ⟨hwj, rfl, _, _, _, _, _, _, .cons rfl (.cons gl (.cons rfl (.cons gn (.cons gu (.cons rfl (.cons rfl (.cons rfl (.cons (congrArg (fun z => some (Value.int z _)) hpl) .nil)))))))), .cons rfl (.cons gz (.cons rfl (.cons gp .nil)))⟩
                case wturn =>
                  clear F13 N13 hwj hpl
                  rintro ⟨st, ta2⟩ m8 nx8 h8 tk8 ⟨hwj1, rfl, q1, q2, q3, q4, qw, qs, hN8, hX8⟩ F14 N14 IH
                  obtain ⟨gt, gl, gs, gn, gu, ga, gb, gc, gd⟩ := hN8.nine
                  obtain ⟨gw, gz, gi, gp⟩ := hX8.four
                  have F15 := fr_over F14 (Has.cons gd (Has.cons gc (Has.cons ga (Has.cons gt (Has.cons gb Has.nil)))))
                  simp only [over] at F15
                  clear F14
                  clear hN8 hX8
                  dsimp only at hwj1 F15
                  by_cases hp : signs txt st ≤ (flat (ls.take i) ++ line).length
                  · obtain ⟨hlt2, hgt2, hwj2⟩ := wj_more hwj1 hnm hp
                    have k1 : ((signs txt st : Nat) : Int) ≤ ((flat (ls.take i) ++ line).length : Nat) := by omega
                    have k2 : ((st : Nat) : Int) < (txt.length : Int) := by omega
                    (repeat' ((fail_if_success (with_reducible show CutQ _ _ _ _ _ _)); (fail_if_success (with_reducible show WhlRest _ _ _ _ _ _ _ _ _ _ _)); first | (k_unfold; (try dsimp only)) | walk1 | (dsimp only; walk1)))
                    (with_reducible rename Fr _ _ _ _ => F16)
                    (with_reducible rename News _ _ _ _ => N16)
                    refine IH (fS txt st ta2 txt.length, fT txt ta2 txt.length) _ _ _ _ ?_ ?_ F16 (news_tail N16)
                    · show txt.length - fS txt st ta2 txt.length < txt.length - st; omega
                    · exact ⟨hwj2, rfl, _, _, _, _, _, _, .cons rfl (.cons gl (.cons gs (.cons gn (.cons gu (.cons rfl (.cons rfl (.cons rfl (.cons rfl .nil)))))))), .cons gw (.cons gz (.cons gi (.cons gp .nil)))⟩
                  · have k1 : ¬ ((signs txt st : Nat) : Int) ≤ ((flat (ls.take i) ++ line).length : Nat) := by omega
                    (repeat' ((fail_if_success (with_reducible show CutQ _ _ _ _ _ _)); (fail_if_success (with_reducible show WhlRest _ _ _ _ _ _ _ _ _ _ _)); first | (k_unfold; (try dsimp only)) | walk1 | (dsimp only; walk1)))
                    (with_reducible rename Fr _ _ _ _ => F16)
                    (with_reducible rename News _ _ _ _ => N16)
                    obtain ⟨pre9, y1, y2, y3⟩ := wj_end hwj1 hnm (by omega)
                    rw [hQ3]
                    rw [hrs2] at N16
                    refine CutQ.mk _ _ _ _ ?_ F16 (news_left N16)
                    exact ⟨vE, te, st, ta2, pre9, _, _, _, _, _, _, rfl, y1, y2, he9, .cons rfl (.cons gl (.cons gs (.cons gn (.cons gu (.cons rfl (.cons rfl (.cons rfl (.cons rfl .nil)))))))), .cons gw (.cons gz (.cons gi (.cons gp .nil))), y3⟩
              · have hn : norm txt = (flat (ls.take i) ++ line.take j) ++ c :: (line.drop (j + 1) ++ 10 :: R) := by
                  rw [hnorm]
                  conv => lhs; rw [(line_split hcj).1]
                  simp
                clear hway hnorm hsz hsz2 hsz5 hWd hl1 hll hil htxt hnj hc hlast
                have F14 := fr_over F13 (Has.cons hg (Has.cons gw (Has.cons gs (Has.cons gd Has.nil))))
                simp only [over] at F14
                clear F13
                repeat' ((fail_if_success (with_reducible show wpAny _ _ (exec (Stmt.AugAssign _ _ _ _) _) _ _ _)); first | (k_unfold; (try dsimp only)) | walk1 | (dsimp only; walk1))
                have hbox : Box (St txt v start taken pre ∧ pre ++ v.chunk.take v.off = flat (ls.take i) ++ line.take j ∧ v.off < v.chunk.length) := ⟨hS, hD, ho⟩
                clear hS hD ho he
                (repeat' ((fail_if_success (with_reducible show InvEndN _ _ _ _ _ _ _)); first | (k_unfold; (try dsimp only)) | walk1 | (dsimp only; walk1)))
                (with_reducible rename Fr _ _ _ _ => F9)
                (with_reducible rename News _ _ _ _ => N9)
                (with_reducible rename List.length (Tk.errs _) = _ => he9)
                rw [hrs2, ← List.append_assoc] at N9
                rw [hQ3]
                obtain ⟨x1, x2, x3⟩ := hbox.out
                have hx := (x1.next x2 hn x3).2
                have hq : ((flat (ls.take i) ++ line.take j).length : Int) + 1 = ((flat (ls.take i) ++ line.take (j + 1)).length : Nat) := by
                  rw [(line_split hcj).2]
                  simp only [List.length_append, List.length_singleton]
                  omega
                refine end_in F9 N9 ⟨_, _, _, _, _, _, _, _, _, _, _, rfl, x1.move x3, ?_, he9, .cons gt (.cons gl (.cons rfl (.cons gn (.cons gu (.cons ga (.cons gb (.cons gc (.cons (congrArg (fun z => some (Value.int z _)) hq) .nil)))))))), .cons rfl (.cons gz (.cons gi (.cons gp .nil))), (fun h => absurd h (by omega)), fun h => absurd h hw⟩ rfl
                rw [(line_split hcj).2, ← List.append_assoc]
                exact hx
            · have hbox : Box ((St txt v start taken pre ∧ pre ++ v.chunk.take v.off = flat (ls.take i) ++ line.take line.length ∧ v.off < v.chunk.length) ∧ (2 < W.fmod 5 → line.length = 0 ∨ line = [])) := ⟨⟨hS, hD, ho⟩, hway⟩
              clear hS hD ho hway hc hnorm hsz hsz2 hsz5 hl1 hll hil htxt hnj hWd hlast
              have F14 := fr_over F13 (Has.cons hg (Has.cons gd Has.nil))
              simp only [over] at F14
              clear F13
              (repeat' ((fail_if_success (with_reducible show InvEndN _ _ _ _ _ _ _)); first | (k_unfold; (try dsimp only)) | walk1 | (dsimp only; walk1)))
              (with_reducible rename Fr _ _ _ _ => F9)
              (with_reducible rename News _ _ _ _ => N9)
              (with_reducible rename List.length (Tk.errs _) = _ => he9)
              rw [hrs2, ← List.append_assoc] at N9
              rw [hQ3]
              obtain ⟨⟨x1, x2, x3⟩, x4⟩ := hbox.out
              have ht : line.take (line.length + 1) = line.take line.length := by rw [List.take_of_length_le (Nat.le_succ _), List.take_length]
              have hq : ((flat (ls.take i) ++ line.take line.length).length : Int) + 0 = ((flat (ls.take i) ++ line.take (line.length + 1)).length : Nat) := by
                rw [ht]; omega
              refine end_in F9 N9 ⟨_, _, _, _, _, _, _, _, _, _, _, rfl, x1, ?_, he9, .cons gt (.cons gl (.cons gs (.cons gn (.cons gu (.cons ga (.cons gb (.cons gc (.cons (congrArg (fun z => some (Value.int z _)) hq) .nil)))))))), .cons gw (.cons gz (.cons gi (.cons gp .nil))), (fun _ => x3), fun h => Or.inr ((x4 h).elim (fun e => List.eq_nil_of_length_eq_zero e) id)⟩ rfl
              rw [ht]
              exact x2
        case ydone =>
          intro m nx hJ
          obtain ⟨v, t, start, taken, pre, q1, q2, q3, q4, qw, qs, rfl, hS, hD, he, hN, hX, hlast, _⟩ := hJ
          have ht : line.take (line ++ [10]).length = line := List.take_of_length_le (by simp)
          rw [ht] at hD hN
          exact ⟨v, t, start, taken, pre, q1, q2, q3, q4, qw, qs, rfl, hS, hD, he, hN, hX, hlast (by simp)⟩
        case yfin =>
          clear F9 N9 hS hD he
          intro m7 nx h7 tk7 hP F10 N10
          dsimp only [envOf] at F10 N10
          obtain ⟨v, t, start, taken, pre, q1, q2, q3, q4, qw, qs, rfl, hS, hD, he, hN, hX, ho⟩ := hP
          obtain ⟨gt, gl, gs, gn, gu, ga, gb, gc, gd⟩ := hN.nine
          obtain ⟨gw, gz, gi, gp⟩ := hX.four
          have F11 := fr_over F10 (Has.cons gs (Has.cons gp (Has.cons gi (Has.cons gw Has.nil))))
          simp only [over] at F11
          clear F10
          clear hN hX
          have hn : norm txt = (flat (ls.take i) ++ line) ++ 10 :: R := by rw [hnorm]; simp
          have hpos := turn_pos hW hil (p := line) hgL.nl
          have hps1 := hpos.1
          have hps2 := hpos.2
          have hnx := hS.next hD hn ho
          have hS' : St txt { v with off := v.off + 1 } start taken pre := hS.move ho
          have hD' : pre ++ v.chunk.take (v.off + 1) = (flat (ls.take i) ++ line) ++ [10] := hnx.2
          have hpos2 := turn_pos (i := i + 1) hW (List.getElem?_eq_some_iff.mp hli).1 (p := []) (by simp)
          rw [flat_take hli, List.append_nil, ← List.append_assoc] at hpos2
          have hps3 : (flat (ls.take i) ++ line ++ [10]).count 10 = i + 1 := hpos2.1
          have hps4 : colFrom 0 (flat (ls.take i) ++ line ++ [10]) = 0 := hpos2.2
          clear hpos hpos2 hnx
          (repeat' ((fail_if_success (with_reducible show wpAny _ _ (exec (Stmt.For _ _ _ _ _) _) _ _ _)); first | (k_unfold; (try dsimp only)) | (k_end; wrow_close) | walk1 | (dsimp only; walk1) | (leave1; walk_say "STEP leave1"; try dsimp only)))
          obtain ⟨rn, hrn, hrn2⟩ : ∃ rn : Nat, W.fmod 3 = (rn : Int) ∧ rn ≤ 50000 := by
            rw [Int.fmod_eq_emod_of_nonneg _ (by decide)]
            exact ⟨(W % 3).toNat, by omega, by omega⟩
          (((with_reducible rename Fr _ _ _ _ => lF'); (with_unfolding_all refine' For_invVF lF' ?k1 ?k2 ?_; (case k1 => exact rfl); (case k2 => exact rfl))))
          repeat' ((fail_if_success (with_reducible show wpAny _ _ (call (Value.type "range") _) _ _ _)); first | (k_unfold; (try dsimp only)) | walk1 | (dsimp only; walk1))
          rw [hrn]
          clear hrn
          (repeat' ((fail_if_success (with_reducible show wpAny _ _ (pyIter _) _ _ _)); first | (k_unfold; (try dsimp only)) | (k_end; wrow_close) | walk1 | (dsimp only; walk1) | (leave1; walk_say "STEP leave1"; try dsimp only)))
          (with_reducible rename News _ _ _ _ => N12)
          (with_reducible rename Fr _ _ _ _ => F12)
          (with_reducible rename IsRange _ _ _ _ _ _ _ _ => R12)
          refine iter_rng rn (fun k m nx => ∃ t q1 q2 q3 q4 qw qs, nx = sLed wld K v t ++ rs ∧ t.errs.length = v.ne ∧ Has m (nmK K txt last ttx tlast LS D (start : Nat) (taken : Nat) (signs txt start : Nat) ((flat (ls.take i) ++ line).length : Nat) q1 q2 q3 q4) ∧ Has m (nmX W sz line i qw qs tg ta)) (by rfl) R12 rfl (by omega) F12 N12 ?rj ?rturn ?rdone
          case rj => exact ⟨_, _, _, _, _, _, _, rfl, he, .cons gt (.cons gl (.cons rfl (.cons gn (.cons gu (.cons ga (.cons gb (.cons gc (.cons gd .nil)))))))), .cons rfl (.cons gz (.cons rfl (.cons rfl .nil)))⟩
          case rturn =>
            clear F12 N12 R12 hrn2 he hnorm hsz hsz2 hsz5 hWd
            intro k tk9 m8 nx8 h8 tk8 own2 hk hadr2 hown2 hJ8 F13 N13
            dsimp only [envOf] at F13 N13
            obtain ⟨t1, q1, q2, q3, q4, qw, qs, rfl, he1, hN1, hX1⟩ := hJ8
            obtain ⟨gt, gl, gs, gn, gu, ga, gb, gc, gd⟩ := (hN1.bindK (x := Str.ofString "_") (v := some (.int (k : Int) tk9)) (by decide)).nine
            obtain ⟨gw, gz, gi, gp⟩ := (hX1.bindX (x := Str.ofString "_") (v := some (.int (k : Int) tk9)) (by decide)).four
            have F14 := fr_over F13 (Has.cons gs (Has.cons gp (Has.cons gi Has.nil)))
            simp only [over] at F14
            have hR2 : Off3 K (rs ++ own2) := hR.app (off3_off hown2)
            rw [List.append_assoc] at N13
            obtain ⟨rs2, hrs2⟩ : ∃ rs2 : Led, rs2 = rs ++ own2 := ⟨_, rfl⟩
            rw [← hrs2] at N13 hR2
            refine abs_QE (by first | passes_own | with_unfolding_all passes_own) (fun Q5 E5 hQ5 hp5 => ?_)
            clear F13 hN1 hX1 hadr2 hown2 hk
            (repeat' ((fail_if_success (with_reducible show InvEndN _ _ _ _ _ _ _)); first | (k_unfold; (try dsimp only)) | walk1 | (dsimp only; walk1)))
            (with_reducible rename Fr _ _ _ _ => F9)
            (with_reducible rename News _ _ _ _ => N9)
            (with_reducible rename List.length (Tk.errs _) = _ => he9)
            rw [hrs2, ← List.append_assoc] at N9
            rw [hQ5]
            exact end_in F9 N9 ⟨_, _, _, _, _, _, _, rfl, he9, .cons gt (.cons gl (.cons rfl (.cons gn (.cons gu (.cons ga (.cons gb (.cons gc (.cons gd .nil)))))))), .cons gw (.cons gz (.cons rfl (.cons rfl .nil)))⟩ rfl
          case rdone =>
            clear F12 N12 R12 hrn2 he hnorm hsz hsz2 hsz5 hWd
            intro m8 nx8 h8 tk8 hJ8 F13 N13
            dsimp only [envOf] at F13 N13
            obtain ⟨t1, q1, q2, q3, q4, qw, qs, rfl, he1, hN1, hX1⟩ := hJ8
            obtain ⟨gt, gl, gs, gn, gu, ga, gb, gc, gd⟩ := hN1.nine
            obtain ⟨gw, gz, gi, gp⟩ := hX1.four
            have F14 := fr_over F13 (Has.cons gs (Has.cons gp (Has.cons gd Has.nil)))
            simp only [over] at F14
            clear F13
            clear hN1 hX1
            (repeat' ((fail_if_success (with_reducible show InvEndN _ _ _ _ _ _ _)); first | (k_unfold; (try dsimp only)) | walk1 | (dsimp only; walk1)))
            (with_reducible rename Fr _ _ _ _ => F9)
            (with_reducible rename News _ _ _ _ => N9)
            (with_reducible rename List.length (Tk.errs _) = _ => he9)
            rw [hrs, ← List.append_assoc] at N9
            rw [hQ2]
            have hq : ((flat (ls.take i) ++ line).length : Int) + 1 = ((flat (ls.take (i + 1))).length : Nat) := by
              rw [flat_take hli, ← List.append_assoc]
              simp only [List.length_append, List.length_singleton]
              omega
            have hD9 : pre ++ v.chunk.take (v.off + 1) = flat (ls.take (i + 1)) := by
              rw [flat_take hli, ← List.append_assoc]
              exact hD'
            exact end_in F9 N9 ⟨_, _, start, taken, pre, _, _, _, _, _, rfl, hS', hD9, he9, .cons gt (.cons gl (.cons rfl (.cons gn (.cons gu (.cons ga (.cons gb (.cons gc (.cons (congrArg (fun z => some (Value.int z _)) hq) .nil))))))))⟩ rfl
      case zdone =>
        clear F6 N6
        intro m6 nx h6 tk6 hJ F7 N7
        dsimp only [envOf] at F7 N7
        obtain ⟨v, t, start, taken, pre, q1, q2, q3, q4, ttx, rfl, hS, hD, he, hN⟩ := hJ
        obtain ⟨gt, gl, gs, gn, gu, ga, gb, gc, gd⟩ := hN.nine
        have F8 := fr_over F7 (Has.cons gs (Has.cons gl (Has.cons gn Has.nil)))
        simp only [over] at F8
        clear F7
        clear hN gt gl gs gn gu ga gb gc gd
        have hlen : (acc.map fun p => Value.str (tx p.1) p.2).length = ls.length := by rw [hls]; simp
        rw [hlen, List.take_length] at hD
        clear hlen
        obtain ⟨txt, htxt⟩ : ∃ txt, txt = text ++ last := ⟨_, rfl⟩
        rw [← htxt] at hW
        simp only [← htxt] at hS F8
        have hn : norm txt = flat ls ++ (last ++ []) := by rw [hW.norm, List.append_nil]
        have hlast10 := hW.gl.nl
        (repeat' ((fail_if_success (with_reducible show wpAny _ _ (call (Value.ref 121) _) _ _ _)); first | (k_unfold; (try dsimp only)) | walk1 | (dsimp only; walk1)))
        k_here
        k_dflt (refine' Mine.cu_call ?zb ?zf ?zx ?zt _ _ _ _ _ ?zS ?zD ?zh ?z1 ?zX ?zl ?zK ?ze ?zr ?zn ?zd ?_; (case zb => k_asm); (case zf => k_asm); (case zx => k_asm); (case zt => k_asm); (case zn => k_asm); (case zS => assumption); (case zD => assumption); (case zh => assumption); (case z1 => assumption); (case zX => exact Or.inl rfl); (case zl => assumption); (case zK => assumption); (case ze => assumption); (case zr => assumption); (case zd => k_room))
        intro vE hC tr9 te h12 tk12 F12 N12 he9 ok9
        (try k_sweep)
        (try dsimp only)
        have hA : AtEnd txt vE := cu_end hC hS (by rw [hD, hW.norm]) hlast10
        clear hC hS hD he ok9
        repeat' ((fail_if_success (with_reducible show wpAny _ _ (call (Value.ref 98) _) _ _ _)); first | (k_unfold; (try dsimp only)) | walk1 | (dsimp only; walk1))
        k_here
        k_dflt (refine' Mine.end_call ?zb ?zf ?zx ?zt _ _ _ ?zK ?ze ?zr ?zA ?zn ?zd ?_; (case zb => k_asm); (case zf => k_asm); (case zx => k_asm); (case zt => k_asm); (case zn => k_asm); (case zA => assumption); (case zK => assumption); (case ze => assumption); (case zr => assumption); (case zd => k_room))
        intro v9 t9 h13 tk13 hA9 F13 N13 he13
        (try k_sweep)
        (try dsimp only)
        repeat' ((fail_if_success (with_reducible show wpAny _ _ (call (Value.ref 128) _) _ _ _)); first | (k_unfold; (try dsimp only)) | walk1 | (dsimp only; walk1))
        k_here
        k_dflt (refine' Mine.unget_none ?zb ?zf ?zx ?zt _ ?zn ?zd ?_; (case zb => k_asm); (case zf => k_asm); (case zx => k_asm); (case zt => k_asm); (case zn => k_asm); (case zd => k_room))
        intro h14 tk14 F14 N14
        (try k_sweep)
        (try dsimp only)
        repeat' ((fail_if_success (with_reducible show wpAny _ _ (call (Value.builtin "str.join") _) _ _ _)); first | (k_unfold; (try dsimp only)) | walk1 | (dsimp only; walk1))
        have hal : (accT acc).length ≤ 1000 := by
          have e : ∀ l : List (List Nat × Tok), (∀ p ∈ l, p.1.length ≤ 5) → (accT l).length ≤ 5 * l.length := by
            intro l
            induction l with
            | nil => intro _; exact Nat.le_refl _
            | cons p r ih =>
              intro h
              have h1 := h p (List.mem_cons_self ..)
              have h2 := ih (fun q hq => h q (List.mem_cons_of_mem _ hq))
              show (p.1 ++ accT r).length ≤ 5 * (r.length + 1)
              rw [List.length_append]
              omega
          have := e acc (fun p hp => (hW.good p.1 (by rw [hls]; exact List.mem_map_of_mem hp)).len)
          omega
        have hjl : (accT acc).length + acc.length ≤ 1000000 := by omega
        (refine' r_join (acc := acc) rfl ?jn ?jm hjl ?_; (case jn => k_asm); (case jm => first | k_mem | simp))
        intro t15 k15
        repeat' ((fail_if_success (with_reducible show wpAny _ _ (pyIter _) _ _ _)); first | (k_unfold; (try dsimp only)) | walk1 | (dsimp only; walk1))
        (with_reducible rename Fr _ _ _ _ => F16)
        (with_reducible rename News _ _ _ _ => N16)
        refine srcC_signsD (pz := fun a => Txt.contains (Str.ofString "\x7f\u0085") a) (d := PyData.str) (by rfl) F16 N16 ?g1 ?g2 ?g3 ?gsz
        case gsz => exact sizeOk _ (by rw [tx_length, List.length_append]; omega)
        case g1 =>
          intro C a v s2 m2 E' ha hns hm2 htk2
          obtain ⟨u, rfl⟩ := ItemKind.str_is ha
          clear F16 N16 hA hA9 hW hn hjl hal htxt hls
          (try (with_reducible refine wpAny_leafK ?_))
          iterate 12 (all_goals first | (k_unfold; (try dsimp only)) | walk1 | (dsimp only; walk1) | skip)
        case g2 =>
          intro C a v s2 m2 E' ha hz hns hm2 htk2
          obtain ⟨u, rfl⟩ := ItemKind.str_is ha
          clear F16 N16 hA hA9 hW hn hjl hal htxt hls
          (try (with_reducible refine wpAny_leafK ?_))
          iterate 12 (all_goals first | (k_unfold; (try dsimp only)) | walk1 | (dsimp only; walk1) | skip)
        case g3 =>
          intro DC ys h17 tk17 F17 N17 hDC hDl hDn hys
          clear F16 N16
          have hyl : ys.toArray.size = (accT acc ++ last).countP isBad := by
            rw [List.size_toArray, CarriedAll.length_eq hys, List.length_map, bad_len]
          have hyb : (accT acc ++ last).countP isBad ≤ 2000 := by
            have := List.countP_le_length (p := isBad) (l := accT acc ++ last)
            rw [List.length_append] at this
            omega
          have hacT : accT acc = ls.flatten := by rw [hls]; rfl
          have hne9 : v9.ne = (accT acc ++ last).countP isBad := by rw [hA9.ne, hW.bad, hacT]
          repeat' ((fail_if_success (with_reducible show wpAny _ _ (call (Value.builtin "len") _) _ _ _)); first | (k_unfold; (try dsimp only)) | walk1 | (dsimp only; walk1))
          refine PyProof.Rows.len_list hDl (by rw [hyl]; omega) ?_
          rw [hyl]
          obtain ⟨fz, hfz⟩ : ∃ fz, fz = (accT acc ++ last).countP isBad := ⟨_, rfl⟩
          rw [← hfz] at hyl hyb hne9 ⊢
          have hcp := flat_pos hW.good hlast10
          rw [← hW.norm] at hcp
          have hcp1 := hcp.1
          have hcp2 := hcp.2
          clear hcp hfz
          repeat' ((fail_if_success (with_reducible show wpAny _ _ (call (Value.ref 91) _) _ _ _)); first | (k_unfold; (try dsimp only)) | walk1 | (dsimp only; walk1))
          (try dsimp only)
          k_here
          k_dflt (refine' Mine.endp_call ?zb ?zf ?zx ?zt _ _ _ ?zA ?zc ?ze ?zn ?zd ?_; (case zb => k_asm); (case zf => k_asm); (case zx => k_asm); (case zt => k_asm); (case zn => k_asm); (case zA => assumption); (case zc => assumption); (case ze => assumption); (case zd => k_room))
          intro T' q1' q2' h18 tk18 F18 N18 lT'
          (try k_sweep)
          (try dsimp only)
          repeat' ((fail_if_success (with_reducible show wpAny _ _ (call (Value.builtin "len") _) _ _ _)); first | (k_unfold; (try dsimp only)) | walk1 | (dsimp only; walk1))
          have hLL : (LS, PySem.W.listOf (accV acc) cc) ∈ (T', tup2 ((ls.length + 1 : Nat) : Int) q1' (last.length : Nat) q2') :: (sLed wld K v9 t9 ++ [(LS, PySem.W.listOf (accV acc) cc), (D, PySem.W.listOf ws.toArray 0)]) := List.mem_cons_of_mem _ (List.mem_append_right _ (List.mem_cons_self ..))
          have hasz : (accV acc).size = ls.length := by rw [hls]; simp
          refine PyProof.Rows.len_list (News.isList N18 hLL) (by rw [hasz, hls, List.length_map]; omega) ?_
          rw [hasz]
          clear hLL hasz
          repeat' ((fail_if_success (with_reducible show wpAny _ _ (compareOp CmpOp.Eq (Value.ref _) (Value.ref _)) _ _ _)); first | (k_unfold; (try dsimp only)) | walk1 | (dsimp only; walk1))
          k_here
          k_dflt (refine' Mine.r_tup_eq ?zn ?zm1 ?zm2 ?ze1 ?ze2 ?zu ?_; (case zn => k_asm); (case zm1 => first | k_mem | simp); (case zm2 => first | k_mem | simp); (case ze1 => first | rfl | omega); (case ze2 => first | rfl | omega); (case zu => ke_room))
          (((with_reducible rename News _ _ _ _ => Np); replace Np := Mine.news_tail (Mine.news_tail Np)))
          repeat' ((fail_if_success (with_reducible show wpAny _ _ (compareOp CmpOp.Eq (Value.ref _) (Value.ref _)) _ _ _)); first | (k_unfold; (try dsimp only)) | walk1 | (dsimp only; walk1))
          (with_reducible rename News _ _ _ _ => N19)
          (with_reducible rename Heap.IsList _ _ _ => L19)
          (with_reducible rename CarriedAll _ _ => C19)
          have hrep : (List.replicate ((fz : Nat) : Int).toNat [PyData.str (Str.ofString "invalid-codepoint")]).flatten = List.replicate fz (PyData.str (Str.ofString "invalid-codepoint")) := by rw [flat_rep, Int.toNat_natCast]
          rw [hrep] at C19
          have hER : (K.ER, PySem.W.listOf (t9.errs.map fun t => Value.str (Str.ofString "invalid-codepoint") t).toArray t9.c) ∈ sLed wld K v9 t9 ++ [(LS, PySem.W.listOf (accV acc) cc), (D, PySem.W.listOf ws.toArray 0)] := List.mem_append_left _ (List.mem_cons_self ..)
          k_dflt (refine' Mine.r_errs_eq (N19 : News _ _ _ _) (List.mem_cons_of_mem _ hER) L19 C19 (he13.trans hne9) ?zx ?zu ?_; (case zx => decide +kernel); (case zu => ke_room))
          k_steps
          rw [hQ0]
          (try dsimp only)
          k_steps
      )

end
end Mine
theorem PySem.Challenge.cw_te0075_01_holds : PySem.Challenge.rw_te0075_01.Holds := by
  exact Mine.law_all
