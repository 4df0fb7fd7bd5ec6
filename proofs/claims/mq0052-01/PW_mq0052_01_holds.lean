import PyProof.Rows.All
import Wide.All
import OpenK.AllK
import Wide.FinOn
import PySem.Challenge.RW_mq0052_01
set_option Elab.async false
set_option maxRecDepth 100000
set_option maxHeartbeats 8000000
namespace Mine
open PySem PySem.W PyProof.Rows
open_top hd for PySem.Challenge.rw_mq0052_01
end Mine
namespace Mine
open PySem PySem.W PyProof.Rows PySem.Calls PySem.Spec
theorem fill0 : PySem.Challenge.rw_mq0052_01 = PySem.Challenge.rw_mq0052_01 ∧ hd.heap_39 = hd.heap_39 := by k_fill; exact ⟨rfl, rfl⟩

/-- every object that stands in h stands in h' as it was -/
def Keeps (h h' : Heap) : Prop := ∀ b o, h.get? b = some o → h'.get? b = some o
theorem Keeps.rfl {h : Heap} : Keeps h h := fun _ _ e => e
theorem Keeps.trans {h h' h'' : Heap} (a : Keeps h h') (b : Keeps h' h'') : Keeps h h'' := fun x o e => b x o (a x o e)

/-- what a call has made: objects of h' that did not stand in h -/
def Made (h h' : Heap) (tl : List (Addr × Obj)) : Prop := ∀ p ∈ tl, h'.get? p.1 = some p.2 ∧ h.get? p.1 = none
theorem Made.nil {h h' : Heap} : Made h h' [] := fun _ hp => nomatch hp
theorem Made.news {h₀ h h' : Heap} {L : Addr} {m : Str → Option Value} {tl : List (Addr × Obj)} (F : Fr h₀ L h m) (_k : Keeps h h') (M : Made h h' tl) : News h₀ L h' tl := by
  intro p hp
  refine ⟨(M p hp).1, fun e => ?_, ?_⟩
  · obtain ⟨o, _, _, hL, _⟩ := F.ns
    have := (M p hp).2
    rw [e, hL] at this; cases this
  · cases q : h₀.get? p.1 with
    | none => exact Eq.refl none
    | some o => have := F.keep _ _ q; rw [(M p hp).2] at this; cases this
theorem Made.of_news {h₀ h : Heap} {L : Addr} {news : List (Addr × Obj)} (N : News h₀ L h news) : Made h₀ h news := fun p hp => ⟨(N p hp).1, (N p hp).2.2⟩
theorem newsKeeps {h₀ h h' : Heap} {L : Addr} {news : List (Addr × Obj)} (k : Keeps h h') (N : News h₀ L h news) : News h₀ L h' news := fun p hp => ⟨k _ _ (N p hp).1, (N p hp).2⟩
theorem frKeeps {h₀ h h' : Heap} {L : Addr} {m : Str → Option Value} (k : Keeps h h') (F : Fr h₀ L h m) : Fr h₀ L h' m := by
  obtain ⟨o, es, ep, hL, r⟩ := F.ns
  exact ⟨⟨o, es, ep, k _ _ hL, r⟩, fun b o e => k _ _ (F.keep b o e), F.above⟩

/-- some places of a frame's map written out -/
def pinned (l : List (Str × Value)) (m : Str → Option Value) : Str → Option Value := fun y => match l.lookup y with | some v => some v | none => m y
theorem pinned_eq {m : Str → Option Value} : ∀ {l : List (Str × Value)}, (∀ p ∈ l, m p.1 = some p.2) → pinned l m = m
  | [], _ => by funext y; simp [pinned]
  | p :: l, h => by
    have ih := pinned_eq (m := m) (l := l) fun q hq => h q (List.mem_cons_of_mem _ hq)
    funext y
    have ihy := congrFun ih y
    unfold pinned at ihy ⊢
    rw [List.lookup_cons]
    by_cases e : y = p.1
    · subst e; simp [h p List.mem_cons_self]
    · have : (y == p.1) = false := by simpa using e
      rw [this]; exact ihy
theorem frPins {h₀ h : Heap} {L : Addr} {m : Str → Option Value} (l : List (Str × Value)) (F : Fr h₀ L h m) (e : ∀ p ∈ l, m p.1 = some p.2) : Fr h₀ L h (pinned l m) := by
  rw [pinned_eq e]; exact F
abbrev TopF (mean : ExcName → Option Value) (mg mb : Str → Option Value) (h : Heap) : Prop := Top hd.view_39 (looseW hd.view_39 []) mean mg mb h
end Mine
namespace Mine
open PySem PySem.Builtin PySem.Builtin.Str PySem.StrLaws

/-- the places of the two signs p, q, one behind the other, from the left, none over another -/
def occ2 (p q : Nat) : List Nat → Nat → List Nat
  | a :: b :: r, i => if a = p ∧ b = q then i :: occ2 p q r (i + 2) else occ2 p q (b :: r) (i + 1)
  | _, _ => []
/-- the two exchanged, wherever they stand so -/
def swp (p q : Nat) : List Nat → List Nat
  | a :: b :: r => if a = p ∧ b = q then q :: p :: swp p q r else a :: swp p q (b :: r)
  | [a] => [a]
  | [] => []
/-- how often they stand so -/
def cnt (p q : Nat) : List Nat → Nat
  | a :: b :: r => if a = p ∧ b = q then cnt p q r + 1 else cnt p q (b :: r)
  | _ => 0
def occ1 (c : Nat) : List Nat → Nat → List Nat
  | a :: r, i => if a = c then i :: occ1 c r (i + 1) else occ1 c r (i + 1)
  | [], _ => []
/-- the stretches between the signs c -/
def cutAt (c : Nat) : List Nat → List (List Nat)
  | [] => [[]]
  | a :: r => if a = c then [] :: cutAt c r else match cutAt c r with
    | [] => [[a]]
    | y :: ys => (a :: y) :: ys

theorem range'_succ (i k : Nat) : List.range' i (k + 1) = i :: List.range' (i + 1) k := by simp [List.range'_succ]

/-- the look for y from the place i on -/
def lp (x y : Str) (i k : Nat) (st : Array Nat × Nat) : Array Nat × Nat := Id.run (forIn (List.range' i k) st (occBody x y x.length (x.length + 1)))
theorem lp_hit {x y : Str} {i k : Nat} {st : Array Nat × Nat} (h : ((st.fst.size < x.length + 1 ∧ st.snd ≤ i) ∧ i + y.length ≤ x.length) ∧ subAt x y i = true) :
    lp x y i (k + 1) st = lp x y (i + 1) k (st.1.push i, i + y.length) := by
  unfold lp
  rw [range'_succ, List.forIn_cons]
  unfold occBody
  rw [if_pos h]; rfl
theorem lp_miss {x y : Str} {i k : Nat} {st : Array Nat × Nat} (h : ¬ (((st.fst.size < x.length + 1 ∧ st.snd ≤ i) ∧ i + y.length ≤ x.length) ∧ subAt x y i = true)) :
    lp x y i (k + 1) st = lp x y (i + 1) k st := by
  unfold lp
  rw [range'_succ, List.forIn_cons]
  unfold occBody
  rw [if_neg h]; rfl
theorem occ_lp (x y : Str) : occurrences x y 0 x.length (x.length + 1) = (lp x y 0 (x.length + 1) (#[], 0)).1.toList := by
  rw [occ_eq]; rfl

theorem occ2_loop (x : Str) (p q : Nat) : ∀ (k i : Nat) (st : Array Nat × Nat), i + k = x.length + 1 → st.2 ≤ i → st.1.size ≤ i →
    (lp x ⟨#[p, q]⟩ i k st).1.toList = st.1.toList ++ occ2 p q (x.cps.toList.drop i) i := by
  intro k
  induction k using Nat.strongRecOn with
  | ind k ih =>
    intro i st hk hf hsz
    have hn : x.cps.toList.length = x.length := by simp [Str.length]
    have h2 : (⟨#[p, q]⟩ : Str).length = 2 := rfl
    match k with
    | 0 =>
      have : x.cps.toList.drop i = [] := List.drop_eq_nil_of_le (by omega)
      rw [this]; simp [occ2, lp]
    | k + 1 =>
      match hd : x.cps.toList.drop i with
      | [] =>
        have hl := congrArg List.length hd
        rw [List.length_drop, hn] at hl
        simp only [List.length_nil] at hl
        rw [lp_miss (by rintro ⟨⟨_, hc⟩, _⟩; rw [h2] at hc; omega), ih k (by omega) (i + 1) st (by omega) (by omega) (by omega)]
        have hd' : x.cps.toList.drop (i + 1) = [] := List.drop_eq_nil_of_le (by omega)
        rw [hd']; rfl
      | [a] =>
        have hl := congrArg List.length hd
        rw [List.length_drop, hn] at hl
        simp only [List.length_cons, List.length_nil] at hl
        rw [lp_miss (by rintro ⟨⟨_, hc⟩, _⟩; rw [h2] at hc; omega), ih k (by omega) (i + 1) st (by omega) (by omega) (by omega)]
        have hd' : x.cps.toList.drop (i + 1) = [] := List.drop_eq_nil_of_le (by omega)
        rw [hd']; rfl
      | a :: b :: r =>
        have hl := congrArg List.length hd
        rw [List.length_drop, hn] at hl
        simp only [List.length_cons] at hl
        have hd1 : x.cps.toList.drop (i + 1) = b :: r := by rw [← List.drop_drop, hd]; rfl
        have hd2 : x.cps.toList.drop (i + 2) = r := by rw [← List.drop_drop, hd]; rfl
        have hs : subAt x ⟨#[p, q]⟩ i = ([a, b] == [p, q]) := by rw [subAt_eq, hd]; rfl
        by_cases hc : a = p ∧ b = q
        · rw [lp_hit ⟨⟨⟨by omega, hf⟩, by rw [h2]; omega⟩, by rw [hs, hc.1, hc.2]; simp⟩]
          match k, hk with
          | 0, hk => omega
          | k + 1, hk =>
            rw [lp_miss (by rintro ⟨⟨⟨_, hc⟩, _⟩, _⟩; rw [h2] at hc; simp at hc)]
            rw [ih k (by omega) (i + 1 + 1) _ (by omega) (by simp [h2]) (by simp; omega), show i + 1 + 1 = i + 2 from rfl, hd2]
            simp [occ2, hc]
        · rw [lp_miss (by rintro ⟨_, hq⟩; rw [hs] at hq; simp at hq; exact hc hq), ih k (by omega) (i + 1) st (by omega) (by omega) (by omega), hd1]
          simp [occ2, hc]

theorem occ2_eq (x : Str) (p q : Nat) : occurrences x ⟨#[p, q]⟩ 0 x.length (x.length + 1) = occ2 p q x.cps.toList 0 := by
  rw [occ_lp, occ2_loop x p q (x.length + 1) 0 (#[], 0) (by omega) (Nat.le_refl _) (Nat.le_refl _)]; simp

theorem occ1_loop (x : Str) (c : Nat) : ∀ (k i : Nat) (st : Array Nat × Nat), i + k = x.length + 1 → st.2 ≤ i → st.1.size ≤ i →
    (lp x ⟨#[c]⟩ i k st).1.toList = st.1.toList ++ occ1 c (x.cps.toList.drop i) i := by
  intro k
  induction k with
  | zero =>
    intro i st hk hf hsz
    have hn : x.cps.toList.length = x.length := by simp [Str.length]
    have : x.cps.toList.drop i = [] := List.drop_eq_nil_of_le (by omega)
    rw [this]; simp [occ1, lp]
  | succ k ih =>
    intro i st hk hf hsz
    have hn : x.cps.toList.length = x.length := by simp [Str.length]
    have h2 : (⟨#[c]⟩ : Str).length = 1 := rfl
    match hd : x.cps.toList.drop i with
    | [] =>
      have hl := congrArg List.length hd
      rw [List.length_drop, hn] at hl
      simp only [List.length_nil] at hl
      rw [lp_miss (by rintro ⟨⟨_, hc⟩, _⟩; rw [h2] at hc; omega), ih (i + 1) st (by omega) (by omega) (by omega)]
      have hd' : x.cps.toList.drop (i + 1) = [] := List.drop_eq_nil_of_le (by omega)
      rw [hd']; rfl
    | a :: r =>
      have hl := congrArg List.length hd
      rw [List.length_drop, hn] at hl
      simp only [List.length_cons] at hl
      have hd1 : x.cps.toList.drop (i + 1) = r := by rw [← List.drop_drop, hd]; rfl
      have hs : subAt x ⟨#[c]⟩ i = ([a] == [c]) := by rw [subAt_eq, hd]; rfl
      by_cases hc : a = c
      · rw [lp_hit ⟨⟨⟨by omega, hf⟩, by rw [h2]; omega⟩, by rw [hs, hc]; simp⟩, ih (i + 1) _ (by omega) (by simp [h2]) (by simp; omega), hd1]
        simp [occ1, hc]
      · rw [lp_miss (by rintro ⟨_, hq⟩; rw [hs] at hq; simp at hq; exact hc hq), ih (i + 1) st (by omega) (by omega) (by omega), hd1]
        simp [occ1, hc]
theorem occ1_eq (x : Str) (c : Nat) : occurrences x ⟨#[c]⟩ 0 x.length (x.length + 1) = occ1 c x.cps.toList 0 := by
  rw [occ_lp, occ1_loop x c (x.length + 1) 0 (#[], 0) (by omega) (Nat.le_refl _) (Nat.le_refl _)]; simp

theorem occ2_count (p q : Nat) : ∀ (n : Nat) (l : List Nat) (i : Nat), l.length ≤ n → (occ2 p q l i).length = cnt p q l
  | _, [], _, _ => rfl
  | _, [_], _, _ => rfl
  | 0, _ :: _ :: _, _, h => by simp at h
  | n + 1, a :: b :: r, i, h => by
    simp only [List.length_cons] at h
    unfold occ2 cnt
    split
    · rw [List.length_cons, occ2_count p q n r (i + 2) (by omega)]
    · exact occ2_count p q n (b :: r) (i + 1) (by simp; omega)
theorem count_eq (x : Str) (p q : Nat) : Txt.count x ⟨#[p, q]⟩ = (cnt p q x.cps.toList : Nat) := by
  unfold Txt.count
  rw [occ2_eq, occ2_count p q _ _ 0 (Nat.le_refl _)]

theorem swp_length (p q : Nat) : ∀ (n : Nat) (l : List Nat), l.length ≤ n → (swp p q l).length = l.length
  | _, [], _ => rfl
  | _, [_], _ => rfl
  | 0, _ :: _ :: _, h => by simp at h
  | n + 1, a :: b :: r, h => by
    simp only [List.length_cons] at h
    unfold swp
    split
    · simp only [List.length_cons, swp_length p q n r (by omega)]
    · simp only [List.length_cons, swp_length p q n (b :: r) (by simp; omega)]

theorem strSub_list (x : Str) (i j : Nat) : (strSub x i j).cps.toList = (x.cps.toList.drop i).take (j - i) := strSub_toList x i j
theorem join_list1 (g a : Str) (b : Str) (r : List Str) : (Str.join g (a :: b :: r)).cps.toList = a.cps.toList ++ g.cps.toList ++ (Str.join g (b :: r)).cps.toList := by
  show (a ++ g ++ Str.join g (b :: r)).cps.toList = _
  simp [Str.cps_append]

theorem join_occ2 (x : Str) (p q : Nat) : ∀ (n : Nat) (a i : Nat) (r : List Nat), r.length ≤ n → a ≤ i → x.cps.toList.drop i = r → i ≤ x.length →
    (Str.join ⟨#[q, p]⟩ (partsFrom x 2 a (occ2 p q r i))).cps.toList = (x.cps.toList.drop a).take (i - a) ++ swp p q r := by
  have hn : x.cps.toList.length = x.length := by simp [Str.length]
  have base : ∀ (a i : Nat), a ≤ i → i ≤ x.length → (Str.join ⟨#[q, p]⟩ (partsFrom x 2 a [])).cps.toList = (x.cps.toList.drop a).take (i - a) ++ x.cps.toList.drop i := by
    intro a i ha hi
    show (strSub x a x.length).cps.toList = _
    rw [strSub_toList]
    have e : x.cps.toList.drop i = (x.cps.toList.drop a).drop (i - a) := by rw [List.drop_drop]; congr 1; omega
    rw [e, List.take_append_drop, List.take_of_length_le (by rw [List.length_drop, hn]; exact Nat.le_refl _)]
  intro n
  induction n with
  | zero =>
    intro a i r hr ha hd hi
    have : r = [] := List.length_eq_zero_iff.mp (by omega)
    subst this
    simpa [occ2, swp, hd] using base a i ha hi
  | succ n ih =>
    intro a i r hr ha hd hi
    match r with
    | [] => simpa [occ2, swp, hd] using base a i ha hi
    | [c] => simpa [occ2, swp, hd] using base a i ha hi
    | c :: d :: r =>
      simp only [List.length_cons] at hr
      have hl := congrArg List.length hd
      rw [List.length_drop, hn] at hl
      simp only [List.length_cons] at hl
      have hd1 : x.cps.toList.drop (i + 1) = d :: r := by rw [← List.drop_drop, hd]; rfl
      have hd2 : x.cps.toList.drop (i + 2) = r := by rw [← List.drop_drop, hd]; rfl
      unfold occ2 swp
      split
      · have := ih (i + 2) (i + 2) r (by omega) (Nat.le_refl _) hd2 (by omega)
        obtain ⟨y, ys, e⟩ := partsFrom_ne x 2 (i + 2) (occ2 p q r (i + 2))
        show (Str.join _ (strSub x a i :: partsFrom x 2 (i + 2) (occ2 p q r (i + 2)))).cps.toList = _
        rw [e] at this ⊢
        rw [join_list1, this, strSub_toList]
        simp
      · have := ih a (i + 1) (d :: r) (by simp; omega) (by omega) hd1 (by omega)
        rw [this]
        have e2 : (x.cps.toList.drop a).take (i + 1 - a) = (x.cps.toList.drop a).take (i - a) ++ [c] := by
          have h3 : (x.cps.toList.drop a)[i - a]? = some c := by
            rw [List.getElem?_drop, show a + (i - a) = i by omega]
            have := congrArg (fun z => z[0]?) hd
            simp only [List.getElem?_drop, Nat.add_zero, List.getElem?_cons_zero] at this
            exact this
          rw [show i + 1 - a = (i - a) + 1 by omega, List.take_add_one, h3]; rfl
        rw [e2]; simp

theorem kind_le (x : Str) : 1 ≤ Builtin.Str.strKind x := by unfold Builtin.Str.strKind; (repeat' split) <;> omega
/-- one pair of replace -/
theorem replace_eq (x : Str) (p q : Nat) (hp : p < 256) (hq : q < 256) : (Txt.join ⟨#[q, p]⟩ (Txt.split x ⟨#[p, q]⟩)).cps.toList = swp p q x.cps.toList := by
  have hk : Builtin.Str.strKind ⟨#[p, q]⟩ = 1 := by unfold Builtin.Str.strKind; rw [if_pos]; simp [hp, hq]
  have hn : x.cps.toList.length = x.length := by simp [Str.length]
  show (glued _ _).cps.toList = _
  rw [glued_eq_join]
  unfold Txt.split
  split
  · rename_i hc
    rw [hk] at hc
    have h1 := kind_le x
    have h2 : (⟨#[p, q]⟩ : Str).length = 2 := rfl
    rw [h2] at hc
    simp only [Bool.or_eq_true, decide_eq_true_eq] at hc
    have : x.cps.toList.length ≤ 1 := by omega
    show x.cps.toList = _
    match x.cps.toList, this with
    | [], _ => rfl
    | [_], _ => rfl
  · have key := join_occ2 x p q _ 0 0 x.cps.toList (Nat.le_refl _) (Nat.le_refl _) rfl (Nat.zero_le _)
    split
    · rename_i hc
      rw [occ2_eq] at hc
      have hc : occ2 p q x.cps.toList 0 = [] := by simpa using hc
      rw [hc] at key
      show x.cps.toList = _
      simp only [Nat.sub_self, List.take_zero, List.nil_append] at key
      rw [← key]
      show _ = (strSub x 0 x.length).cps.toList
      rw [sub_whole]
    · rw [partsBetween_eq, occ2_eq]
      simp only [Nat.sub_self, List.take_zero, List.nil_append] at key
      exact key

/-- a text cut at the signs c -/
theorem parts_occ1 (x : Str) (c : Nat) : ∀ (r : List Nat) (a i : Nat), a ≤ i → x.cps.toList.drop i = r → i ≤ x.length →
    (partsFrom x 1 a (occ1 c r i)).map (·.cps.toList) = match cutAt c r with | [] => [] | y :: ys => ((x.cps.toList.drop a).take (i - a) ++ y) :: ys := by
  have hn : x.cps.toList.length = x.length := by simp [Str.length]
  intro r
  induction r with
  | nil =>
    intro a i ha hd hi
    show [(strSub x a x.length).cps.toList] = _
    rw [strSub_toList]
    have hl := congrArg List.length hd
    rw [List.length_drop, hn] at hl
    simp only [List.length_nil] at hl
    have : i = x.length := by omega
    simp [cutAt, this]
  | cons d r ih =>
    intro a i ha hd hi
    have hl := congrArg List.length hd
    rw [List.length_drop, hn] at hl
    simp only [List.length_cons] at hl
    have hd1 : x.cps.toList.drop (i + 1) = r := by rw [← List.drop_drop, hd]; rfl
    unfold occ1 cutAt
    by_cases hc : d = c
    · simp only [hc, if_true]
      have := ih (i + 1) (i + 1) (Nat.le_refl _) hd1 (by omega)
      show (strSub x a i).cps.toList :: (partsFrom x 1 (i + 1) (occ1 c r (i + 1))).map (·.cps.toList) = _
      rw [this, strSub_toList]
      simp only [Nat.sub_self, List.take_zero, List.nil_append, List.append_nil]
      cases h : cutAt c r with
      | nil => exfalso; cases r <;> simp [cutAt] at h; (repeat' split at h) <;> simp at h
      | cons y ys => simp
    · simp only [hc, if_false]
      have := ih a (i + 1) (by omega) hd1 (by omega)
      rw [this]
      have e2 : (x.cps.toList.drop a).take (i + 1 - a) = (x.cps.toList.drop a).take (i - a) ++ [d] := by
        have h3 : (x.cps.toList.drop a)[i - a]? = some d := by
          rw [List.getElem?_drop, show a + (i - a) = i by omega]
          have := congrArg (fun z => z[0]?) hd
          simp only [List.getElem?_drop, Nat.add_zero, List.getElem?_cons_zero] at this
          exact this
        rw [show i + 1 - a = (i - a) + 1 by omega, List.take_add_one, h3]; rfl
      rw [e2]
      cases h : cutAt c r with
      | nil => exfalso; cases r <;> simp [cutAt] at h; (repeat' split at h) <;> simp at h
      | cons y ys => simp
theorem cutAt_ne (c : Nat) (r : List Nat) : cutAt c r ≠ [] := by
  intro h; cases r <;> simp [cutAt] at h; (repeat' split at h) <;> simp at h
theorem split_dot (x : Str) (c : Nat) (hc : c < 256) : (Txt.split x ⟨#[c]⟩).map (·.cps.toList) = cutAt c x.cps.toList := by
  have hk : Builtin.Str.strKind ⟨#[c]⟩ = 1 := by unfold Builtin.Str.strKind; rw [if_pos]; simp [hc]
  have hn : x.cps.toList.length = x.length := by simp [Str.length]
  have key := parts_occ1 x c x.cps.toList 0 0 (Nat.le_refl _) rfl (Nat.zero_le _)
  have key : (partsFrom x 1 0 (occ1 c x.cps.toList 0)).map (·.cps.toList) = cutAt c x.cps.toList := by
    rw [key]
    cases h : cutAt c x.cps.toList with
    | nil => exact absurd h (cutAt_ne _ _)
    | cons y ys => simp
  unfold Txt.split
  split
  · rename_i hc
    rw [hk] at hc
    have h1 := kind_le x
    have h2 : (⟨#[c]⟩ : Str).length = 1 := rfl
    rw [h2] at hc
    simp only [Bool.or_eq_true, decide_eq_true_eq] at hc
    have h0 : x.cps.toList.length ≤ 0 := by omega
    have h0 : x.cps.toList = [] := List.length_eq_zero_iff.mp (by omega)
    show [x.cps.toList] = _
    rw [h0]; rfl
  · split
    · rename_i hc
      rw [occ1_eq] at hc
      have hc : occ1 c x.cps.toList 0 = [] := by simpa using hc
      rw [hc] at key
      rw [← key]
      show [x.cps.toList] = [(strSub x 0 x.length).cps.toList]
      rw [sub_whole]
    · rw [partsBetween_eq, occ1_eq]
      exact key
theorem joinOk_of {sep : Str} {texts : List Str} (B : Nat) (hB : ∀ y ∈ texts, y.length ≤ B) (h : texts.length * B + texts.length * sep.length ≤ 16777216) : JoinOk sep texts = true := by
  unfold JoinOk; rw [joinFits hB h]; rfl
theorem partsFrom_length (x : Str) (w : Nat) : ∀ (cuts : List Nat) (a : Nat), (partsFrom x w a cuts).length = cuts.length + 1
  | [], _ => rfl
  | _ :: r, _ => by show (_ :: _).length = _; rw [List.length_cons, partsFrom_length x w r]; rfl
theorem cnt_le (p q : Nat) : ∀ (n : Nat) (l : List Nat), l.length ≤ n → cnt p q l ≤ l.length
  | _, [], _ => Nat.le_refl _
  | _, [_], _ => Nat.zero_le _
  | 0, _ :: _ :: _, h => by simp at h
  | n + 1, a :: b :: r, h => by
    simp only [List.length_cons] at h ⊢
    unfold cnt
    split
    · have := cnt_le p q n r (by omega); omega
    · have := cnt_le p q n (b :: r) (by simp; omega); simp only [List.length_cons] at this; omega
theorem split2_length (x : Str) (p q : Nat) : (Txt.split x ⟨#[p, q]⟩).length ≤ x.length + 1 := by
  unfold Txt.split
  split
  · simp
  · split
    · simp
    · rw [partsBetween_eq, occ2_eq, partsFrom_length, occ2_count p q _ _ 0 (Nat.le_refl _)]
      have := cnt_le p q _ x.cps.toList (Nat.le_refl _)
      have hn : x.cps.toList.length = x.length := by simp [Str.length]
      omega
theorem replace_length (x : Str) (p q : Nat) (hp : p < 256) (hq : q < 256) : (Txt.join ⟨#[q, p]⟩ (Txt.split x ⟨#[p, q]⟩)).length = x.length := by
  have h := congrArg List.length (replace_eq x p q hp hq)
  rw [swp_length p q _ _ (Nat.le_refl _)] at h
  simpa [Str.length] using h
end Mine
namespace Mine
open PySem PySem.W PyProof.Rows PySem.Calls PySem.Spec

/-- the end of a turn of a for -/
def LEnd (h₀ : Heap) (L : Addr) (s : Shared) (I : Addr) (oI : Obj) (J : (Str → Option Value) → List (Addr × Obj) → Prop) (Q : Flow → Shared → Prop) (f : Flow) (s₃ : Shared) : Prop :=
  match f with
  | .ret v => Q (.ret v) s₃
  | .brk => Q .next s₃
  | _ => ∃ h' tk' m₂ nx, s₃ = { s with heap := h', toks := tk' } ∧ Fr h₀ L h' m₂ ∧ News h₀ L h' ((I, oI) :: nx) ∧ (∀ p ∈ nx, p.1 ≠ I) ∧ J m₂ nx

section
variable {prog : Program} {w : World} {A : Around} {s : Shared} {env : Env} {h₀ : Heap}

theorem for_walks {R : Result → Shared → Prop} {target : Expr} {body : List Stmt} {I : Addr} {fp : List Addr} {n : Nat} {P : Nat → Value → Prop} {St : Nat → Heap → Prop} {m : Str → Option Value} {news : List (Addr × Obj)}
    (W : Walks prog w A I fp [I] n P St) (hst : St 0 s.heap) (hIo : ∀ i h, St i h → ∃ o, h.get? I = some o) (hI₀ : h₀.get? I = none) (hIL : I ≠ env.locals)
    (F : Fr h₀ env.locals s.heap m) (N : News h₀ env.locals s.heap news) (hnI : ∀ p ∈ news, p.1 ≠ I)
    (J : Nat → (Str → Option Value) → List (Addr × Obj) → Prop) (hJ : J 0 m news)
    (hfp : ∀ b ∈ fp, b = I ∨ (∃ o, h₀.get? b = some o) ∨ ∃ o, ∀ i m nx, J i m nx → (b, o) ∈ nx)
    (turn : ∀ i v m₁ nx h tk oI, i < n → P i v → J i m₁ nx → Fr h₀ env.locals h m₁ → News h₀ env.locals h ((I, oI) :: nx) → (∀ p ∈ nx, p.1 ≠ I) → St (i + 1) h →
      wpAny (model prog w) A (letOwnedTupleGo target (.ref I) v) (fun _ s₁ => wpAny (model prog w) A (assign target env v) (fun _ s₂ =>
        wpAny (model prog w) A (execs body env) (LEnd h₀ env.locals s I oI (J (i + 1)) (fun f s' => R (.ok f) s')) (fun _ _ => False) s₂) (fun _ _ => False) s₁) (fun _ _ => False) { s with heap := h, toks := tk })
    (done : ∀ m₁ nx h tk, J n m₁ nx → Fr h₀ env.locals h m₁ → News h₀ env.locals h nx → R (.ok .next) { s with heap := h, toks := tk }) :
    codeAny (model prog w) A (.forLoop target (.ref I) body [] env) R s := by
  have old : ∀ b o, h₀.get? b = some o → b ∉ [I] := fun b o e hb => by rw [List.mem_singleton.mp hb, hI₀] at e; cases e
  have hLI : env.locals ∉ [I] := fun hb => hIL (List.mem_singleton.mp hb).symm
  refine codeAny_forLoop_any
    (fun k s' => ∃ h' tk m' nx i, s' = { s with heap := h', toks := tk } ∧ St i h' ∧ Fr h₀ env.locals h' m' ∧ News h₀ env.locals h' nx ∧ (∀ p ∈ nx, p.1 ≠ I) ∧ J i m' nx ∧ i ≤ n ∧ k = n + 1 - i) ?_ (n + 1)
    ⟨s.heap, s.toks, m, news, 0, rfl, hst, F, N, hnI, hJ, Nat.zero_le _, rfl⟩
  rintro k s' ⟨h', tk, m', nx, i, rfl, hst', F', N', hnx, hJ', hi, rfl⟩
  have next : ∀ h₁ : Heap, (∀ b o, b ∉ [I] → h'.get? b = some o → h₁.get? b = some o) → Fr h₀ env.locals h₁ m' ∧ News h₀ env.locals h₁ nx := fun h₁ hk₁ =>
    ⟨⟨F'.ns.at' fun o e => hk₁ _ o hLI e, fun b o e => hk₁ b o (old b o e) (F'.keep b o e), F'.above⟩, fun p hp => ⟨hk₁ _ _ (fun hb => hnx p hp (List.mem_singleton.mp hb)) (N' p hp).1, (N' p hp).2⟩⟩
  by_cases hlt : i < n
  · refine W.item i _ _ _ hlt hst' fun v h₁ tk₁ hP hst₁ hk₁ => ?_
    obtain ⟨F₁, N₁⟩ := next h₁ hk₁
    obtain ⟨oI, hoI⟩ := hIo _ _ hst₁
    have N₁' : News h₀ env.locals h₁ ((I, oI) :: nx) := fun p hp => by
      rcases List.mem_cons.mp hp with rfl | hp
      · exact ⟨hoI, hIL, hI₀⟩
      · exact N₁ p hp
    refine wpAny_mono (turn i v m' nx h₁ tk₁ oI hlt hP hJ' F₁ N₁' hnx hst₁) (fun _ s₁ h₁' => ?_) fun _ _ e => e.elim
    refine wpAny_mono h₁' (fun _ s₂ h₂ => ?_) fun _ _ e => e.elim
    refine wpAny_mono h₂ (fun f s₃ h₃ => ?_) fun _ _ e => e.elim
    have fin : (∃ h' tk' m₂ nx, s₃ = { s with heap := h', toks := tk' } ∧ Fr h₀ env.locals h' m₂ ∧ News h₀ env.locals h' ((I, oI) :: nx) ∧ (∀ p ∈ nx, p.1 ≠ I) ∧ J (i + 1) m₂ nx) →
        ∃ k', k' < n + 1 - i ∧ ∃ h' tk m' nx i, s₃ = { s with heap := h', toks := tk } ∧ St i h' ∧ Fr h₀ env.locals h' m' ∧ News h₀ env.locals h' nx ∧ (∀ p ∈ nx, p.1 ≠ I) ∧ J i m' nx ∧ i ≤ n ∧ k' = n + 1 - i := by
      rintro ⟨g₃, tk₃, m₃, nx₃, rfl, F₃, N₃, hn₃, J₃⟩
      refine ⟨n + 1 - (i + 1), by omega, g₃, tk₃, m₃, nx₃, i + 1, rfl, ?_, F₃, fun p hp => N₃ p (List.mem_cons_of_mem _ hp), hn₃, J₃, hlt, rfl⟩
      refine W.frame _ _ _ hst₁ fun b hb o e => ?_
      rcases hfp b hb with rfl | ⟨o', ho'⟩ | ⟨o', ho'⟩
      · rw [hoI] at e; cases e; exact (N₃ _ List.mem_cons_self).1
      · have := F₁.keep _ _ ho'; rw [e] at this; cases this; exact F₃.keep _ _ ho'
      · have := (N₁ _ (ho' _ _ _ hJ')).1
        rw [show h₁.get? b = some o from e] at this; cases this
        exact (N₃ _ (List.mem_cons_of_mem _ (ho' _ _ _ J₃))).1
    cases f with
    | ret v => exact h₃
    | brk => exact h₃
    | next => exact fin h₃
    | cont => exact fin h₃
  · have hin : i = n := by omega
    subst hin
    refine W.done _ _ _ hst' fun h₁ tk₁ hk₁ => wpAny_execs_nil ?_
    obtain ⟨F₁, N₁⟩ := next h₁ hk₁
    exact done m' nx h₁ tk₁ hJ' F₁ N₁

/-- a for over a list, by what holds between the turns -/
theorem for_list {Q : Flow → Shared → Prop} {E : Value → Shared → Prop} {target : Expr} {body : List Stmt} {l : Addr} {items : Array Value} {m : Str → Option Value} {news : List (Addr × Obj)}
    (hh : A.handled = none) (hl : s.heap.IsList l items) (hlL : l ≠ env.locals) (F : Fr h₀ env.locals s.heap m) (N : News h₀ env.locals s.heap news)
    (J : Nat → (Str → Option Value) → List (Addr × Obj) → Prop) (hJ : J 0 m news)
    (hsrc : (∃ o, h₀.get? l = some o) ∨ ∃ o, ∀ i m nx, J i m nx → (l, o) ∈ nx)
    (turn : ∀ i v m₁ nx h tk I oI, items[i]? = some v → J i m₁ nx → Fr h₀ env.locals h m₁ → News h₀ env.locals h ((I, oI) :: nx) → (∀ p ∈ nx, p.1 ≠ I) → h.IsListIter I l (i + 1) →
      wpAny (model prog w) A (letOwnedTupleGo target (.ref I) v) (fun _ s₁ => wpAny (model prog w) A (assign target env v) (fun _ s₂ =>
        wpAny (model prog w) A (execs body env) (LEnd h₀ env.locals s I oI (J (i + 1)) Q) (fun _ _ => False) s₂) (fun _ _ => False) s₁) (fun _ _ => False) { s with heap := h, toks := tk })
    (done : ∀ m₁ nx h tk, J items.size m₁ nx → Fr h₀ env.locals h m₁ → News h₀ env.locals h nx → Q .next { s with heap := h, toks := tk }) :
    wpAny (model prog w) A (pyIter (.ref l)) (fun it s₂ => codeAny (model prog w) A (.forLoop target it body [] env) (fun r s' => match r with | .ok f => Q f s' | .error e => cameBackBy (model prog w) A env E e s') s₂) E s := by
  obtain ⟨ol, hol, _⟩ := id hl
  have hne : l ≠ s.heap.objs.size := Nat.ne_of_lt (Heap.lt_size hol)
  refine wpAny_pyIter_list hl ?_
  refine for_walks (h₀ := h₀) (s := { s with heap := s.heap.push { cls := .type "list_iterator", data := .fields #[.ref l, .int 0 0] } }) (Walks.list hh s.heap.objs.size l hne items) ⟨⟨_, Heap.get?_push_size _ rfl, rfl, rfl⟩, hl.at fun o e => Heap.get?_push_of_some _ e⟩ (fun i h st => by obtain ⟨o, e, _⟩ := st.1; exact ⟨o, e⟩)
    (next_is_new F) (fun e => absurd F.ns.lt (e ▸ Nat.lt_irrefl _)) (F.push _) (fun p hp => ⟨Heap.get?_push_of_some _ (N p hp).1, (N p hp).2⟩) (fun p hp => Nat.ne_of_lt (Heap.lt_size (N p hp).1)) J hJ ?_ ?_ ?_
  · intro b hb
    rcases List.mem_cons.mp hb with e | hb
    · exact .inl e
    · rw [List.mem_singleton.mp hb]; exact .inr hsrc
  · intro i v m₁ nx h tk oI _ hP hJ' F₁ N₁ hn₁ st₁
    exact turn i v m₁ nx h tk _ oI hP hJ' F₁ N₁ hn₁ st₁.1
  · intro m₁ nx h tk hJ' F₁ N₁
    exact done m₁ nx h tk hJ' F₁ N₁

/-- a for over a range from a by ones -/
theorem for_range {Q : Flow → Shared → Prop} {E : Value → Shared → Prop} {target : Expr} {body : List Stmt} {r : Addr} {a b : Int} {t u v : Tok} {n : Nat} {m : Str → Option Value} {news : List (Addr × Obj)}
    (hh : A.handled = none) (hr : IsRange s.heap r a b 1 t u v) (hsmall : Builtin.Range.small a b 1 = true) (hsz : Builtin.Range.rangeSize a b 1 = (n : Int)) (F : Fr h₀ env.locals s.heap m) (N : News h₀ env.locals s.heap news)
    (J : Nat → (Str → Option Value) → List (Addr × Obj) → Prop) (hJ : J 0 m news) (hx : ∀ I v, letOwnedTupleGo target (.ref I) v = pure ())
    (turn : ∀ i t m₁ nx h tk I oI, i < n → J i m₁ nx → Fr h₀ env.locals h m₁ → News h₀ env.locals h ((I, oI) :: nx) → (∀ p ∈ nx, p.1 ≠ I) →
      wpAny (model prog w) A (assign target env (.int (a + (i : Int)) t)) (fun _ s₂ =>
        wpAny (model prog w) A (execs body env) (LEnd h₀ env.locals s I oI (J (i + 1)) Q) (fun _ _ => False) s₂) (fun _ _ => False) { s with heap := h, toks := tk })
    (done : ∀ m₁ nx h tk, J n m₁ nx → Fr h₀ env.locals h m₁ → News h₀ env.locals h nx → Q .next { s with heap := h, toks := tk }) :
    wpAny (model prog w) A (pyIter (.ref r)) (fun it s₂ => codeAny (model prog w) A (.forLoop target it body [] env) (fun r s' => match r with | .ok f => Q f s' | .error e => cameBackBy (model prog w) A env E e s') s₂) E s := by
  refine wpAny_pyIter_range hr hsmall ?_
  refine for_walks (h₀ := h₀) (s := { s with heap := s.heap.push { cls := .type "range_iterator", data := .fields #[rawInt a, rawInt (Builtin.Range.rangeSize a b 1), rawInt 1] } }) (LCg.range_walks hh a n) (by show IsRangeIter _ _ _ _ _; rw [hsz]; simpa using Heap.get?_push_size _ rfl) (fun i h st => ⟨_, st⟩)
    (next_is_new F) (fun e => absurd F.ns.lt (e ▸ Nat.lt_irrefl _)) (F.push _) (fun p hp => ⟨Heap.get?_push_of_some _ (N p hp).1, (N p hp).2⟩) (fun p hp => Nat.ne_of_lt (Heap.lt_size (N p hp).1)) J hJ ?_ ?_ ?_
  · intro b hb; exact .inl (List.mem_singleton.mp hb)
  · rintro i v m₁ nx h tk oI hi ⟨t, rfl⟩ hJ' F₁ N₁ hn₁ st₁
    rw [hx]
    exact wpAny_pure (turn i t m₁ nx h tk _ oI hi hJ' F₁ N₁ hn₁)
  · intro m₁ nx h tk hJ' F₁ N₁
    exact done m₁ nx h tk hJ' F₁ N₁
/-- a for over range(n) -/
theorem for_upto {Q : Flow → Shared → Prop} {E : Value → Shared → Prop} {target : Expr} {body : List Stmt} {k : Int} {t : Tok} {n : Nat} {m : Str → Option Value} {news : List (Addr × Obj)}
    (hh : A.handled = none) (hk : k = (n : Int)) (hn : n < 1000000) (F : Fr h₀ env.locals s.heap m) (N : News h₀ env.locals s.heap news)
    (J : Nat → (Str → Option Value) → List (Addr × Obj) → Prop) (hJ : J 0 m news) (hx : ∀ I v, letOwnedTupleGo target (.ref I) v = pure ())
    (turn : ∀ i t m₁ nx h tk I oI, i < n → J i m₁ nx → Fr h₀ env.locals h m₁ → News h₀ env.locals h ((I, oI) :: nx) → (∀ p ∈ nx, p.1 ≠ I) →
      wpAny (model prog w) A (assign target env (.int (i : Int) t)) (fun _ s₂ =>
        wpAny (model prog w) A (execs body env) (LEnd h₀ env.locals s I oI (J (i + 1)) Q) (fun _ _ => False) s₂) (fun _ _ => False) { s with heap := h, toks := tk })
    (done : ∀ m₁ nx h tk, J n m₁ nx → Fr h₀ env.locals h m₁ → News h₀ env.locals h nx → Q .next { s with heap := h, toks := tk }) :
    wpAny (model prog w) A (call (.type "range") [.int k t]) (fun x s₁ => wpAny (model prog w) A (pyIter x) (fun it s₂ => codeAny (model prog w) A (.forLoop target it body [] env) (fun r s' => match r with | .ok f => Q f s' | .error e => cameBackBy (model prog w) A env E e s') s₂) E s₁) E s := by
  refine range1_rows F N fun h' tk t₁ u₁ v₁ hr F' N' _ => ?_
  refine for_range (s := { s with heap := h', toks := tk }) hh hr (small_one (by omega) (by omega) (by omega) (by omega)) (n := n) (by rw [rangeSize_nat]; omega) F' N' J hJ hx ?_ done
  intro i t m₁ nx h tk I oI hi hJ' F₁ N₁ hn₁
  rw [Int.zero_add]
  exact turn i t m₁ nx h tk I oI hi hJ' F₁ N₁ hn₁
end
end Mine
namespace Mine
open PySem PySem.W PyProof.Rows PySem.Calls PySem.Spec

/-- a call of a def of the top, its ground the caller's whole heap -/
theorem call_def0 {prog : Program} {w : World} {A : Around} {R : Result → Shared → Prop} {s : Shared} {K : Frag} {name qual : Str} {params : Arguments} {body : List Stmt} {scope : Scope} {dV kV doc pm cdv ct oc : Value} {an od : Option Addr} {osl : Array (Option Value)} {f : Addr} {args : Args} {binds : List (Str × Value)}
    (X : K.In s.heap) (hlim : s.heap.NoLimit)
    (ho : K.lookup f = some ⟨oc, od, .func (fnOf name qual params body scope dV kV doc pm an cdv ct), osl⟩) (hcd : codeIn K cdv qual = true) (hroom : A.depth < recursionLimit)
    (hbind : BindsTo s (fnOf name qual params body scope dV kV doc pm an cdv ct) args binds)
    (hloc : ∀ y ∈ binds, scope.names.lookup y.1 = some .local)
    (h : ∀ L' h₁, Fr s.heap L' h₁ (fun y => binds.reverse.lookup y) →
      wpAny (model prog w) (A.deeper (envOf qual scope L' f cdv)) (execs body (envOf qual scope L' f cdv))
        (fun fl s' => R (.ok (.ret (match fl with | .ret v => v | _ => .none))) s')
        (fun _ _ => False)
        { s with heap := h₁, toks := s.toks + binds.length })
    (hco : scope.isCoroutine = false) (hgen : scope.isGenerator = false) (hk : scope.kind = .function)
    (hcell : ∀ x ∈ scope.names, x.2 ≠ .cell) : codeAny (model prog w) A (.call (.ref f) args) R s := by
  refine codeAny_call_def (fd := fnOf name qual params body scope dV kV doc pm an cdv ct) (body := body) (binds := binds) hroom (X _ _ ho) rfl hlim (codeRec_of X hcd) rfl hbind hcell hloc (fun h₁ hns hk₁ => ?_) hco hgen hk
  exact wpAny_mono (h s.heap.objs.size h₁ ⟨hns, hk₁, Nat.le_refl _⟩) (fun _ _ x => x) (fun _ _ x => x.elim)
theorem isTup_of {h : Heap} {a : Addr} {xs : Array Value} {n : Nat} (e : h.get? a = some { cls := .type "tuple", data := .seq xs n }) : IsTup h a xs := ⟨_, e, rfl, _, rfl⟩
theorem ite_b {b : Bool} {p q : Prop} (h1 : b = true → p) (h2 : b = false → q) : if b = true then p else q := by
  cases b
  · simpa using h2 rfl
  · simpa using h1 rfl
end Mine
namespace Mine
open PySem PySem.W PyProof.Rows PySem.Calls PySem.Spec


theorem call_rest {prog : Program} {w : World} {A : Around} {R : Result → Shared → Prop} {s : Shared} {K : Frag} {name qual : Str} {params : Arguments} {body : List Stmt} {scope : Scope} {dV kV doc pm cdv ct oc : Value} {an od : Option Addr} {osl : Array (Option Value)} {f : Addr} {args : Args} {vs : List Value} {binds : Value → List (Str × Value)}
    (X : K.In s.heap) (hlim : s.heap.NoLimit)
    (ho : K.lookup f = some ⟨oc, od, .func (fnOf name qual params body scope dV kV doc pm an cdv ct), osl⟩) (hcd : codeIn K cdv qual = true) (hroom : A.depth < recursionLimit)
    (hb : bindArgs (fnOf name qual params body scope dV kV doc pm an cdv ct) args = (newTuple vs >>= fun v => pure (binds v)))
    (hsz : vs.length ≤ sizeLine)
    (hloc : ∀ D, ∀ y ∈ binds D, scope.names.lookup y.1 = some .local)
    (h : ∀ D L' h₁, Fr (s.heap.push { cls := .type "tuple", data := .seq vs.toArray }) L' h₁ (fun y => (binds (.ref D)).reverse.lookup y) → (s.heap.push { cls := .type "tuple", data := .seq vs.toArray }).get? D = some { cls := .type "tuple", data := .seq vs.toArray } → s.heap.get? D = none →
      wpAny (model prog w) (A.deeper (envOf qual scope L' f cdv)) (execs body (envOf qual scope L' f cdv))
        (fun fl s' => R (.ok (.ret (match fl with | .ret v => v | _ => .none))) s')
        (fun _ _ => False)
        { s with heap := h₁, toks := s.toks + (binds (.ref D)).length })
    (hco : scope.isCoroutine = false) (hgen : scope.isGenerator = false) (hk : scope.kind = .function)
    (hcell : ∀ x ∈ scope.names, x.2 ≠ .cell) : codeAny (model prog w) A (.call (.ref f) args) R s := by
  refine codeAny_call_function (fd := fnOf name qual params body scope dV kV doc pm an cdv ct) (body := body) hroom (X _ _ ho) rfl hco hgen rfl (codeRec_of X hcd) ?_
  rw [hb]
  refine wpAny_bind (wpAny_newObj_type ?_ (by show vs.toArray.size ≤ sizeLine; rw [List.size_toArray]; exact hsz))
  refine wpAny_pure ?_
  have hk₀ : ∀ b o, s.heap.get? b = some o → (s.heap.push { cls := .type "tuple", data := .seq vs.toArray }).get? b = some o := fun b o e => Heap.get?_push_of_some _ e
  refine wpAny_newFunctionEnv hcell (hloc _) (fun h₁ hns hsb => ⟨Heap.NoLimit.fresh (hlim.keeps hk₀) _ hsb, codeAny_func ?_⟩) hk
  have hk₁ : ∀ b o, (s.heap.push { cls := .type "tuple", data := .seq vs.toArray }).get? b = some o → h₁.get? b = some o := fun b o e => hsb.extBut b o (Nat.ne_of_lt (Heap.lt_size e)) (Heap.get?_push_of_some _ e)
  refine wpAny_mono (h s.heap.objs.size _ h₁ ⟨hns, hk₁, Nat.le_refl _⟩ (Heap.get?_push_size _ rfl) ?_) (fun _ _ x => x) (fun _ _ x => x.elim)
  exact Heap.get?_none_of_le (Nat.le_refl _)

theorem ktl_ite {b : Bool} {p q : Prop} (h1 : b = true → p) (h2 : b = false → q) : if b = true then p else q := by
  cases b
  · simpa using h2 rfl
  · simpa using h1 rfl
/-- the texts that a list of pairs hands to replace -/
def pairStrs : List (Nat × Nat) → List Str
  | [] => []
  | (p, q) :: r => ⟨#[p, q]⟩ :: ⟨#[q, p]⟩ :: pairStrs r
/-- all pairs, one behind the other -/
def swpAll : List (Nat × Nat) → List Nat → List Nat
  | [], l => l
  | (p, q) :: r, l => swpAll r (swp p q l)
theorem replace_spec {prog : Program} {w : World} {mean : ExcName → Option Value} {mg mb : Str → Option Value} {env1 env2 : Env} {s : Shared} {R : Result → Shared → Prop}
  (X : (hd.heap_39 w.params).In s.heap) (T : TopF mean mg mb s.heap) 
  {text : Str} {t : Tok} {vs : List Value} {W : List (Nat × Nat)} (hsz : W.length ≤ 100) (hvs : StrsAre vs (pairStrs W)) (hW : ∀ p ∈ W, p.1 < 256 ∧ p.2 < 256) (ht : text.length ≤ 1000)
  (h : ∀ h' tk' t' x, Keeps s.heap h' → x.cps.toList = swpAll W text.cps.toList → R (.ok (.ret (.str x t'))) {s with heap := h', toks := tk'}) :
  codeAny (model prog w) ((callerA.deeper env1).deeper env2) (.call (.ref 21) ⟨.str text t :: vs, []⟩) R s := by
  have plen : ∀ W : List (Nat × Nat), (pairStrs W).length = 2 * W.length := by
    intro W; induction W with
    | nil => rfl
    | cons p r ih => simp only [pairStrs, List.length_cons, ih]; omega
  have hvl : vs.length = 2 * W.length := by rw [hvs.length, plen]
  refine' call_rest (vs := vs) (binds := fun v => [(Str.ofString "text", .str text t), (Str.ofString "pairs", v)]) X T.nolimit ?k6 ?k7 ?k8 ?hb ?hsz ?kB ?_ ?c2 ?c3 ?c4 ?c5; (case k6 => k_is); (case k7 => k_is); (case k8 => k_room); (case hsz => rw [sizeLine_eq]; omega); (case hb => unfold bindArgs; simp; rfl);  (case kB => exact fun _ => locs rfl); (case c5 => decide); (case c2 => exact rfl); (case c3 => exact rfl); (case c4 => exact rfl)
  intro D L' h' F' hD hD0
  have kp : Keeps s.heap (s.heap.push { cls := .type "tuple", data := .seq vs.toArray }) := fun b o e => Heap.get?_push_of_some _ e
  generalize (s.heap.push { cls := .type "tuple", data := .seq vs.toArray }) = h₀ at F' hD kp
  have X' : (hd.heap_39 w.params).In h₀ := X.keeps kp
  have N' : News h₀ L' h' [] := News.nil
  refine wpAny_execs_cons ?_
  refine While_inv (fun n m news => ∃ D' txt tk W' vs' c, m (Str.ofString "text") = some (.str txt tk) ∧ m (Str.ofString "pairs") = some (.ref D') ∧ (h₀.get? D' = some { cls := .type "tuple", data := .seq vs'.toArray c } ∨ (D', ({ cls := .type "tuple", data := .seq vs'.toArray c } : Obj)) ∈ news) ∧ StrsAre vs' (pairStrs W') ∧ n = W'.length ∧ W'.length ≤ W.length ∧ (∀ p ∈ W', p.1 < 256 ∧ p.2 < 256) ∧ txt.length = text.length ∧ swpAll W text.cps.toList = swpAll W' txt.cps.toList) (n₀ := W.length) F' N' ?_ ?_ ?_
  · exact ⟨D, text, t, W, vs, _, rfl, rfl, .inl hD, hvs, rfl, Nat.le_refl _, hW, rfl, rfl⟩
  · rintro n m₁ news₁ h₁ tk₁ F₁ N₁ ⟨D', txt, tk, W', vs', c, e1, e2, e3, e4, e5, e6, e7, e8, e9⟩
    have hT : h₁.get? D' = some { cls := .type "tuple", data := .seq vs'.toArray c } := e3.elim (F₁.keep _ _) (fun hm => (N₁ _ hm).1)
    have F₂ := frPins [(Str.ofString "pairs", .ref D'), (Str.ofString "text", .str txt tk)] F₁ (by simp [e1, e2])
    clear F₁ F' N' hD hD0
    have hlen : vs'.length = 2 * W'.length := by rw [e4.length, plen]
    refine isTrue_plain (ld F₂ rfl ?_)
    refine ktl_truthy hT (by rw [List.size_toArray, hlen]; omega) ?_
    cases W' with
    | nil =>
      cases e4
      refine ktl_ite (fun hb => absurd hb (by simp)) (fun _ => ?_)
      walk1; walk1
      refine ld F₂ rfl ?_
      exact h _ _ _ _ (fun b o e => F₂.keep b o (kp b o e)) e9.symm
    | cons pq W'' =>
      obtain ⟨p, q⟩ := pq
      obtain ⟨t1, v1, rfl, e4a⟩ := StrsAre.cons_inv (x := ⟨#[p, q]⟩) (xs := ⟨#[q, p]⟩ :: pairStrs W'') e4
      obtain ⟨t2, v2, rfl, e4b⟩ := e4a.cons_inv
      refine ktl_ite (fun _ => ?_) (fun hb => absurd hb (by simp))
      walk
      refine item_tupleT ⟨_, hT, rfl, _, rfl⟩ (by decide) (by decide) (j := 1) (by unfold seqIndex?; simp; omega) rfl ?_
      walk
      refine item_tupleT ⟨_, hT, rfl, _, rfl⟩ (by decide) (by decide) (j := 0) (by unfold seqIndex?; simp; omega) rfl ?_
      dsimp only
      walk1
      have hpq := e7 (p, q) List.mem_cons_self
      refine splitN1A F₂ N₁ rfl (fun l h₂ k el es eb il F₃ N₃ => ?_) (by rw [sizeLine_eq]; omega)
      walk1
      have hlen2 : (Txt.split txt ⟨#[p, q]⟩).length ≤ txt.length + 1 := split2_length _ _ _
      refine SC.join il el (joinOk_of 1000 (fun y hy => Nat.le_trans (eb y (el ▸ hy)) (by omega)) (by show _ + _ * 2 ≤ _; omega)) (fun t' k' => ?_)
      dsimp only
      have hre := replace_eq txt p q hpq.1 hpq.2
      have hrl := replace_length txt p q hpq.1 hpq.2
      generalize Txt.join ⟨#[q, p]⟩ (Txt.split txt ⟨#[p, q]⟩) = txt' at hre hrl ⊢
      walk
      rename Fr _ _ _ _ => F₄
      rename News _ _ _ _ => N₄
      have hT' := e3.elim (F₄.keep _ _) (fun hm => (N₄ _ (List.mem_cons_of_mem _ hm)).1)
      have tup := isTup_of hT'
      with_unfolding_all refine slice_tuple_from (a := 2) (by exact F₄) (by exact N₄) (by exact tup) (by decide) (by simp) ?_ (hsz := by simp only [List.length_cons] at e6; rw [List.size_toArray, hlen, sizeLine_eq, List.length_cons]; omega)
      intro h₅ F₅ N₅
      walk
      rename Fr _ _ _ _ => F₆
      rename News _ _ _ _ => N₆
      exact WhileStep.intro F₆ N₆ (by rw [e5, List.length_cons]; exact Nat.lt_succ_self _) ⟨_, txt', t', W'', v2, _, rfl, rfl, .inr (List.mem_cons_self ..), e4b, rfl, by simp only [List.length_cons] at e6; omega, fun x hx => e7 x (List.mem_cons_of_mem _ hx), by rw [hrl, e8], by rw [e9, hre]; rfl⟩
  · intro _ _ e; exact e.elim
end Mine
namespace Mine
open PySem PySem.W PyProof.Rows PySem.Calls PySem.Spec
/-- a row of three things -/
abbrev Row3 := Int × Str × Int
/-- less by one column -/
def colLt (c : Nat) (a b : Row3) : Bool := match c with
  | 0 => decide (a.1 < b.1)
  | 1 => decide (a.2.1.cps.toList < b.2.1.cps.toList)
  | _ => decide (a.2.2 < b.2.2)
/-- what compare tells -/
def cmpRes : List (Nat × Int) → Row3 → Row3 → Int
  | [], _, _ => 0
  | (c, d) :: r, a, b => if colLt c a b = true then -d else if colLt c b a = true then d else cmpRes r a b
/-- a tuple that is a row -/
def RowAt (h : Heap) (v : Value) (r : Row3) : Prop := ∃ a t1 t2 t3, v = .ref a ∧ IsTup h a [Value.int r.1 t1, Value.str r.2.1 t2, Value.int r.2.2 t3].toArray
/-- tuples that are keys -/
def KeyAt (h : Heap) (v : Value) (k : Nat × Int) : Prop := ∃ a t1 t2, v = .ref a ∧ IsTup h a [Value.int (k.1 : Int) t1, Value.int k.2 t2].toArray ∧ k.1 < 3 ∧ (k.2 = 1 ∨ k.2 = -1)
def KeysAt (h : Heap) (l : Addr) (ks : List (Nat × Int)) : Prop := ∃ vs : List Value, h.IsList l vs.toArray ∧ vs.length = ks.length ∧ ∀ (i : Nat) v k, vs[i]? = some v → ks[i]? = some k → KeyAt h v k
/-- a TupleComp of a list of keys -/
def CompAt (h : Heap) (x kl : Addr) : Prop := ∃ dx es n, h.get? x = some ⟨.ref 45, some dx, .plain, #[]⟩ ∧ h.get? dx = some (dictOf es n) ∧ getL (Str.ofString "comp_select_list") es = some (some (.ref kl)) ∧ getL (Str.ofString "compare") es = some none

theorem compare_spec {prog : Program} {w : World} {mean : ExcName → Option Value} {mg mb : Str → Option Value} {env1 env2 : Env} {s : Shared} {R : Result → Shared → Prop}
  (X : (hd.heap_39 w.params).In s.heap) (T : TopF mean mg mb s.heap) 
  {x kl : Addr} {u v : Value} {ks : List (Nat × Int)} {a b : Row3} (hx : CompAt s.heap x kl) (hk : KeysAt s.heap kl ks) (hu : RowAt s.heap u a) (hv : RowAt s.heap v b)
  (h : ∀ h' tk' t', Keeps s.heap h' → R (.ok (.ret (.int (cmpRes ks a b) t'))) {s with heap := h', toks := tk'}) :
  codeAny (model prog w) ((callerA.deeper env1).deeper env2) (.call (.ref 42) ⟨[.ref x, u, v], []⟩) R s := by
  refine' call_def0 (binds := [(Str.ofString "self", .ref x), (Str.ofString "left", u), (Str.ofString "right", v)]) X T.nolimit ?k6 ?k7 ?k8 ?k9 ?kB ?_ ?c2 ?c3 ?c4 ?c5; (case k6 => k_is); (case k7 => k_is); (case k8 => k_room); (case k9 => exact BindsTo.of_eq rfl);  (case kB => exact locs rfl); (case c5 => decide); (case c2 => exact rfl); (case c3 => exact rfl); (case c4 => exact rfl)
  intro L' h' F'
  generalize hh0 : s.heap = h₀ at *
  have N' : News h₀ L' h' [] := News.nil
  obtain ⟨dx, es, n, hI, hdx, hg, _⟩ := hx
  obtain ⟨kvs, hkl, hkn, hka⟩ := hk
  obtain ⟨ua, t1, t2, t3, rfl, hu⟩ := hu
  obtain ⟨va, t4, t5, t6, rfl, hv⟩ := hv
  have kk : Keeps h₀ h' := F'.keep
  refine wpAny_execs_cons (wpAny_For ?_)
  walk1
  walk1
  have I : InstAt h' x ⟨.ref 45, some dx, .plain, #[]⟩ 45 (some (dictOf es n)) := ⟨kk _ _ hI, rfl, rfl, kk _ _ hdx⟩
  refine' get_own F' X I ?h1 ?h2 ?h3 ?h4 hg rfl ?_
  case h1 => k_is
  case h2 => k_is
  case h3 => k_is
  case h4 => k_is
  have hls : h'.IsList kl kvs.toArray := hkl.at fun o e => kk _ _ e
  refine' for_list (h₀ := h₀) rfl hls ?hL F' N' (fun i m nx => nx = [] ∧ m (Str.ofString "self") = some (.ref x) ∧ m (Str.ofString "left") = some (.ref ua) ∧ m (Str.ofString "right") = some (.ref va) ∧ cmpRes ks a b = cmpRes (ks.drop i) a b) ?hJ ?hs ?ht ?hd
  case hL => exact fun e => by obtain ⟨o, q, _⟩ := hkl; have := Heap.lt_size q; rw [e] at this; exact absurd F'.above (Nat.not_le.mpr this)
  case hJ => exact ⟨rfl, rfl, rfl, rfl, rfl⟩
  case hs => obtain ⟨o, q, _⟩ := hkl; exact .inl ⟨o, q⟩
  case ht =>
    intro i v m₁ nx g tk I oI hv1 hJ F₁ N₁ hn₁ hit
    obtain ⟨rfl, e1, e2, e3, e4⟩ := hJ
    have hi : i < ks.length := by rw [← hkn]; have := (Array.getElem?_eq_some_iff.mp hv1).1; simpa using this
    obtain ⟨ka, t7, t8, rfl, htup, hc, hd⟩ := hka i v ks[i] (by simpa using hv1) (List.getElem?_eq_getElem hi)
    refine wpAny_letOwnedTupleGo_listiter hit ?_
    have htup' : IsTup g ka _ := htup.keeps F₁.keep
    have hdrop := List.drop_eq_getElem_cons hi
    generalize ks[i] = cd at htup htup' hc hd hdrop
    obtain ⟨c, d⟩ := cd
    dsimp only at htup' hc hd
    refine assign_Tuple_tuple rfl htup' rfl rfl fun g₂ ext => ?_
    have k₂ : Keeps g g₂ := fun b o e => ext b o (Nat.ne_of_lt (Heap.lt_size e)) e
    have F₂ := frKeeps k₂ F₁
    have N₂ := newsKeeps k₂ N₁
    refine assignInOrder_cons (wpAny_assign_Name ?_)
    have F₃ := frPins [(Str.ofString "self", .ref x), (Str.ofString "left", .ref ua), (Str.ofString "right", .ref va)] F₂ (by simp [e1, e2, e3])
    clear F₁ F' F₂ N' N₁
    walk1
    refine assignInOrder_cons (wpAny_assign_Name ?_)
    walk1
    refine assignInOrder_nil ?_
    have c3 : c = 0 ∨ c = 1 ∨ c = 2 := by omega
    rcases c3 with rfl | rfl | rfl
    · walk
      · have q : cmpRes ks a b = -d := by rw [e4, hdrop, cmpRes, if_pos (by simp only [colLt, decide_eq_true_eq]; assumption)]
        rename Fr _ _ _ _ => Fz
        rw [q] at h; exact h _ _ _ Fz.keep
      · have q : cmpRes ks a b = d := by rw [e4, hdrop, cmpRes, if_neg (by simp only [colLt, decide_eq_true_eq]; assumption), if_pos (by simp only [colLt, decide_eq_true_eq]; assumption)]
        rename Fr _ _ _ _ => Fz
        rw [q] at h; exact h _ _ _ Fz.keep
      · have q : cmpRes ks a b = cmpRes (List.drop (i + 1) ks) a b := by rw [e4, hdrop, cmpRes, if_neg (by simp only [colLt, decide_eq_true_eq]; assumption), if_neg (by simp only [colLt, decide_eq_true_eq]; assumption)]
        rename Fr _ _ _ _ => Fz
        rename News _ _ _ _ => Nz
        exact ⟨_, _, _, [], rfl, Fz, Nz, (fun _ hp => (nomatch hp)), rfl, rfl, rfl, rfl, q⟩
    · walk
      · have q : cmpRes ks a b = -d := by rw [e4, hdrop, cmpRes, if_pos (by simp only [colLt, decide_eq_true_eq]; assumption)]
        rename Fr _ _ _ _ => Fz
        rw [q] at h; exact h _ _ _ Fz.keep
      · have q : cmpRes ks a b = d := by rw [e4, hdrop, cmpRes, if_neg (by simp only [colLt, decide_eq_true_eq]; assumption), if_pos (by simp only [colLt, decide_eq_true_eq]; assumption)]
        rename Fr _ _ _ _ => Fz
        rw [q] at h; exact h _ _ _ Fz.keep
      · have q : cmpRes ks a b = cmpRes (List.drop (i + 1) ks) a b := by rw [e4, hdrop, cmpRes, if_neg (by simp only [colLt, decide_eq_true_eq]; assumption), if_neg (by simp only [colLt, decide_eq_true_eq]; assumption)]
        rename Fr _ _ _ _ => Fz
        rename News _ _ _ _ => Nz
        exact ⟨_, _, _, [], rfl, Fz, Nz, (fun _ hp => (nomatch hp)), rfl, rfl, rfl, rfl, q⟩
    · walk
      · have q : cmpRes ks a b = -d := by rw [e4, hdrop, cmpRes, if_pos (by simp only [colLt, decide_eq_true_eq]; assumption)]
        rename Fr _ _ _ _ => Fz
        rw [q] at h; exact h _ _ _ Fz.keep
      · have q : cmpRes ks a b = d := by rw [e4, hdrop, cmpRes, if_neg (by simp only [colLt, decide_eq_true_eq]; assumption), if_pos (by simp only [colLt, decide_eq_true_eq]; assumption)]
        rename Fr _ _ _ _ => Fz
        rw [q] at h; exact h _ _ _ Fz.keep
      · have q : cmpRes ks a b = cmpRes (List.drop (i + 1) ks) a b := by rw [e4, hdrop, cmpRes, if_neg (by simp only [colLt, decide_eq_true_eq]; assumption), if_neg (by simp only [colLt, decide_eq_true_eq]; assumption)]
        rename Fr _ _ _ _ => Fz
        rename News _ _ _ _ => Nz
        exact ⟨_, _, _, [], rfl, Fz, Nz, (fun _ hp => (nomatch hp)), rfl, rfl, rfl, rfl, q⟩
  case hd =>
    intro m₁ nx g tk hJ F₁ N₁
    obtain ⟨rfl, e1, e2, e3, e4⟩ := hJ
    have e4 : cmpRes ks a b = 0 := by rw [e4, show kvs.toArray.size = ks.length by simp [hkn], List.drop_length]; rfl
    have F₂ := frPins [(Str.ofString "self", .ref x), (Str.ofString "left", .ref ua), (Str.ofString "right", .ref va)] F₁ (by simp [e1, e2, e3])
    clear F₁ F'
    show wpAny _ _ _ _ _ _
    walk
    have := h g (tk + 1) tk F₂.keep
    rw [e4] at this
    exact this
end Mine
namespace Mine
open PySem PySem.W PyProof.Rows PySem.Calls PySem.Spec
theorem RowAt.keeps {h h' : Heap} {v : Value} {r : Row3} (k : Keeps h h') (x : RowAt h v r) : RowAt h' v r := by
  obtain ⟨a, t1, t2, t3, e, ht⟩ := x; exact ⟨a, t1, t2, t3, e, ht.keeps k⟩
theorem KeyAt.keeps {h h' : Heap} {v : Value} {r : Nat × Int} (k : Keeps h h') (x : KeyAt h v r) : KeyAt h' v r := by
  obtain ⟨a, t1, t2, e, ht, q⟩ := x; exact ⟨a, t1, t2, e, ht.keeps k, q⟩
theorem KeysAt.keeps {h h' : Heap} {l : Addr} {ks : List (Nat × Int)} (k : Keeps h h') (x : KeysAt h l ks) : KeysAt h' l ks := by
  obtain ⟨vs, hl, hn, hk⟩ := x; exact ⟨vs, hl.at fun o e => k _ _ e, hn, fun i v q a b => (hk i v q a b).keeps k⟩
theorem CompAt.keeps {h h' : Heap} {x kl : Addr} (k : Keeps h h') (c : CompAt h x kl) : CompAt h' x kl := by
  obtain ⟨dx, es, n, a, b, c⟩ := c; exact ⟨dx, es, n, k _ _ a, k _ _ b, c⟩
/-- the rows in a list -/
def RowsAt (h : Heap) (l : Addr) (rs : List Row3) : Prop := ∃ vs : List Value, h.IsList l vs.toArray ∧ vs.length = rs.length ∧ ∀ (i : Nat) v r, vs[i]? = some v → rs[i]? = some r → RowAt h v r
/-- the pairs that stand the wrong way round, of the first letter i -/
def wrongOf (ks : List (Nat × Int)) (rs : List Row3) (way : Int) (i n : Nat) : List (Nat × Nat) :=
  (List.range n).filterMap fun j => if cmpRes ks (rs.getD i (0, Str.empty, 0)) (rs.getD j (0, Str.empty, 0)) = way then some (97 + i, 97 + j) else none
def wrongAll (ks : List (Nat × Int)) (rs : List Row3) (way : Int) (n : Nat) : List (Nat × Nat) := (List.range n).flatMap fun i => wrongOf ks rs way i 5
def twoStr (p : Nat × Nat) : Str := ⟨#[p.1, p.2]⟩
theorem wrongOf_succ (ks rs way i n) : wrongOf ks rs way i (n + 1) = wrongOf ks rs way i n ++ (if cmpRes ks (rs.getD i (0, Str.empty, 0)) (rs.getD n (0, Str.empty, 0)) = way then [(97 + i, 97 + n)] else []) := by
  unfold wrongOf
  rw [List.range_succ, List.filterMap_append]
  congr 1
  by_cases hc : cmpRes ks (rs.getD i (0, Str.empty, 0)) (rs.getD n (0, Str.empty, 0)) = way
  · rw [if_pos hc]; exact List.filterMap_cons_some (if_pos hc)
  · rw [if_neg hc]; exact List.filterMap_cons_none (if_neg hc)
theorem wrongAll_succ (ks rs way n) : wrongAll ks rs way (n + 1) = wrongAll ks rs way n ++ wrongOf ks rs way n 5 := by
  unfold wrongAll; rw [List.range_succ, List.flatMap_append]; simp

theorem item_abcde : ∀ i, i < 5 → Txt.item (Str.ofString "abcde") ((i : Nat) : Int) = ⟨#[97 + i]⟩ := by decide +kernel
theorem two_cat {i j : Nat} (hi : i < 5) (hj : j < 5) : Txt.item (Str.ofString "abcde") (i : Int) ++ Txt.item (Str.ofString "abcde") (j : Int) = twoStr (97 + i, 97 + j) := by
  rw [item_abcde i hi, item_abcde j hj]; rfl
theorem wrong_spec {prog : Program} {w : World} {mean : ExcName → Option Value} {mg mb : Str → Option Value} {env1 : Env} {s : Shared} {R : Result → Shared → Prop}
  (X : (hd.heap_39 w.params).In s.heap) (T : TopF mean mg mb s.heap)
  {rl x kl : Addr} {ks : List (Nat × Int)} {rs : List Row3} {way : Int} {tw : Tok} (hx : CompAt s.heap x kl) (hk : KeysAt s.heap kl ks) (hr : RowsAt s.heap rl rs) (hlen : rs.length = 5)
  (h : ∀ h' tk' l vs n, Keeps s.heap h' → s.heap.get? l = none → h'.get? l = some (listOf vs.toArray n) → StrsAre vs ((wrongAll ks rs way 5).map twoStr) → R (.ok (.ret (.ref l))) {s with heap := h', toks := tk'}) :
  codeAny (model prog w) (callerA.deeper env1) (.call (.ref 63) ⟨[.ref rl, .ref x, .int way tw], []⟩) R s := by
  refine' call_def0 (binds := [(Str.ofString "rows", .ref rl), (Str.ofString "told", .ref x), (Str.ofString "way", .int way tw)]) X T.nolimit ?k6 ?k7 ?k8 ?k9 ?kB ?_ ?c2 ?c3 ?c4 ?c5; (case k6 => k_is); (case k7 => k_is); (case k8 => k_room); (case k9 => exact BindsTo.of_eq rfl);  (case kB => exact locs rfl); (case c5 => decide); (case c2 => exact rfl); (case c3 => exact rfl); (case c4 => exact rfl)
  intro L' h' F'
  generalize hh0 : s.heap = h₀ at *
  have N' : News h₀ L' h' [] := News.nil
  obtain ⟨rvs, hrl, hrn, hra⟩ := hr
  iterate 6 walk1
  refine wpAny_execs_cons (wpAny_For ?_)
  iterate 6 walk1
  rename Fr _ _ _ _ => F₁
  rename News _ _ _ _ => N₁
  rename Addr => l
  -- the outer loop
  refine' for_upto (h₀ := h₀) (n := 5) rfl rfl (by decide) F₁ N₁ (fun i m nx => ∃ vs c, nx = [(l, listOf vs.toArray c)] ∧ StrsAre vs ((wrongAll ks rs way i).map twoStr) ∧ vs.length ≤ 5 * i ∧ m (Str.ofString "rows") = some (.ref rl) ∧ m (Str.ofString "told") = some (.ref x) ∧ m (Str.ofString "way") = some (.int way tw) ∧ m (Str.ofString "wrong") = some (.ref l)) ?hJ (fun _ _ => rfl) ?ht ?hd
  case hJ => exact ⟨[], _, rfl, .nil, by simp, rfl, rfl, rfl, rfl⟩
  case ht =>
    rintro i ti m₁ nx g tk I oI hi ⟨vs, c, rfl, hvs, hvl, e1, e2, e3, e4⟩ F₂ N₂ hn₂
    have hIl : l ≠ I := hn₂ _ (List.mem_cons_self ..)
    refine wpAny_assign_Name ?_
    have F₃ := frPins [(Str.ofString "rows", .ref rl), (Str.ofString "told", .ref x), (Str.ofString "way", .int way tw), (Str.ofString "wrong", .ref l)] F₂ (by simp [e1, e2, e3, e4])
    clear F₂ F₁ N₁
    walk1
    refine wpAny_execs_cons (wpAny_For ?_)
    iterate 6 walk1
    rename Fr _ _ _ _ => F₄
    rename News _ _ _ _ => N₄
    refine' for_upto (h₀ := h₀) (n := 5) rfl rfl (by decide) F₄ N₄ (fun j m nx => ∃ vs c, nx = [(I, oI), (l, listOf vs.toArray c)] ∧ StrsAre vs ((wrongAll ks rs way i ++ wrongOf ks rs way i j).map twoStr) ∧ vs.length ≤ 5 * i + j ∧ m (Str.ofString "rows") = some (.ref rl) ∧ m (Str.ofString "told") = some (.ref x) ∧ m (Str.ofString "way") = some (.int way tw) ∧ m (Str.ofString "wrong") = some (.ref l) ∧ m (Str.ofString "i") = some (.int (i : Int) ti)) ?hJ2 (fun _ _ => rfl) ?ht2 ?hd2
    case hJ2 => exact ⟨vs, _, rfl, by simpa [wrongOf] using hvs, hvl, rfl, rfl, rfl, rfl, rfl⟩
    case ht2 =>
      rintro j tj m₂ nx g₂ tk I₂ oI₂ hj ⟨vs, c, rfl, hvs, hvl, e1, e2, e3, e4, e5⟩ F₅ N₅ hn₅
      have hI2I : I ≠ I₂ := hn₅ _ (List.mem_cons_self ..)
      have hI2l : l ≠ I₂ := hn₅ (l, _) (List.mem_cons_of_mem _ (List.mem_cons_self ..))
      refine wpAny_assign_Name ?_
      have F₆ := frPins [(Str.ofString "rows", .ref rl), (Str.ofString "told", .ref x), (Str.ofString "way", .int way tw), (Str.ofString "wrong", .ref l), (Str.ofString "i", .int (i : Int) ti)] F₅ (by simp [e1, e2, e3, e4, e5])
      clear F₅ F₄ F₃ N₄ N₂
      walk
      rename Fr _ _ _ _ => F₇
      rename News _ _ _ _ => N₇
      obtain ⟨dx, es, en, hIx, hdx, hg1, hg2⟩ := id hx
      have I : InstAt _ x ⟨.ref 45, some dx, .plain, #[]⟩ 45 (some (dictOf es en)) := ⟨F₇.keep _ _ hIx, rfl, rfl, F₇.keep _ _ hdx⟩
      refine' method_inst F₇ X I ?h1 ?h2 ?h3 hg2 ?_
      case h1 => k_is
      case h2 => k_is
      case h3 => k_is
      have hir : i < rvs.length := by omega
      have hjr : j < rvs.length := by omega
      walk
      refine item_litK (hrl.at fun o e => F₇.keep _ _ e) (by omega) (by omega) (v := rvs[i]) (by simp [hir]) ?_
      walk
      refine item_litK (hrl.at fun o e => F₇.keep _ _ e) (by omega) (by omega) (v := rvs[j]) (by simp [hjr]) ?_
      dsimp only
      walk
      have hir' : i < rs.length := by omega
      have hjr' : j < rs.length := by omega
      have hri := hra i rvs[i] (rs.getD i (0, Str.empty, 0)) (List.getElem?_eq_getElem hir) (by simp [hir'])
      have hrj := hra j rvs[j] (rs.getD j (0, Str.empty, 0)) (List.getElem?_eq_getElem hjr) (by simp [hjr'])
      refine wpAny_call (compare_spec (X.keeps F₇.keep) (T.keeps F₇.keep) (hx.keeps F₇.keep) (hk.keeps F₇.keep) (hri.keeps F₇.keep) (hrj.keeps F₇.keep) ?_)
      intro h₈ tk₈ t₈ k₈
      have F₈ := frKeeps k₈ F₇
      have N₈ := newsKeeps k₈ N₇
      clear F₇ N₇ F₆ N₅ I
      dsimp only
      walk
      · rename cmpRes _ _ _ = _ => hcmp
        rw [two_cat hi hj]
        generalize hv9 : Value.str (twoStr (97 + i, 97 + j)) _ = v9
        refine append_K F₈ N₈ (.tail (fun e => hI2l e.symm) (.tail (fun e => hIl e.symm) (.head (fun _ hp => (nomatch hp))))) (fun h₉ F₉ N₉ => ?_) (by rw [List.size_toArray, sizeLine_eq]; omega)
        rw [List.push_toArray] at N₉
        walk
        refine ⟨_, _, _, _, rfl, F₉, N₉, ?_, vs ++ [v9], _, rfl, ?_, ?_, rfl, rfl, rfl, rfl, rfl⟩
        · intro p hp
          rcases List.mem_cons.mp hp with rfl | hp
          · exact hI2I
          · rw [List.mem_singleton.mp hp]; exact hI2l
        · rw [wrongOf_succ, if_pos hcmp, ← List.append_assoc, List.map_append, ← hv9]
          exact hvs.append' (.cons _ _ .nil)
        · simp; omega
      · rename cmpRes _ _ _ ≠ _ => hcmp
        refine ⟨_, _, _, _, rfl, F₈, N₈, hn₅, vs, c, rfl, ?_, by omega, rfl, rfl, rfl, rfl, rfl⟩
        rw [wrongOf_succ, if_neg hcmp, List.append_nil]; exact hvs
    case hd2 =>
      rintro m₂ nx g₂ tk ⟨vs, c, rfl, hvs, hvl, e1, e2, e3, e4, e5⟩ F₅ N₅
      show wpAny _ _ _ _ _ _
      refine wpAny_execs_nil ?_
      refine ⟨_, _, m₂, [(l, listOf vs.toArray c)], rfl, F₅, N₅, ?_, vs, c, rfl, ?_, by omega, e1, e2, e3, e4⟩
      · intro p hp; rw [List.mem_singleton.mp hp]; exact hIl
      · rw [wrongAll_succ]; exact hvs
  case hd =>
    rintro m₂ nx g₂ tk ⟨vs, c, rfl, hvs, hvl, e1, e2, e3, e4⟩ F₅ N₅
    have F₆ := frPins [(Str.ofString "wrong", .ref l)] F₅ (by simp [e4])
    clear F₅
    show wpAny _ _ _ _ _ _
    walk
    exact h _ _ _ vs c F₆.keep (N₅ _ (List.mem_cons_self ..)).2.2 (N₅ _ (List.mem_cons_self ..)).1 hvs
end Mine
namespace Mine
open PySem PySem.W PyProof.Rows PySem.Calls PySem.Spec
/-- the keys that a number tells -/
def keysFrom : Nat → Int → List (Nat × Int)
  | 0, _ => []
  | n + 1, left => ((left.fmod 3).toNat, 1 - ((left.fdiv 3).fmod 2) * 2) :: keysFrom n (left.fdiv 6)
/-- a key among the made tuples -/
def KeyIn (tl : List (Addr × Obj)) (v : Value) (k : Nat × Int) : Prop := ∃ a t1 t2 n, v = .ref a ∧ (a, ({ cls := .type "tuple", data := .seq [Value.int (k.1 : Int) t1, Value.int k.2 t2].toArray n } : Obj)) ∈ tl ∧ k.1 < 3 ∧ (k.2 = 1 ∨ k.2 = -1)
theorem news_head {h₀ h : Heap} {L a : Addr} {o : Obj} {r : List (Addr × Obj)} (N : News h₀ L h ((a, o) :: r)) : ∃ o', o' = o ∧ News h₀ L h ((a, o') :: r) := ⟨o, rfl, N⟩
theorem keys_spec {prog : Program} {w : World} {mean : ExcName → Option Value} {mg mb : Str → Option Value} {env1 : Env} {s : Shared} {R : Result → Shared → Prop}
  (X : (hd.heap_39 w.params).In s.heap) (T : TopF mean mg mb s.heap)
  {total : Int} {tt : Tok}
  (h : ∀ h' tk' l c vs tl, Keeps s.heap h' → Made s.heap h' ((l, listOf (List.toArray vs) c) :: tl) → (∀ p ∈ tl, p.1 ≠ l) → vs.length = (keysFrom (total.fmod 4).toNat (total.fdiv 4)).length → (∀ (k : Nat) v q, vs[k]? = some v → (keysFrom (total.fmod 4).toNat (total.fdiv 4))[k]? = some q → KeyIn tl v q) → R (.ok (.ret (.ref l))) {s with heap := h', toks := tk'}) :
  codeAny (model prog w) (callerA.deeper env1) (.call (.ref 56) ⟨[.int total tt], []⟩) R s := by
  refine' call_def0 (binds := [(Str.ofString "total", .int total tt)]) X T.nolimit ?k6 ?k7 ?k8 ?k9 ?kB ?_ ?c2 ?c3 ?c4 ?c5; (case k6 => k_is); (case k7 => k_is); (case k8 => k_room); (case k9 => exact BindsTo.of_eq rfl);  (case kB => exact locs rfl); (case c5 => decide); (case c2 => exact rfl); (case c3 => exact rfl); (case c4 => exact rfl)
  intro L' h' F'
  generalize hh0 : s.heap = h₀ at *
  have N' : News h₀ L' h' [] := News.nil
  iterate 6 walk1
  rename Addr => l
  iterate 8 walk1
  refine wpAny_execs_cons (wpAny_For ?_)
  iterate 9 walk1
  rename Fr _ _ _ _ => F₁
  rename News _ _ _ _ => N₁
  have hm0 := Int.fmod_nonneg_of_pos total (b := 4) (by decide)
  have hm1 := Int.fmod_lt_of_pos total (b := 4) (by decide)
  refine' for_upto (h₀ := h₀) (n := (total.fmod 4).toNat) rfl (by omega) (by omega) F₁ N₁ (fun i m nx => ∃ (vs : List Value) (c : Nat) (tl : List (Addr × Obj)) (ksd : List (Nat × Int)) (left : Int) (tk : Tok), nx = (l, listOf vs.toArray c) :: tl ∧ (∀ p ∈ tl, p.1 ≠ l) ∧ vs.length = i ∧ ksd.length = i ∧ (∀ (k : Nat) v q, vs[k]? = some v → ksd[k]? = some q → KeyIn tl v q) ∧ keysFrom (total.fmod 4).toNat (total.fdiv 4) = ksd ++ keysFrom ((total.fmod 4).toNat - i) left ∧ m (Str.ofString "left") = some (.int left tk) ∧ m (Str.ofString "keys") = some (.ref l)) ?hJ (fun _ _ => rfl) ?ht ?hd
  case hJ => exact ⟨[], _, [], [], _, _, rfl, (fun _ hp => (nomatch hp)), rfl, rfl, (fun _ _ _ e => by simp at e), rfl, rfl, rfl⟩
  case ht =>
    rintro i ti m₁ nx g tk I oI hi ⟨vs, c, tl, ksd, left, tk', rfl, htl, hvl, hkl, hvs, hks, e1, e2⟩ F₂ N₂ hn₂
    have hIl : l ≠ I := hn₂ _ (List.mem_cons_self ..)
    refine wpAny_assign_Name ?_
    have F₃ := frPins [(Str.ofString "left", .int left tk'), (Str.ofString "keys", .ref l)] F₂ (by simp [e1, e2])
    clear F₂ F₁ N₁
    walk
    rename Fr _ _ _ _ => F₄
    rename News _ _ _ _ => N₄
    rename _ ∧ _ => hlt
    obtain ⟨hDI, hDl, hDt⟩ := hlt
    rename Nat => D
    obtain ⟨ob, hob, N₄⟩ := news_head N₄
    refine append_K F₄ N₄ (.tail (Nat.ne_of_gt hDl) (.tail (fun e => hIl e.symm) (.head htl))) (fun h₉ F₉ N₉ => ?_) (by rw [List.size_toArray, sizeLine_eq]; omega)
    rw [List.push_toArray] at N₉
    walk
    rename Fr _ _ _ _ => Fz
    rename News _ _ _ _ => Nz
    have q0 := Int.fmod_nonneg_of_pos left (b := 3) (by decide)
    have q1 := Int.fmod_lt_of_pos left (b := 3) (by decide)
    have q2 := Int.fmod_nonneg_of_pos (left.fdiv 3) (b := 2) (by decide)
    have q3 := Int.fmod_lt_of_pos (left.fdiv 3) (b := 2) (by decide)
    have hstep : (total.fmod 4).toNat - i = ((total.fmod 4).toNat - (i + 1)) + 1 := by omega
    rw [hstep, keysFrom] at hks
    have hcast : ((left.fmod 3).toNat : Int) = left.fmod 3 := Int.toNat_of_nonneg q0
    refine ⟨_, _, _, (l, listOf (vs ++ [Value.ref D]).toArray (c + 1)) :: (D, ob) :: tl, rfl, Fz, ?_, ?_, vs ++ [.ref D], c + 1, (D, ob) :: tl, ksd ++ [((left.fmod 3).toNat, 1 - ((left.fdiv 3).fmod 2) * 2)], left.fdiv 6, _, rfl, ?_, ?_, ?_, ?_, ?_, rfl, rfl⟩
    · intro p hp
      refine Nz p ?_
      simp only [List.mem_cons] at hp ⊢
      rcases hp with rfl | rfl | rfl | hp
      · simp
      · simp
      · simp
      · simp [hp]
    · intro p hp
      rcases List.mem_cons.mp hp with rfl | hp
      · exact hIl
      · rcases List.mem_cons.mp hp with rfl | hp
        · exact Nat.ne_of_gt hDI
        · exact hn₂ p (List.mem_cons_of_mem _ hp)
    · intro p hp
      rcases List.mem_cons.mp hp with rfl | hp
      · exact Nat.ne_of_gt hDl
      · exact htl p hp
    · simp [hvl]
    · simp [hkl]
    · intro k v q hv hq
      by_cases hk : k < i
      · rw [List.getElem?_append_left (by omega)] at hv hq
        obtain ⟨a, t1, t2, n, e, hm, r⟩ := hvs k v q hv hq
        exact ⟨a, t1, t2, n, e, List.mem_cons_of_mem _ hm, r⟩
      · have hk' : k = i := by
          have := (List.getElem?_eq_some_iff.mp hv).1
          simp at this; omega
        subst hk'
        rw [List.getElem?_append_right (by omega), hvl, Nat.sub_self] at hv
        rw [List.getElem?_append_right (by omega), hkl, Nat.sub_self] at hq
        cases hv; cases hq
        have hob' : ∃ t1 t2 n, ob = ({ cls := .type "tuple", data := .seq [Value.int (((left.fmod 3).toNat : Nat) : Int) t1, Value.int (1 - ((left.fdiv 3).fmod 2) * 2) t2].toArray n } : Obj) := by rw [hcast]; exact ⟨_, _, _, hob⟩
        obtain ⟨t1, t2, n, hob'⟩ := hob'
        exact ⟨D, t1, t2, n, rfl, hob' ▸ List.mem_cons_self .., by show (left.fmod 3).toNat < 3; omega, by show _ - _ = _ ∨ _ - _ = _; omega⟩
    · rw [hks]; simp
  case hd =>
    rintro m₂ nx g₂ tk ⟨vs, c, tl, ksd, left, tk', rfl, htl, hvl, hkl, hvs, hks, e1, e2⟩ F₅ N₅
    have F₆ := frPins [(Str.ofString "keys", .ref l)] F₅ (by simp [e2])
    clear F₅
    show wpAny _ _ _ _ _ _
    walk
    have hn : (total.fmod 4).toNat - (total.fmod 4).toNat = 0 := Nat.sub_self _
    rw [hn, keysFrom, List.append_nil] at hks
    exact h _ _ l c vs tl F₆.keep (Made.of_news N₅) htl (by rw [hks, hvl, hkl]) (by rw [hks]; exact hvs)
/-- the keys of a ledger, read in the heap -/
theorem keysAt_of {h : Heap} {l : Addr} {c : Nat} {vs : List Value} {tl : List (Addr × Obj)} {ks : List (Nat × Int)} (hl : h.get? l = some (listOf vs.toArray c)) (ht : ∀ p ∈ tl, h.get? p.1 = some p.2) (hn : vs.length = ks.length) (hk : ∀ (k : Nat) v q, vs[k]? = some v → ks[k]? = some q → KeyIn tl v q) : KeysAt h l ks :=
  ⟨vs, ⟨_, hl, rfl, _, rfl⟩, hn, fun k v q hv hq => by
    obtain ⟨a, t1, t2, n, rfl, hm, hc, hd⟩ := hk k v q hv hq
    exact ⟨a, t1, t2, rfl, isTup_of (ht _ hm), hc, hd⟩⟩
end Mine
namespace Mine
open PySem PySem.W PyProof.Rows PySem.Calls PySem.Spec
/-- the exchanges of one round -/
def roundCnt : List (Nat × Nat) → List Nat → Nat
  | [], _ => 0
  | (p, q) :: r, l => cnt p q l + roundCnt r (swp p q l)
/-- rounds until nothing changes -/
def settle : Nat → List (Nat × Nat) → List Nat → Nat → List Nat × Nat
  | 0, _, _, _ => ([], 0)
  | f + 1, W, l, k => if swpAll W l = l then (l, k + roundCnt W l) else settle f W (swpAll W l) (k + roundCnt W l)

theorem rev_two (p : Nat × Nat) (u : Tok) : Txt.sliceBy (twoStr p) none none (-1, u) = twoStr (p.2, p.1) :=
  Str.ext' (Array.toList_inj.mp (by rw [step_rev_list]; rfl))
theorem pairStrs_snoc : ∀ (W : List (Nat × Nat)) (p : Nat × Nat), pairStrs (W ++ [p]) = pairStrs W ++ [twoStr p, twoStr (p.2, p.1)]
  | [], (_, _) => rfl
  | (_, _) :: r, p => by simp only [List.cons_append, pairStrs, pairStrs_snoc r p]
theorem pairStrs_len : ∀ W : List (Nat × Nat), (pairStrs W).length = 2 * W.length
  | [] => rfl
  | (_, _) :: r => by simp only [pairStrs, List.length_cons, pairStrs_len r]; omega
theorem swpAll_snoc : ∀ (V : List (Nat × Nat)) (p : Nat × Nat) (l : List Nat), swpAll (V ++ [p]) l = swp p.1 p.2 (swpAll V l)
  | [], (_, _), _ => rfl
  | (_, _) :: r, p, l => swpAll_snoc r p _
theorem roundCnt_snoc : ∀ (V : List (Nat × Nat)) (p : Nat × Nat) (l : List Nat), roundCnt (V ++ [p]) l = roundCnt V l + cnt p.1 p.2 (swpAll V l)
  | [], (_, _), _ => by simp [roundCnt, swpAll]
  | (a, b) :: r, p, l => by
    show cnt a b l + roundCnt (r ++ [p]) (swp a b l) = cnt a b l + roundCnt r (swp a b l) + _
    rw [roundCnt_snoc r p, Nat.add_assoc]; rfl
theorem swpAll_length : ∀ (V : List (Nat × Nat)) (l : List Nat), (swpAll V l).length = l.length
  | [], _ => rfl
  | (p, q) :: r, l => by show (swpAll r (swp p q l)).length = _; rw [swpAll_length r, swp_length p q _ _ (Nat.le_refl _)]
theorem settled_spec {prog : Program} {w : World} {mean : ExcName → Option Value} {mg mb : Str → Option Value} {env1 : Env} {s : Shared} {R : Result → Shared → Prop}
  (X : (hd.heap_39 w.params).In s.heap) (T : TopF mean mg mb s.heap)
  {text : Str} {tt : Tok} {wl : Addr} {wvs : List Value} {W : List (Nat × Nat)} (hwl : s.heap.IsList wl wvs.toArray) (hwv : StrsAre wvs (W.map twoStr)) (hW : ∀ p ∈ W, p.1 < 256 ∧ p.2 < 256) (hWl : W.length ≤ 50) (ht : text.length ≤ 100)
  (h : ∀ h' tk' a x t1 t2 n, Keeps s.heap h' → s.heap.get? a = none → h'.get? a = some { cls := .type "tuple", data := .seq [Value.str x t1, Value.int ((settle (text.length * text.length / 2 + 1) W text.cps.toList 0).2 : Nat) t2].toArray n } → x.cps.toList = (settle (text.length * text.length / 2 + 1) W text.cps.toList 0).1 → R (.ok (.ret (.ref a))) {s with heap := h', toks := tk'}) :
  codeAny (model prog w) (callerA.deeper env1) (.call (.ref 70) ⟨[.str text tt, .ref wl], []⟩) R s := by
  refine' call_def0 (binds := [(Str.ofString "text", .str text tt), (Str.ofString "wrong", .ref wl)]) X T.nolimit ?k6 ?k7 ?k8 ?k9 ?kB ?_ ?c2 ?c3 ?c4 ?c5; (case k6 => k_is); (case k7 => k_is); (case k8 => k_room); (case k9 => exact BindsTo.of_eq rfl);  (case kB => exact locs rfl); (case c5 => decide); (case c2 => exact rfl); (case c3 => exact rfl); (case c4 => exact rfl)
  intro L' h' F'
  generalize hh0 : s.heap = h₀ at *
  have N' : News h₀ L' h' [] := News.nil
  have hwn : wvs.length = W.length := by rw [hwv.length, List.length_map]
  have hwL : wl ≠ L' := fun e => by obtain ⟨o, q, _⟩ := hwl; have := Heap.lt_size q; rw [e] at this; exact absurd F'.above (Nat.not_le.mpr this)
  iterate 6 walk1
  rename Addr => pl
  refine wpAny_execs_cons (wpAny_For ?_)
  walk1
  rename Fr _ _ _ _ => F₁
  rename News _ _ _ _ => N₁
  refine' for_list (h₀ := h₀) rfl (hwl.at fun o e => F₁.keep _ _ e) hwL F₁ N₁ (fun i m nx => ∃ (vs : List Value) (c : Nat), nx = [(pl, listOf vs.toArray c)] ∧ StrsAre vs (pairStrs (W.take i)) ∧ m (Str.ofString "text") = some (.str text tt) ∧ m (Str.ofString "wrong") = some (.ref wl) ∧ m (Str.ofString "pairs") = some (.ref pl)) ?hJ ?hs ?ht ?hd
  case hJ => exact ⟨[], _, rfl, .nil, rfl, rfl, rfl⟩
  case hs => obtain ⟨o, q, _⟩ := hwl; exact .inl ⟨o, q⟩
  case ht =>
    rintro i v m₁ nx g tk I oI hv ⟨vs, c, rfl, hvs, e1, e2, e3⟩ F₂ N₂ hn₂ hit
    have hIl : pl ≠ I := hn₂ _ (List.mem_cons_self ..)
    have hi : i < W.length := by rw [← hwn]; have := (Array.getElem?_eq_some_iff.mp hv).1; simpa using this
    obtain ⟨y, ty, rfl, hy⟩ := hwv.item i v (by simpa using hv)
    have hy : y = twoStr W[i] := by simp [hi] at hy; exact hy.symm
    subst hy
    refine wpAny_pure (wpAny_assign_Name ?_)
    have F₃ := frPins [(Str.ofString "text", .str text tt), (Str.ofString "wrong", .ref wl), (Str.ofString "pairs", .ref pl)] F₂ (by simp [e1, e2, e3])
    clear F₂ F₁ N₁
    walk
    rename Fr _ _ _ _ => F₄
    rename News _ _ _ _ => N₄
    with_unfolding_all refine slice_strK_nn (by exact F₄) (by exact N₄) (by rfl) ?_ (hsz := by show 2 ≤ _; rw [sizeLine_eq]; omega)
    intro g₅ t₅ k₅ F₅ N₅
    rw [rev_two]
    clear F₃ F₄ N₄ N₂
    walk
    rename Fr _ _ _ _ => F₆
    rename News _ _ _ _ => N₆
    rename _ ∧ _ => hlt
    obtain ⟨hlI, hlp⟩ := hlt
    have hvl : vs.length = 2 * (W.take i).length := by rw [hvs.length, pairStrs_len]
    have hti : (W.take i).length = i := by rw [List.length_take]; omega
    refine kl_extend (l := vs ++ [Value.str (twoStr W[i]) ty, Value.str (twoStr (W[i].2, W[i].1)) t₅]) F₆ N₆ (List.mem_cons_self ..) rfl (by simp) (.tail (Nat.ne_of_gt hlp) (.tail (fun e => hIl e.symm) (.head (fun _ hp => (nomatch hp))))) ?_ (by rw [sizeLine_eq]; simp; omega) (by rw [sizeLine_eq]; simp; omega) (fun h₉ F₉ N₉ => ?_)
    · simp [Builtin.List.listTooLong]; rw [sizeLine_eq]; omega
    walk
    refine ⟨_, _, _, [(pl, listOf (vs ++ [Value.str (twoStr W[i]) ty, Value.str (twoStr (W[i].2, W[i].1)) t₅]).toArray (c + 1))], rfl, F₉, ?_, ?_, vs ++ [Value.str (twoStr W[i]) ty, Value.str (twoStr (W[i].2, W[i].1)) t₅], c + 1, rfl, ?_, rfl, rfl, rfl⟩
    · exact fun p hp => N₉ p (List.mem_cons_of_mem _ hp)
    · intro p hp; rw [List.mem_singleton.mp hp]; exact hIl
    · rw [List.take_add_one, List.getElem?_eq_getElem hi]
      show StrsAre _ (pairStrs (W.take i ++ [W[i]]))
      rw [pairStrs_snoc]
      exact hvs.append' (.cons _ _ (.cons _ _ .nil))
  case hd =>
    rintro m₂ nx g₂ tk ⟨vs, c, rfl, hvs, e1, e2, e3⟩ F₅ N₅
    have htw : W.take wvs.toArray.size = W := by rw [List.size_toArray, hwn, List.take_length]
    rw [htw] at hvs
    have F₆ := frPins [(Str.ofString "text", .str text tt), (Str.ofString "wrong", .ref wl), (Str.ofString "pairs", .ref pl)] F₅ (by simp [e1, e2, e3])
    clear F₅ F₁ N₁
    show wpAny _ _ _ _ _ _
    iterate 4 walk1
    refine wpAny_execs_cons (wpAny_For ?_)
    walk
    rename IsRange _ _ _ _ _ _ _ _ => hR
    rename Fr _ _ _ _ => F₇
    rename News _ _ _ _ => N₇
    have hfd : ((text.length : Int) * (text.length : Int)).fdiv 2 = ((text.length * text.length / 2 : Nat) : Int) := by
      rw [← Int.natCast_mul, Int.fdiv_eq_ediv_of_nonneg _ (by decide)]; rfl
    have hpr : text.length * text.length ≤ 100 * 100 := Nat.mul_le_mul ht ht
    rw [hfd] at hR
    generalize hN : text.length * text.length / 2 + 1 = NN at *
    have hNN : NN < 10000 := by omega
    have hNe : ((text.length * text.length / 2 : Nat) : Int) + 1 = (NN : Int) := by omega
    rw [hNe] at hR
    clear F₆ N₅
    refine' for_range (h₀ := h₀) (n := NN) rfl hR (small_one (by omega) (by omega) (by omega) (by omega)) (by rw [rangeSize_nat]; omega) F₇ N₇ (fun i m nx => nx = [(pl, listOf vs.toArray c)] ∧ ∃ (txt : Str) (t : Tok) (k : Nat) (tk : Tok), m (Str.ofString "text") = some (.str txt t) ∧ m (Str.ofString "turned") = some (.int (k : Int) tk) ∧ m (Str.ofString "wrong") = some (.ref wl) ∧ m (Str.ofString "pairs") = some (.ref pl) ∧ txt.length = text.length ∧ settle NN W text.cps.toList 0 = settle (NN - i) W txt.cps.toList k) ?hJ2 (fun _ _ => rfl) ?ht2 ?hd2
    case hJ2 => exact ⟨rfl, text, tt, 0, _, rfl, rfl, rfl, rfl, rfl, rfl⟩
    case ht2 =>
      rintro i ti m₁ nx g tk I oI hi ⟨rfl, txt, t, k, tk', e1, e2, e3, e4, e5, e6⟩ F₂ N₂ hn₂
      have hIl : pl ≠ I := hn₂ _ (List.mem_cons_self ..)
      refine wpAny_assign_Name ?_
      have F₃ := frPins [(Str.ofString "text", .str txt t), (Str.ofString "turned", .int (k : Int) tk'), (Str.ofString "wrong", .ref wl), (Str.ofString "pairs", .ref pl)] F₂ (by simp [e1, e2, e3, e4])
      clear F₂ F₇ N₇ hR
      iterate 6 walk1
      refine wpAny_execs_cons (wpAny_For ?_)
      walk1
      rename Fr _ _ _ _ => F₄
      rename News _ _ _ _ => N₄
      clear F₃ N₂
      refine' for_list (h₀ := h₀) rfl (hwl.at fun o e => F₄.keep _ _ e) hwL F₄ N₄ (fun j m nx => nx = [(I, oI), (pl, listOf vs.toArray c)] ∧ ∃ (st : Str) (t5 t6 : Tok), m (Str.ofString "step") = some (.str st t5) ∧ m (Str.ofString "turned") = some (.int ((k + roundCnt (W.take j) txt.cps.toList : Nat) : Int) t6) ∧ m (Str.ofString "text") = some (.str txt t) ∧ m (Str.ofString "wrong") = some (.ref wl) ∧ m (Str.ofString "pairs") = some (.ref pl) ∧ st.cps.toList = swpAll (W.take j) txt.cps.toList) ?hJ3 ?hs3 ?ht3 ?hd3
      case hJ3 => exact ⟨rfl, txt, t, tk', rfl, rfl, rfl, rfl, rfl, rfl⟩
      case hs3 => obtain ⟨o, q, _⟩ := hwl; exact .inl ⟨o, q⟩
      case ht3 =>
        rintro j v m₃ nx g₃ tk₃ I₃ oI₃ hv ⟨rfl, st, t5, t6, f1, f2, f3, f4, f5, f6⟩ F₅ N₅ hn₅ hit
        have hj : j < W.length := by rw [← hwn]; have := (Array.getElem?_eq_some_iff.mp hv).1; simpa using this
        obtain ⟨y, ty, rfl, hy⟩ := hwv.item j v (by simpa using hv)
        have hy : y = twoStr W[j] := by simp [hj] at hy; exact hy.symm
        subst hy
        refine wpAny_pure (wpAny_assign_Name ?_)
        have F₆ := frPins [(Str.ofString "step", .str st t5), (Str.ofString "turned", .int ((k + roundCnt (W.take j) txt.cps.toList : Nat) : Int) t6), (Str.ofString "text", .str txt t), (Str.ofString "wrong", .ref wl), (Str.ofString "pairs", .ref pl)] F₅ (by simp [f1, f2, f3, f4, f5])
        clear F₅ F₄ N₄
        walk
        rename Fr _ _ _ _ => F₇
        rename News _ _ _ _ => N₇
        with_unfolding_all refine slice_strK_nn (by exact F₇) (by exact N₇) (by rfl) ?_ (hsz := by show 2 ≤ _; rw [sizeLine_eq]; omega)
        intro g₈ t₈ k₈ F₈ N₈
        rw [rev_two]
        clear F₆ F₇ N₇ N₅
        dsimp only
        walk
        have hwj := hW W[j] (List.getElem_mem hj)
        have hstl : st.length = txt.length := by
          have := congrArg List.length f6
          rw [swpAll_length] at this
          simpa [Str.length] using this
        refine wpAny_call (replace_spec (W := [W[j]]) (X.keeps F₈.keep) (T.keeps F₈.keep) (by simp) (.cons (twoStr W[j]) _ (.cons _ _ .nil)) (by simp; exact hwj) (by omega) ?_)
        intro h₉ tk₉ t₉ x₉ k₉ hx₉
        have F₉ := frKeeps k₉ F₈
        have N₉ := newsKeeps k₉ N₈
        have hx9l : x₉.length = txt.length := by
          have := congrArg List.length hx₉
          rw [swpAll_length] at this
          rw [← hstl]
          simpa [Str.length] using this
        clear F₈ N₈
        dsimp only
        have htj : W.take (j + 1) = W.take j ++ [W[j]] := by rw [List.take_add_one, List.getElem?_eq_getElem hj]; rfl
        have hcnt : Txt.count st (twoStr W[j]) = ((cnt W[j].1 W[j].2 (swpAll (W.take j) txt.cps.toList) : Nat) : Int) := by rw [← f6]; exact count_eq st W[j].1 W[j].2
        have hsum : ((k + roundCnt (W.take j) txt.cps.toList : Nat) : Int) + Txt.count st (twoStr W[j]) = ((k + roundCnt (W.take (j + 1)) txt.cps.toList : Nat) : Int) := by
          rw [hcnt, htj, roundCnt_snoc, ← Int.natCast_add, Nat.add_assoc]
        walk
        · rename _ ≠ _ => hne
          exact absurd (by rw [hx9l]) hne
        · rename Fr _ _ _ _ => Fz
          rename News _ _ _ _ => Nz
          rw [hsum] at Fz
          refine ⟨_, _, _, _, rfl, Fz, Nz, hn₅, rfl, x₉, _, _, rfl, rfl, rfl, rfl, rfl, ?_⟩
          rw [hx₉, htj, swpAll_snoc, ← f6]; rfl
      case hd3 =>
        rintro m₃ nx g₃ tk₃ ⟨rfl, st, t5, t6, f1, f2, f3, f4, f5, f6⟩ F₅ N₅
        rw [htw] at f2 f6
        have F₆ := frPins [(Str.ofString "step", .str st t5), (Str.ofString "turned", .int ((k + roundCnt W txt.cps.toList : Nat) : Int) t6), (Str.ofString "text", .str txt t), (Str.ofString "wrong", .ref wl), (Str.ofString "pairs", .ref pl)] F₅ (by simp [f1, f2, f3, f4, f5])
        clear F₅ F₄ N₄
        have hvl : vs.length = 2 * W.length := by rw [hvs.length, pairStrs_len]
        show wpAny _ _ _ _ _ _
        walk
        refine star_seq F₆ N₅ (List.mem_cons_of_mem _ (List.mem_cons_self ..)) rfl rfl (.inl rfl) (List.toList_toArray) (by rw [List.size_toArray, sizeLine_eq]; omega) (fun g₇ F₇ N₇ => ?_)
        clear F₆ N₅
        walk
        rw [List.append_nil]
        refine wpAny_call (replace_spec (W := W) (X.keeps F₇.keep) (T.keeps F₇.keep) (by omega) hvs hW (by omega) ?_)
        intro h₉ tk₉ t₉ x₉ k₉ hx₉
        have F₉ := frKeeps k₉ F₇
        have N₉ := newsKeeps k₉ N₇
        have hxs : x₉ = st := Str.ext' (Array.toList_inj.mp (by rw [hx₉, f6]))
        subst hxs
        clear F₇ N₇
        dsimp only
        have hst : settle (NN - i) W txt.cps.toList k = if swpAll W txt.cps.toList = txt.cps.toList then (txt.cps.toList, k + roundCnt W txt.cps.toList) else settle (NN - (i + 1)) W (swpAll W txt.cps.toList) (k + roundCnt W txt.cps.toList) := by
          rw [show NN - i = (NN - (i + 1)) + 1 by omega]; rfl
        walk
        · rename (x₉ != x₉) = true => hne
          exact absurd hne (by simp)
        · rename (x₉ == txt) = true => heq
          rename Fr _ _ _ _ => Fz
          rename News _ _ _ _ => Nz
          have heq : x₉ = txt := by simpa using heq
          subst heq
          rw [if_pos f6.symm] at hst
          rw [e6, hst] at h
          exact h _ _ _ _ _ _ _ Fz.keep (Nz _ (List.mem_cons_self ..)).2.2 (Nz _ (List.mem_cons_self ..)).1 rfl
        · rename (x₉ == txt) = false => hne
          rename Fr _ _ _ _ => Fz
          rename News _ _ _ _ => Nz
          have hne : swpAll W txt.cps.toList ≠ txt.cps.toList := fun e => by
            have : x₉ = txt := Str.ext' (Array.toList_inj.mp (by rw [f6, e]))
            simp [this] at hne
          rw [if_neg hne] at hst
          refine ⟨_, _, _, _, rfl, Fz, Nz, hn₂, rfl, x₉, _, k + roundCnt W txt.cps.toList, _, rfl, rfl, rfl, rfl, ?_, ?_⟩
          · have := congrArg List.length f6
            rw [swpAll_length] at this
            rw [← e5]; simpa [Str.length] using this
          · rw [e6, hst, f6]
    case hd2 =>
      rintro m₁ nx g tk ⟨rfl, txt, t, k, tk', e1, e2, e3, e4, e5, e6⟩ F₂ N₂
      have hz : NN - NN = 0 := Nat.sub_self _
      rw [hz, settle] at e6
      have F₃ := frPins [(Str.ofString "text", .str txt t)] F₂ (by simp [e1])
      clear F₂ F₇ N₇
      show wpAny _ _ _ _ _ _
      walk
      rename Fr _ _ _ _ => F₄
      rename News _ _ _ _ => N₄
      rw [e6] at h
      refine h _ _ _ _ _ _ _ F₄.keep (N₄ _ (List.mem_cons_self ..)).2.2 (N₄ _ (List.mem_cons_self ..)).1 rfl
end Mine
namespace Mine
open PySem PySem.W PyProof.Rows PySem.Calls PySem.Spec PyProof.Rows.LCg
section
variable {prog : Program} {w : World} {A : Around} {E : Value → Shared → Prop} {s : Shared} {h₀ : Heap} {L : Addr} {m : Str → Option Value} {env : Env}

theorem compEnd_mono {s₁ : Shared} {I C D : Addr} {oI oC oD : Obj} {S : List (Addr × Obj) → Prop} {r r' : Value → List (Addr × Obj) → Prop} {y : Value} {s₂ : Shared} (h : CompEnd h₀ L m s₁ I oI C oC D oD S r y s₂) (hr : ∀ y n, S n → r y n → r' y n) :
    CompEnd h₀ L m s₁ I oI C oC D oD S r' y s₂ := by
  obtain ⟨h', tk, nw, e, F, N, off, hS, q⟩ := h
  exact ⟨h', tk, nw, e, F, N, off, hS, hr _ _ hS q⟩

/-- a comprehension by what holds between its turns -/
theorem compRest_of {elt : Expr} {x : Str} {scope : Scope} {cl : List (Str × Addr)} {S : List (Addr × Obj) → Prop} {P : Nat → Value → Prop} {Fin : List Value → List (Addr × Obj) → Prop} {n : Nat}
    (Inv : Nat → List Value → List (Addr × Obj) → Prop)
    (step : ∀ i ys news v I oI C oC D m₂ h tk, i < n → P i v → Inv i ys news → NsObj oC m₂ → m₂ x = some v → Fr h₀ L h m → News h₀ L h ((I, oI) :: (C, oC) :: (D, lst ys) :: news) → Off3 I C D news → ((@Ne Nat I C) ∧ (@Ne Nat I D) ∧ (@Ne Nat C D)) →
      wpAny (model prog w) A (eval elt (compEnvC scope cl C env)) (CompEnd h₀ L m { s with heap := h, toks := tk } I oI C oC D (lst ys) S (fun y news' => Inv (i + 1) (ys ++ [y]) news')) (fun _ _ => False) { s with heap := h, toks := tk })
    (fin : ∀ ys news, Inv n ys news → Fin ys news) :
    ∀ k i ys news, i + k = n → Inv i ys news → CompRest prog w A h₀ L m env elt x scope cl s S P Fin k i ys news := by
  intro k
  induction k with
  | zero => intro i ys news hi hI; have : i = n := by omega
            subst this; exact fin ys news hI
  | succ k ih =>
    intro i ys news hi hI v I oI C oC D m₂ h tk E' hP hns hx F N off ne
    refine wpAny_mono (step i ys news v I oI C oC D m₂ h tk (by omega) hP hI hns hx F N off ne) (fun y s₂ q => ?_) fun _ _ q => q.elim
    exact compEnd_mono q fun y nw _ q' => ih (i + 1) _ nw (by omega) q'

theorem comp_local {M : Model} {news : List (Addr × Obj)} {C : Addr} {oC : Obj} {m₂ : Str → Option Value} {scope : Scope} {cl : List (Str × Addr)} {x : Str} {pos : Pos} {v : Value} {Q : Value → Shared → Prop} (N : News h₀ L s.heap news) (hC : (C, oC) ∈ news) (hns : NsObj oC m₂) (hx : m₂ x = some v) (h : Q v s)
    (hk : (compEnvC scope cl C env).scope.kind = .function := by rfl) (hl : (compEnvC scope cl C env).kindOf x = some .local := by rfl) (hd : (x == ("__debug__" : Str)) = false := by decide) :
    wpAny M A (eval (.Name x pos) (compEnvC scope cl C env)) Q E s := wpAny_Name (wpAny_loadName_local hk hl (hns.ns (N _ hC).1) hx h) hd
theorem off1_of {D : Addr} : ∀ {l : List (Addr × Obj)}, Off1 D l → ∀ p ∈ l, p.1 ≠ D
  | [], _, _, h => nomatch h
  | _ :: _, x, p, h => by
    rcases List.mem_cons.mp h with rfl | h
    · exact x.1
    · exact off1_of x.2 p h
/-- a comprehension over the signs of a text -/
theorem ListComp_S {elt : Expr} {x : Str} {px : Pos} {iter : Expr} {scope : Scope} {cl : List (Str × Addr)} {pos : Pos} {Q : Value → Shared → Prop}
    (hclos : closureFor scope env = pure cl) (hcell : ∀ y ∈ scope.names, y.2 ≠ .cell) (hkind : scope.kind = .function)
    (hnames : ∀ y ∈ scope.names, y.2 = .local → scope.names.lookup y.1 = some .local) (hx : scope.names.lookup x = some .local)
    (h : wpAny (model prog w) A (eval iter env) (fun xv s₁ => ∃ z t news, xv = .str z t ∧ A.handled = none ∧ Fr h₀ L s₁.heap m ∧ News h₀ L s₁.heap news ∧ z.cps.size ≤ sizeLine ∧ z.cps.all (· < 128) = true ∧
      ∀ s₂ : Shared, (∃ h, s₂ = { s₁ with heap := h }) → CompRest prog w A h₀ L m env elt x scope cl s₂ (fun _ => True) (SignAt z) (FinE h₀ L m s₂ Q) z.cps.size 0 [] news) E s)
    (hs : ∀ x, foldedSetIterable iter env x = pure x := by intro _; rfl) :
    wpAny (model prog w) A (eval (.ListComp elt [⟨.Name x px, iter, [], 0⟩] scope pos) env) Q E s := by
  rw [eval_ListComp]
  refine wpAny_comprehension_free (use := none) rfl hs hclos hkind hnames (wpAny_mono h (fun xv s₁ h₁ => ?_) fun _ _ e => e)
  obtain ⟨z, t, news, rfl, hh, F, N, hsz, has, R⟩ := h₁
  refine wpAny_pyIter_ascii has ?_
  have up : ∀ o b o', s₁.heap.get? b = some o' → (s₁.heap.push o).get? b = some o' := fun o b o' e => Heap.get?_push_of_some _ e
  refine block_U (Walks.strAscii hh s₁.heap.objs.size z t) hsz (fun i h st => by obtain ⟨o, e, _⟩ := st; exact ⟨o, e⟩) ?_ hcell hkind hx ⟨_, Heap.get?_push_size _ rfl, rfl, rfl⟩ (fun b hb => ?_)
    (F.keeps (up _)) (N.grown (up _)) (Nat.ne_of_lt F.ns.lt) (next_is_new F) (fun p hp => Nat.ne_of_lt (Heap.lt_size (N p hp).1)) trivial (R _ ⟨_, rfl⟩) ?_
  · rintro i h h' o nw ⟨o', q, r⟩ e e' _ _ _
    rw [e] at q; cases q; exact ⟨o, e', r⟩
  · rw [List.mem_singleton.mp hb]
    show s₁.heap.objs.size < (s₁.heap.push _).objs.size
    rw [Heap.size_push]; exact Nat.lt_succ_self _
  · intro D C h tk m' ys news' F' N' o1 hn hC₀ hD₀ hCL hDL hCD offC fin
    refine ⟨m', hn, fun h'' hs'' => fin D h'' tk (F'.change hs'' hCL hC₀) (fun p hp => ?_) o1⟩
    refine ⟨hs''.extBut _ _ ?_ (N' p hp).1, (N' p hp).2⟩
    rcases List.mem_cons.mp hp with rfl | hp
    · exact Ne.symm hCD
    · exact offC p hp
end
end Mine
namespace Mine
open PySem PySem.W PyProof.Rows PySem.Calls PySem.Spec
/-- a call of a def of the top with cells, its ground the caller's whole heap -/
theorem call_defC0 {prog : Program} {w : World} {A : Around} {R : Result → Shared → Prop} {s : Shared} {K : Frag} {name : Str} {params : Arguments} {body : List Stmt} {scope : Scope} {doc pm cdv oc : Value} {od : Option Addr} {osl : Array (Option Value)} {f : Addr} {args : List Value} {binds : List (Str × Value)}
    (X : K.In s.heap) (hlim : s.heap.NoLimit)
    (ho : K.lookup f = some ⟨oc, od, .func (fnOf name name params body scope .none .none doc pm none cdv .none), osl⟩) (hcd : codeIn K cdv name = true) (hroom : A.depth < recursionLimit)
    (hbind : bindArgs (fnOf name name params body scope .none .none doc pm none cdv .none) ⟨args, []⟩ = pure binds)
    (hkind : (binds.all fun y => scope.names.lookup y.1 == some .local || scope.names.lookup y.1 == some .cell) = true) (hnd : ((cellsFrom 0 scope.names []).map (·.1)).Nodup)
    (h : ∀ h₁ tk cells, Fr s.heap s.heap.objs.size h₁ (bindL (envOfC name scope s.heap.objs.size f cdv).kindOf binds fun _ => none) → News s.heap s.heap.objs.size h₁ cells →
      CellsAre (bindC (envOfC name scope s.heap.objs.size f cdv).kindOf binds fun _ => none) (cellsFrom (s.heap.objs.size + 1) scope.names []) cells →
      wpAny (model prog w) (A.deeper (envOfC name scope s.heap.objs.size f cdv)) (execs body (envOfC name scope s.heap.objs.size f cdv))
        (fun f s' => R (.ok (.ret (match f with | .ret v => v | _ => .none))) s') (fun _ _ => False) { s with heap := h₁, toks := tk })
    (hco : scope.isCoroutine = false) (hgen : scope.isGenerator = false) (hk : scope.kind = .function) : codeAny (model prog w) A (.call (.ref f) ⟨args, []⟩) R s :=
  call_cellsN_ret hroom (X _ _ ho) rfl hlim (codeRec_of X hcd) hbind (kindsX hkind _) hnd h hco hgen hk
end Mine
namespace Mine
open PySem PySem.W PyProof.Rows PySem.Calls PySem.Spec PyProof.Rows.LCg
abbrev dueScope : Scope := { kind := ScopeKind.function, names := [(Str.ofString "text", NameKind.local), (Str.ofString "marks", NameKind.cell), (Str.ofString "stretches", NameKind.local), (Str.ofString "wrong", NameKind.local), (Str.ofString "stretch", NameKind.cell), (Str.ofString "row", NameKind.cell), (Str.ofString "order", NameKind.local), (Str.ofString "len", NameKind.globalImplicit), (Str.ofString "range", NameKind.globalImplicit), (Str.ofString "sorted", NameKind.globalImplicit)], isGenerator := false, isCoroutine := false, more := [(Str.ofString "fast", Const.str (Str.ofString "text")), (Str.ofString "fast", Const.str (Str.ofString "marks")), (Str.ofString "fast", Const.str (Str.ofString "stretches")), (Str.ofString "fast", Const.str (Str.ofString "wrong")), (Str.ofString "fast", Const.str (Str.ofString "stretch")), (Str.ofString "fast", Const.str (Str.ofString "letter")), (Str.ofString "fast", Const.str (Str.ofString "row")), (Str.ofString "fast", Const.str (Str.ofString "j")), (Str.ofString "fast", Const.str (Str.ofString "i")), (Str.ofString "fast", Const.str (Str.ofString "k")), (Str.ofString "fast", Const.str (Str.ofString "order")), (Str.ofString "fast", Const.str (Str.ofString "mark"))] }
abbrev dueEnv (L : Addr) : Env := envOfC (Str.ofString "_law_due") dueScope L 75 (Value.ref 74)

theorem find_abcde : ∀ i, i < 5 → Txt.find (Str.ofString "abcde") ⟨#[97 + i]⟩ = ((i : Nat) : Int) := by decide +kernel
section
variable {prog : Program} {w : World} {env1 : Env} {E : Value → Shared → Prop} {s : Shared} {h₀ : Heap} {L : Addr} {m : Str → Option Value} {news : List (Addr × Obj)} {mean : ExcName → Option Value} {mg mb : Str → Option Value}
theorem row_comp {p1 p2 p4 p6 p7 p8 p9 : Pos} {q1 q2 q3 q4 q5 q6 : Nat} {om os : Obj} {ml : Addr} {mvs : List Value} {z : Str} {t : Tok} {Q : Value → Shared → Prop}
    (X : (hd.heap_39 w.params).In h₀) (F : Fr h₀ L s.heap m) (N : News h₀ L s.heap news) (hm : (L + 1, om) ∈ news) (hmd : om.data = .cell (some (.ref ml))) (hs : (L + 1 + 1, os) ∈ news) (hsd : os.data = .cell (some (.str z t)))
    (hl : h₀.IsList ml mvs.toArray) (hlen : mvs.length = 5) (hz : ∀ c ∈ z.cps.toList, 97 ≤ c ∧ c < 102) (hzl : z.length ≤ 50)
    (K : ∀ D h tk, Fr h₀ L h m → News h₀ L h ((D, lst (z.cps.toList.map fun c => mvs.getD (c - 97) .none)) :: news) → (∀ p ∈ news, p.1 ≠ D) → Q (.ref D) { s with heap := h, toks := tk }) :
    wpAny (model prog w) ((callerA.deeper env1).deeper (dueEnv L)) (eval (((Expr.Name (Str.ofString "marks") p1).Subscript (((Expr.Constant (Const.str (Str.ofString "abcde")) 0 p2).Attribute (Str.ofString "index") ⟨q1, q2, 59, q3⟩).Call [Expr.Name (Str.ofString "letter") p4] [] ⟨59, q4, q5, q6⟩) p6).ListComp [{ target := Expr.Name (Str.ofString "letter") p7, iter := Expr.Name (Str.ofString "stretch") p8, ifs := [], is_async := 0 }] { kind := ScopeKind.function, names := [(Str.ofString ".0", NameKind.local), (Str.ofString "letter", NameKind.local), (Str.ofString "marks", NameKind.free)], isGenerator := false, isCoroutine := false } p9) (dueEnv L)) Q E s := by
  refine ListComp_S (h₀ := h₀) (L := L) (m := m) (cl := [(Str.ofString "marks", L + 1)]) (by with_unfolding_all rfl) (by decide) (by rfl) (by decide) (by rfl) ?_
  refine nameX_C N rfl hs hsd ?_
  refine ⟨z, t, news, rfl, rfl, F, N, ?_, ?_, ?_⟩
  · show z.length ≤ _; rw [sizeLine_eq]; omega
  · rw [Array.all_eq_true]; intro i hi
    have := hz z.cps[i] (by simp)
    simp; omega
  rintro s₂ ⟨g, rfl⟩
  refine compRest_of (fun i ys nw => nw = news ∧ ys = (z.cps.toList.take i).map fun c => mvs.getD (c - 97) .none) ?_ ?_ _ 0 [] news (Nat.zero_add _) ⟨rfl, rfl⟩
  · rintro i ys nw v I oI C oC D m₂ g tk hi ⟨c, u, hc, rfl⟩ ⟨rfl, rfl⟩ hns hx F₁ N₁ off ne
    walk1; walk1
    refine lcf_cell N₁ rfl (List.mem_cons_of_mem _ (List.mem_cons_of_mem _ (List.mem_cons_of_mem _ hm))) hmd ?_ rfl rfl
    iterate 5 walk1
    refine comp_local N₁ (List.mem_cons_of_mem _ (List.mem_cons_self ..)) hns hx ?_
    have hcz := hz c (by rw [← Array.getElem?_toList] at hc; exact List.mem_of_getElem? hc)
    have hfi : Txt.find (Str.ofString "abcde") ⟨#[c]⟩ = ((c - 97 : Nat) : Int) := by
      have := find_abcde (c - 97) (by omega)
      rwa [show 97 + (c - 97) = c by omega] at this
    walk1
    refine index_or rfl (fun e => ?_) (fun _ _ => ?_)
    · rw [hfi] at e; omega
    rw [hfi]
    have hci : c - 97 < mvs.length := by omega
    refine item_litK (hl.at fun o e => F₁.keep _ _ e) (by omega) (by omega) (v := mvs.getD (c - 97) .none) (by simp [hci]) ?_
    refine CompEnd.intro F₁ N₁ nw (fun p hp => hp) off trivial ⟨rfl, ?_⟩
    have hc' : z.cps.toList[i]? = some c := by rw [Array.getElem?_toList]; exact hc
    rw [List.take_add_one, hc', List.map_append]; rfl
  · rintro ys nw ⟨rfl, rfl⟩ D g tk F₁ N₁ off
    have : z.cps.toList.take z.cps.size = z.cps.toList := List.take_of_length_le (by simp)
    rw [this] at N₁
    exact K D g tk F₁ N₁ (off1_of off)
end
end Mine
namespace Mine
open PySem PySem.W PyProof.Rows PySem.Calls PySem.Spec PyProof.Rows.LCg
/-- a list of ints in the ground -/
def MarkAt (h : Heap) (v : Value) (d : List Int) : Prop := ∃ a vs n, v = .ref a ∧ h.get? a = some { cls := .type "list", data := .seq (List.toArray vs) n } ∧ IntsAre vs d
/-- a list of ints among the made things -/
def MarkIn (tl : List (Addr × Obj)) (v : Value) (d : List Int) : Prop := ∃ a vs n, v = .ref a ∧ (a, ({ cls := .type "list", data := .seq (List.toArray vs) n } : Obj)) ∈ tl ∧ IntsAre vs d
theorem IntsAre.append2 : ∀ {vs ws : List Value} {ns ms : List Int}, IntsAre vs ns → IntsAre ws ms → IntsAre (vs ++ ws) (ns ++ ms)
  | _, _, _, _, .nil, h => h
  | _, _, _, _, .cons n t h, k => .cons n t (IntsAre.append2 h k)

section
variable {prog : Program} {w : World} {env1 : Env} {E : Value → Shared → Prop} {s : Shared} {h₀ : Heap} {L : Addr} {m : Str → Option Value} {news : List (Addr × Obj)} {mean : ExcName → Option Value} {mg mb : Str → Option Value}
theorem ord_comp {p1 p2 p3 p4 p5 p6 p7 p8 p9 p10 p11 p12 p13 : Pos} {or : Obj} {rl : Addr} {rvs : List Value} {rn : Nat} {ds : List (List Int)} {Q : Value → Shared → Prop}
    (X : (hd.heap_39 w.params).In h₀) (T : TopF mean mg mb h₀) (F : Fr h₀ L s.heap m) (N : News h₀ L s.heap news) (hr : (L + 1 + 1 + 1, or) ∈ news) (hrd : or.data = .cell (some (.ref rl)))
    (hl : (rl, ({ cls := .type "list", data := .seq rvs.toArray rn } : Obj)) ∈ news) (hlen : rvs.length = ds.length) (hds : ds.length ≤ 50) (hd3 : ∀ d ∈ ds, d.length ≤ 3)
    (hrv : ∀ (i : Nat) v d, rvs[i]? = some v → ds[i]? = some d → MarkAt h₀ v d)
    (K : ∀ D h tk ys tl, Fr h₀ L h m → News h₀ L h ((D, lst ys) :: (tl ++ news)) → (∀ p ∈ tl ++ news, p.1 ≠ D) → (∀ p ∈ tl, ∀ q ∈ news, p.1 ≠ q.1) → ys.length = ds.length → (∀ (i : Nat) y d, ys[i]? = some y → ds[i]? = some d → MarkIn tl y (d ++ [(i : Int)])) → Q (.ref D) { s with heap := h, toks := tk }) :
    wpAny (model prog w) ((callerA.deeper env1).deeper (dueEnv L)) (eval ((((Expr.Name (Str.ofString "row") p1).Subscript (Expr.Name (Str.ofString "k") p2) p3).BinOp Operator.Add (Expr.List [Expr.Name (Str.ofString "k") p4] p5) p6).ListComp [{ target := Expr.Name (Str.ofString "k") p7, iter := (Expr.Name (Str.ofString "range") p8).Call [(Expr.Name (Str.ofString "len") p9).Call [Expr.Name (Str.ofString "row") p10] [] p11] [] p12, ifs := [], is_async := 0 }] { kind := ScopeKind.function, names := [(Str.ofString ".0", NameKind.local), (Str.ofString "k", NameKind.local), (Str.ofString "row", NameKind.free)], isGenerator := false, isCoroutine := false } p13) (dueEnv L)) Q E s := by
  refine ListComp_U (h₀ := h₀) (L := L) (m := m) F (cl := [(Str.ofString "row", L + 1 + 1 + 1)]) (by with_unfolding_all rfl) (by decide) (by rfl) (by decide) (by rfl) ?_
  iterate 4 walk1
  iterate 4 walk1
  refine nameX_C N rfl hr hrd ?_
  iterate 1 walk1
  have hil : ∀ {g : Heap} {nw : List (Addr × Obj)}, News h₀ L g nw → (∀ p ∈ news, p ∈ nw) → g.IsList rl rvs.toArray := fun N' hs => ⟨_, (N' _ (hs _ hl)).1, rfl, _, rfl⟩
  refine len_list (hil N fun _ h => h) (by rw [List.size_toArray]; omega) ?_
  iterate 1 walk1
  refine range1_rows F N fun h₁ tk₁ t₁ u₁ v₁ hR F₁ N₁ _ => ?_
  refine CompSrc.range (n := ds.length) rfl F₁ N₁ hR (small_one (by omega) (by omega) (by omega) (by rw [List.size_toArray]; omega)) (by rw [rangeSize_nat, List.size_toArray]; omega) (by rw [sizeLine_eq]; omega) fun g => ?_
  refine compRest_of (fun i ys nw => ∃ tl, nw = tl ++ news ∧ ys.length = i ∧ (∀ p ∈ tl, ∀ q ∈ news, p.1 ≠ q.1) ∧ ∀ (k : Nat) y d, ys[k]? = some y → ds[k]? = some d → MarkIn tl y (d ++ [(k : Int)])) ?_ ?_ _ 0 [] news (Nat.zero_add _) ⟨[], rfl, rfl, (fun _ h => (nomatch h)), fun _ _ _ h => by simp at h⟩
  · rintro i ys nw v I oI C oC D m₂ g tk hi ⟨t, rfl⟩ ⟨tl, rfl, hyl, hap, hys⟩ hns hx F₂ N₂ off ne
    rw [Int.zero_add] at hx
    have up : ∀ p ∈ news, p ∈ (I, oI) :: (C, oC) :: (D, lst ys) :: (tl ++ news) := fun p h => List.mem_cons_of_mem _ (List.mem_cons_of_mem _ (List.mem_cons_of_mem _ (List.mem_append_right _ h)))
    have hir : i < rvs.length := by omega
    obtain ⟨a, avs, an, hav, hao, hai⟩ := hrv i rvs[i] ds[i] (List.getElem?_eq_getElem hir) (List.getElem?_eq_getElem hi)
    have hal : h₀.IsList a avs.toArray := ⟨_, hao, rfl, _, rfl⟩
    have hdl := hd3 ds[i] (List.getElem_mem hi)
    have hal' := hai.length
    iterate 2 walk1
    refine lcf_cell N₂ rfl (up _ hr) hrd ?_ rfl rfl
    refine comp_local N₂ (List.mem_cons_of_mem _ (List.mem_cons_self ..)) hns hx ?_
    refine item_litK (hil N₂ up) (by omega) (by omega) (v := rvs[i]) (by simp [hir]) ?_
    rw [hav]
    iterate 2 walk1
    refine comp_local N₂ (List.mem_cons_of_mem _ (List.mem_cons_self ..)) hns hx ?_
    walk1
    refine newList_N F₂ N₂ (fun g₃ F₃ N₃ => ?_) (by rw [sizeLine_eq]; show 1 ≤ _; omega)
    refine add_arrays F₃ N₃ (hal.at fun o e => F₃.keep _ _ e) ⟨_, (N₃ _ (List.mem_cons_self ..)).1, rfl, _, rfl⟩ (fun g₄ F₄ N₄ => ?_) (by simp; rw [sizeLine_eq]; omega)
    have lt3 : ∀ p ∈ (I, oI) :: (C, oC) :: (D, lst ys) :: (tl ++ news), p.1 < g₃.objs.size := fun p hp => Heap.lt_size (N₃ p (List.mem_cons_of_mem _ hp)).1
    refine CompEnd.intro F₄ N₄ ((g₃.objs.size, { cls := .type "list", data := .seq (avs.toArray.toList ++ [Value.int (i : Int) t].toArray.toList).toArray }) :: (tl ++ news)) ?_ ?_ trivial ⟨(g₃.objs.size, _) :: tl, rfl, by simp [hyl], ?_, ?_⟩
    · intro p hp
      rcases List.mem_cons.mp hp with rfl | hp
      · exact List.mem_cons_of_mem _ (List.mem_cons_of_mem _ (List.mem_cons_self ..))
      rcases List.mem_cons.mp hp with rfl | hp
      · exact List.mem_cons_of_mem _ (List.mem_cons_of_mem _ (List.mem_cons_of_mem _ (List.mem_cons_self ..)))
      rcases List.mem_cons.mp hp with rfl | hp
      · exact List.mem_cons_of_mem _ (List.mem_cons_of_mem _ (List.mem_cons_of_mem _ (List.mem_cons_of_mem _ (List.mem_cons_self ..))))
      rcases List.mem_cons.mp hp with rfl | hp
      · exact List.mem_cons_self ..
      · exact List.mem_cons_of_mem _ (List.mem_cons_of_mem _ (List.mem_cons_of_mem _ (List.mem_cons_of_mem _ (List.mem_cons_of_mem _ hp))))
    · refine Off3.of fun p hp => ?_
      rcases List.mem_cons.mp hp with rfl | hp
      · exact ⟨Nat.ne_of_gt (lt3 (I, oI) (by simp)), Nat.ne_of_gt (lt3 (C, oC) (by simp)), Nat.ne_of_gt (lt3 (D, lst ys) (by simp))⟩
      · exact off.mem p hp
    · intro p hp q hq
      rcases List.mem_cons.mp hp with rfl | hp
      · exact Nat.ne_of_gt (lt3 q (up q hq))
      · exact hap p hp q hq
    · intro k y d hy hd
      by_cases hk : k < i
      · rw [List.getElem?_append_left (by omega)] at hy
        obtain ⟨b, vs, n, e, hm, r⟩ := hys k y d hy hd
        exact ⟨b, vs, n, e, List.mem_cons_of_mem _ hm, r⟩
      · have hk' : k = i := by
          have := (List.getElem?_eq_some_iff.mp hy).1
          simp at this; omega
        subst hk'
        rw [List.getElem?_append_right (by omega), hyl, Nat.sub_self] at hy
        cases hy
        rw [List.getElem?_eq_getElem hi] at hd; cases hd
        refine ⟨g₃.objs.size, avs ++ [.int (k : Int) t], _, rfl, List.mem_cons_self .., IntsAre.append2 hai (.cons _ _ .nil)⟩
  · rintro ys nw ⟨tl, rfl, hyl, hap, hys⟩ D g tk F₂ N₂ off
    exact K D g tk ys tl F₂ N₂ (off1_of off) hap hyl hys
end
end Mine
namespace Mine
open PySem PySem.W PyProof.Rows PySem.Calls PySem.Spec
open AutoSeq1 (wpAny_loadPart')
/-- the order of lists of ints -/
def ltL : List Int → List Int → Bool
  | [], [] => false
  | [], _ :: _ => true
  | _ :: _, [] => false
  | x :: xs, y :: ys => if x = y then ltL xs ys else decide (x < y)
theorem rc_lt {prog : Program} {w : World} {A : Around} {E : Value → Shared → Prop} {s : Shared} {a b : Int} {t u : Tok} {Q : Value → Shared → Prop} (h : Q (.bool (decide (a < b))) s) : wpAny (model prog w) A (richCompare .Lt (.int a t) (.int b u)) Q E s := PyProof.Rows.lt_int h
theorem rc_gt {prog : Program} {w : World} {A : Around} {E : Value → Shared → Prop} {s : Shared} {a b : Int} {t u : Tok} {Q : Value → Shared → Prop} (h : Q (.bool (decide (a > b))) s) : wpAny (model prog w) A (richCompare .Gt (.int a t) (.int b u)) Q E s := PyProof.Rows.gt_int h

theorem lt_loop (l b : Addr) (vs us : List Value) (ns ms : List Int) (n n2 : Nat) (hi : IntsAre vs ns) (hj : IntsAre us ms) (k : Nat) :
    ∀ i : Nat, vs.length - i = k → Meets (Builtin.«list.__eq__.loop» ⟨[.ref l, .ref b, rawInt i, rawInt 0], []⟩)
      (fun _ R s => s.heap.get? l = some { cls := .type "list", dict := none, data := .seq vs.toArray n, slots := #[] } ∧ s.heap.get? b = some { cls := .type "list", dict := none, data := .seq us.toArray n2, slots := #[] } ∧
        i ≤ us.length ∧ i ≤ vs.length ∧ R (.ok (.ret (.bool (ltL (ns.drop i) (ms.drop i))))) s) := by
  have hvn := hi.length
  have hun := hj.length
  induction k with
  | zero =>
    intro i hk prog w A R s h
    obtain ⟨hp, g, d, tk, os⟩ := s; obtain ⟨hl, hb, hiu, hiv, h⟩ := h
    wp_walk using wpAny_loadPart' hl, wpAny_loadPart' hb
    have hi1 : vs.toArray[((i : Nat) : Int).toNat]? = none := by simp; omega
    rw [hi1]
    wp_walk using wpAny_loadPart' hl, wpAny_loadPart' hb
    show R (.ok (.ret (.bool (decide (vs.toArray.size < us.toArray.size))))) _
    have e1 : ns.drop i = [] := List.drop_eq_nil_of_le (by omega)
    rw [e1] at h
    have : ltL [] (ms.drop i) = decide (vs.toArray.size < us.toArray.size) := by
      cases hm : ms.drop i with
      | nil =>
        have := congrArg List.length hm; simp at this
        simp [ltL]; omega
      | cons a r =>
        have := congrArg List.length hm; simp at this
        simp [ltL]; omega
    rwa [this] at h
  | succ k ih =>
    intro i hk prog w A R s h
    obtain ⟨hp, g, d, tk, os⟩ := s; obtain ⟨hl, hb, hiu, hiv, h⟩ := h
    wp_walk using wpAny_loadPart' hl, wpAny_loadPart' hb
    have hlt : i < ns.length := by omega
    obtain ⟨t1, h1⟩ := hi.get i ns[i] (List.getElem?_eq_getElem hlt)
    have hi1 : vs.toArray[((i : Nat) : Int).toNat]? = some (.int ns[i] t1) := by simpa using h1
    have hd1 := List.drop_eq_getElem_cons hlt
    by_cases hlt2 : i < ms.length
    · obtain ⟨t2, h2⟩ := hj.get i ms[i] (List.getElem?_eq_getElem hlt2)
      have hi2 : us.toArray[((i : Nat) : Int).toNat]? = some (.int ms[i] t2) := by simpa using h2
      have hd2 := List.drop_eq_getElem_cons hlt2
      have hc : ((i : Int) + 1) = ((i + 1 : Nat) : Int) := by push_cast; rfl
      rw [hd1, hd2, ltL] at h
      rw [hi1, hi2]
      refine wpAny_bind (wpAny_eqBool_int ?_)
      by_cases he : ns[i] = ms[i]
      · rw [if_pos he] at h
        rw [show (ns[i] == ms[i]) = true by simpa using he]
        wp_walk
        rw [hc]
        exact ⟨plainId_quiet MeetsSeq3.plain_eq_loop _, codeAny_builtin MeetsSeq3.entry_eq_loop (by
          rw [Around.under_plainId MeetsSeq3.plain_eq_loop _]
          exact ih (i + 1) (by omega) prog w A R _ ⟨hl, hb, by omega, by omega, h⟩)⟩
      · rw [if_neg he] at h
        rw [show (ns[i] == ms[i]) = false by simpa using he]
        wp_walk using wpAny_loadPart' hl, wpAny_loadPart' hb
        rw [hi1, hi2]
        refine wpAny_bind (rc_lt ?_)
        exact wpAny_pure h
    · have hi2 : us.toArray[((i : Nat) : Int).toNat]? = none := by simp; omega
      rw [hi1, hi2]
      wp_walk using wpAny_loadPart' hl, wpAny_loadPart' hb
      show R (.ok (.ret (.bool (decide (vs.toArray.size < us.toArray.size))))) _
      have e2 : ms.drop i = [] := List.drop_eq_nil_of_le (by omega)
      rw [hd1, e2, ltL] at h
      have : decide (vs.toArray.size < us.toArray.size) = false := by simp; omega
      rwa [this]
theorem gt_loop (l b : Addr) (vs us : List Value) (ns ms : List Int) (n n2 : Nat) (hi : IntsAre vs ns) (hj : IntsAre us ms) (k : Nat) :
    ∀ i : Nat, vs.length - i = k → Meets (Builtin.«list.__eq__.loop» ⟨[.ref l, .ref b, rawInt i, rawInt 4], []⟩)
      (fun _ R s => s.heap.get? l = some { cls := .type "list", dict := none, data := .seq vs.toArray n, slots := #[] } ∧ s.heap.get? b = some { cls := .type "list", dict := none, data := .seq us.toArray n2, slots := #[] } ∧
        i ≤ us.length ∧ i ≤ vs.length ∧ R (.ok (.ret (.bool (ltL (ms.drop i) (ns.drop i))))) s) := by
  have hvn := hi.length
  have hun := hj.length
  induction k with
  | zero =>
    intro i hk prog w A R s h
    obtain ⟨hp, g, d, tk, os⟩ := s; obtain ⟨hl, hb, hiu, hiv, h⟩ := h
    wp_walk using wpAny_loadPart' hl, wpAny_loadPart' hb
    have hi1 : vs.toArray[((i : Nat) : Int).toNat]? = none := by simp; omega
    rw [hi1]
    wp_walk using wpAny_loadPart' hl, wpAny_loadPart' hb
    show R (.ok (.ret (.bool (decide (vs.toArray.size > us.toArray.size))))) _
    have e1 : ns.drop i = [] := List.drop_eq_nil_of_le (by omega)
    rw [e1] at h
    have : ltL (ms.drop i) [] = decide (vs.toArray.size > us.toArray.size) := by
      cases hm : ms.drop i with
      | nil =>
        have := congrArg List.length hm; simp at this
        simp [ltL]; omega
      | cons a r =>
        have := congrArg List.length hm; simp at this
        simp [ltL]; omega
    rwa [this] at h
  | succ k ih =>
    intro i hk prog w A R s h
    obtain ⟨hp, g, d, tk, os⟩ := s; obtain ⟨hl, hb, hiu, hiv, h⟩ := h
    wp_walk using wpAny_loadPart' hl, wpAny_loadPart' hb
    have hlt : i < ns.length := by omega
    obtain ⟨t1, h1⟩ := hi.get i ns[i] (List.getElem?_eq_getElem hlt)
    have hi1 : vs.toArray[((i : Nat) : Int).toNat]? = some (.int ns[i] t1) := by simpa using h1
    have hd1 := List.drop_eq_getElem_cons hlt
    by_cases hlt2 : i < ms.length
    · obtain ⟨t2, h2⟩ := hj.get i ms[i] (List.getElem?_eq_getElem hlt2)
      have hi2 : us.toArray[((i : Nat) : Int).toNat]? = some (.int ms[i] t2) := by simpa using h2
      have hd2 := List.drop_eq_getElem_cons hlt2
      have hc : ((i : Int) + 1) = ((i + 1 : Nat) : Int) := by push_cast; rfl
      rw [hd1, hd2, ltL] at h
      rw [hi1, hi2]
      refine wpAny_bind (wpAny_eqBool_int ?_)
      by_cases he : ns[i] = ms[i]
      · rw [if_pos he.symm] at h
        rw [show (ns[i] == ms[i]) = true by simpa using he]
        wp_walk
        rw [hc]
        exact ⟨plainId_quiet MeetsSeq3.plain_eq_loop _, codeAny_builtin MeetsSeq3.entry_eq_loop (by
          rw [Around.under_plainId MeetsSeq3.plain_eq_loop _]
          exact ih (i + 1) (by omega) prog w A R _ ⟨hl, hb, by omega, by omega, h⟩)⟩
      · rw [if_neg (fun e => he e.symm)] at h
        rw [show (ns[i] == ms[i]) = false by simpa using he]
        wp_walk using wpAny_loadPart' hl, wpAny_loadPart' hb
        rw [hi1, hi2]
        refine wpAny_bind (rc_gt ?_)
        exact wpAny_pure h
    · have hi2 : us.toArray[((i : Nat) : Int).toNat]? = none := by simp; omega
      rw [hi1, hi2]
      wp_walk using wpAny_loadPart' hl, wpAny_loadPart' hb
      show R (.ok (.ret (.bool (decide (vs.toArray.size > us.toArray.size))))) _
      have e2 : ms.drop i = [] := List.drop_eq_nil_of_le (by omega)
      rw [hd1, e2, ltL] at h
      have : decide (vs.toArray.size > us.toArray.size) = true := by simp; omega
      rwa [this]

theorem list_lt (l b : Addr) (vs us : List Value) (ns ms : List Int) (n n2 : Nat) (hi : IntsAre vs ns) (hj : IntsAre us ms) :
    Meets (Builtin.«list.__lt__» ⟨[.ref l, .ref b], []⟩)
      (fun _ R s => s.heap.get? l = some { cls := .type "list", dict := none, data := .seq vs.toArray n, slots := #[] } ∧ s.heap.get? b = some { cls := .type "list", dict := none, data := .seq us.toArray n2, slots := #[] } ∧
        R (.ok (.ret (.bool (ltL ns ms)))) s) := by
  intro prog w A R s h
  obtain ⟨hp, g, d, tk, os⟩ := s; obtain ⟨hl, hb, h⟩ := h
  have f3 := AutoSeq1.sub_list_list
  wp_walk using wpAny_loadPart' hl, wpAny_loadPart' hb
  exact ⟨plainId_quiet MeetsSeq3.plain_eq_loop _, codeAny_builtin MeetsSeq3.entry_eq_loop (by
    rw [Around.under_plainId MeetsSeq3.plain_eq_loop _]
    exact lt_loop l b vs us ns ms n n2 hi hj _ 0 rfl prog w A R _ ⟨hl, hb, Nat.zero_le _, Nat.zero_le _, by simpa using h⟩)⟩
theorem list_gt (l b : Addr) (vs us : List Value) (ns ms : List Int) (n n2 : Nat) (hi : IntsAre vs ns) (hj : IntsAre us ms) :
    Meets (Builtin.«list.__gt__» ⟨[.ref l, .ref b], []⟩)
      (fun _ R s => s.heap.get? l = some { cls := .type "list", dict := none, data := .seq vs.toArray n, slots := #[] } ∧ s.heap.get? b = some { cls := .type "list", dict := none, data := .seq us.toArray n2, slots := #[] } ∧
        R (.ok (.ret (.bool (ltL ms ns)))) s) := by
  intro prog w A R s h
  obtain ⟨hp, g, d, tk, os⟩ := s; obtain ⟨hl, hb, h⟩ := h
  have f3 := AutoSeq1.sub_list_list
  wp_walk using wpAny_loadPart' hl, wpAny_loadPart' hb
  exact ⟨plainId_quiet MeetsSeq3.plain_eq_loop _, codeAny_builtin MeetsSeq3.entry_eq_loop (by
    rw [Around.under_plainId MeetsSeq3.plain_eq_loop _]
    exact gt_loop l b vs us ns ms n n2 hi hj _ 0 rfl prog w A R _ ⟨hl, hb, Nat.zero_le _, Nat.zero_le _, by simpa using h⟩)⟩
section
variable {prog : Program} {w : World} {A : Around} {E : Value → Shared → Prop} {s : Shared} {Q : Value → Shared → Prop} {l b : Addr} {vs us : List Value} {ns ms : List Int} {n n2 : Nat}
theorem cmp_lt_lists (hl : s.heap.get? l = some { cls := .type "list", data := .seq vs.toArray n }) (hb : s.heap.get? b = some { cls := .type "list", data := .seq us.toArray n2 }) (hi : IntsAre vs ns) (hj : IntsAre us ms)
    (hu : A.units < cLine) (h : Q (.bool (ltL ns ms)) s) : wpAny (model prog w) A (compareOp .Lt (.ref l) (.ref b)) Q E s :=
  cmp_ofLt (richCompare_meets_room (T := "list") ⟨_, hl, rfl⟩ ⟨_, hb, rfl⟩ F.slot_list_lt F.entry_list_lt (F.args_list_lt_2 _ _) (list_lt l b vs us ns ms n n2 hi hj) ⟨hl, hb, (⟨(fun e => (nomatch e)), h⟩ : _ ∧ _)⟩ hu)
theorem cmp_gt_lists (hl : s.heap.get? l = some { cls := .type "list", data := .seq vs.toArray n }) (hb : s.heap.get? b = some { cls := .type "list", data := .seq us.toArray n2 }) (hi : IntsAre vs ns) (hj : IntsAre us ms)
    (hu : A.units < cLine) (h : Q (.bool (ltL ms ns)) s) : wpAny (model prog w) A (compareOp .Gt (.ref l) (.ref b)) Q E s :=
  cmp_ofGt (richCompare_meets_room (T := "list") ⟨_, hl, rfl⟩ ⟨_, hb, rfl⟩ F.slot_list_gt F.entry_list_gt (F.args_list_gt_2 _ _) (list_gt l b vs us ns ms n n2 hi hj) ⟨hl, hb, (⟨(fun e => (nomatch e)), h⟩ : _ ∧ _)⟩ hu)
end
end Mine
namespace Mine
open PySem PySem.W PyProof.Rows PySem.Calls PySem.Spec PyProof.Rows.LCg
abbrev none2 : Value → Shared → Prop := fun _ _ => False
section
variable {prog : Program} {w : World} {A : Around} {E : Value → Shared → Prop} {s : Shared} {R : Result → Shared → Prop}
theorem turn_two0 (elt t1 it1 t2 it2 : Expr) (ifs : List Expr) (scope : Scope) (pos : Pos) (it acc : Value) (env : Env) :
    compTurn (.ListComp elt [⟨t1, it1, [], 0⟩, ⟨t2, it2, ifs, 0⟩] scope pos) 0 it acc env = (do
      standAt it1.pos
      match ← pyNext it with
      | none => pure (.done .next)
      | some v =>
        letOwnedTupleGo t1 it v
        assign t1 env v
        let x ← eval it2 env
        standAt it2.pos
        let x ← foldedSetIterable it2 env x
        let _ ← runOwn (.compStart (.ListComp elt [⟨t1, it1, [], 0⟩, ⟨t2, it2, ifs, 0⟩] scope pos) 1 (← holding [x] (pyIter x)) acc env) env
        again (.compLoop (.ListComp elt [⟨t1, it1, [], 0⟩, ⟨t2, it2, ifs, 0⟩] scope pos) 0 it acc env)) := by rfl
theorem turn_two1 (elt t1 it1 t2 it2 : Expr) (ifs : List Expr) (scope : Scope) (pos : Pos) (it acc : Value) (env : Env) :
    compTurn (.ListComp elt [⟨t1, it1, [], 0⟩, ⟨t2, it2, ifs, 0⟩] scope pos) 1 it acc env = (do
      standAt it2.pos
      match ← pyNext it with
      | none => pure (.done .next)
      | some v =>
        letOwnedTupleGo t2 it v
        assign t2 env v
        let mut ok := true
        for c in ifs do
          if ok then ok ← isTrue c env (eval c env)
        if ok then
          (do let _ ← call (.builtin "list.append") [acc, ← eval elt env])
        again (.compLoop (.ListComp elt [⟨t1, it1, [], 0⟩, ⟨t2, it2, ifs, 0⟩] scope pos) 1 it acc env)) := by rfl

/-- the outer loop of two clauses -/
theorem loop_two0 {elt t1 it1 t2 it2 : Expr} {ifs : List Expr} {scope : Scope} {pos : Pos} {it acc : Value} {env : Env} (I : Nat → Shared → Prop)
    (turn : ∀ n s, I n s → wpAny (model prog w) A (pyNext it) (fun r s₁ => match r with
      | none => R (.ok .next) s₁
      | some v => wpAny (model prog w) A (assign t1 env v) (fun _ s₂ => wpAny (model prog w) A (eval it2 env) (fun x s₃ =>
          wpAny (model prog w) A (pyIter x) (fun i2 s₄ => codeAny (model prog w) A (.compStart (.ListComp elt [⟨t1, it1, [], 0⟩, ⟨t2, it2, ifs, 0⟩] scope pos) 1 i2 acc env) (fun r s₅ => ∃ f, r = .ok f ∧ ∃ m, m < n ∧ I m s₅) s₄) none2 s₃) none2 s₂) none2 s₁) none2 s)
    (n : Nat) (h : I n s) (ht : ∀ v, letOwnedTupleGo t1 it v = pure ()) (hs : ∀ x, foldedSetIterable it2 env x = pure x) (hm : A.mark none = A) :
    codeAny (model prog w) A (.compLoop (.ListComp elt [⟨t1, it1, [], 0⟩, ⟨t2, it2, ifs, 0⟩] scope pos) 0 it acc env) R s := by
  refine codeAny_loop rfl I (fun n s hI => ?_) n h
  show wpAny _ A ((compTurn (.ListComp elt [⟨t1, it1, [], 0⟩, ⟨t2, it2, ifs, 0⟩] scope pos) 0 it acc env).onRaise (fun x => do noteFrame x env; theTreesLotGoes x)) _ _ s
  refine wpAny_noted ?_
  rw [turn_two0]
  refine wpAny_bind (wpAny_standAt (wpAny_bind (wpAny_mono (turn n s hI) (fun r s₁ h₁ => ?_) fun _ _ h' => h'.elim)))
  cases r with
  | none => exact wpAny_pure h₁
  | some v =>
    refine wpAny_bind (wpAny_of_eq (ht v) ?_)
    refine wpAny_bind (wpAny_mono h₁ (fun _ s₂ h₂ => ?_) fun _ _ h' => h'.elim)
    refine wpAny_bind (wpAny_mono h₂ (fun x s₃ h₃ => ?_) fun _ _ h' => h'.elim)
    refine wpAny_bind (wpAny_standAt (wpAny_bind (wpAny_of_eq (hs x) ?_)))
    refine wpAny_bind (wpAny_holding (wpAny_mono h₃ (fun i2 s₄ h₄ => ?_) fun _ _ h' => h'.elim))
    refine wpAny_bind (wpAny_runOwn ?_)
    rw [hm]
    refine codeAny_mono h₄ fun r s₅ h₅ => ?_
    obtain ⟨f, rfl, h₅⟩ := h₅
    exact wpAny_pure ⟨rfl, h₅⟩
theorem start_two1 {elt t1 it1 t2 it2 : Expr} {ifs : List Expr} {scope : Scope} {pos : Pos} {it acc : Value} {env : Env}
    (h0 : codeAny (model prog w) A (.compLoop (.ListComp elt [⟨t1, it1, [], 0⟩, ⟨t2, it2, ifs, 0⟩] scope pos) 1 it acc env) R s)
    (h : wpAny (model prog w) A (pyIter it) (fun it' s' => codeAny (model prog w) A (.compLoop (.ListComp elt [⟨t1, it1, [], 0⟩, ⟨t2, it2, ifs, 0⟩] scope pos) 1 it' acc env) R s') none2 s) :
    codeAny (model prog w) A (.compStart (.ListComp elt [⟨t1, it1, [], 0⟩, ⟨t2, it2, ifs, 0⟩] scope pos) 1 it acc env) R s := by
  refine codeAny_of_tree ?_
  show wpAny _ _ ((compStart (.ListComp elt [⟨t1, it1, [], 0⟩, ⟨t2, it2, ifs, 0⟩] scope pos) 1 it acc env).onRaise (fun x => do noteFrame x env; standAt theWindowsPlace)) _ _ s
  refine wpAny_notedAt ?_
  unfold compStart
  show wpAny _ _ (ask >>= _) _ _ s
  refine wpAny_bind (wpAny_askSetting (wpAny_ite ?_))
  split
  · first
      | exact wpAny_bind (wpAny_pure (wpAny_pure (And.intro rfl h0)))
      | exact wpAny_pure (And.intro rfl h0)
  · first
      | exact wpAny_bind (wpAny_rule (wpAny_bind (wpAny_standAt (wpAny_bind (wpAny_mono h (fun it' s' h' => wpAny_pure (And.intro rfl h')) fun _ _ x => x.elim)))))
      | (refine wpAny_bind (wpAny_rule ?_); show wpAny _ _ (standAt it2.pos >>= _) _ _ s; exact wpAny_bind (wpAny_standAt (wpAny_bind (wpAny_mono h (fun it' s' h' => wpAny_pure (And.intro rfl h')) fun _ _ x => x.elim))))
/-- the inner loop of two clauses, with one test -/
theorem loop_two1 {elt t1 it1 t2 it2 c : Expr} {scope : Scope} {pos : Pos} {it acc : Value} {env : Env} (I : Nat → Shared → Prop)
    (turn : ∀ n s, I n s → wpAny (model prog w) A (pyNext it) (fun r s₁ => match r with
      | none => R (.ok .next) s₁
      | some v => wpAny (model prog w) A (assign t2 env v) (fun _ s₂ =>
          wpAny (model prog w) A (isTrue c env (eval c env)) (fun ok s₃ =>
            if ok = true then wpAny (model prog w) A (eval elt env) (fun x s₄ =>
              wpAny (model prog w) A (call (.builtin "list.append") [acc, x]) (fun _ s₅ => ∃ m, m < n ∧ I m s₅) none2 s₄) none2 s₃
            else ∃ m, m < n ∧ I m s₃) none2 s₂) none2 s₁) none2 s)
    (n : Nat) (h : I n s) (ht : ∀ v, letOwnedTupleGo t2 it v = pure ()) :
    codeAny (model prog w) A (.compLoop (.ListComp elt [⟨t1, it1, [], 0⟩, ⟨t2, it2, [c], 0⟩] scope pos) 1 it acc env) R s := by
  refine codeAny_loop rfl I (fun n s hI => ?_) n h
  show wpAny _ A ((compTurn (.ListComp elt [⟨t1, it1, [], 0⟩, ⟨t2, it2, [c], 0⟩] scope pos) 1 it acc env).onRaise (fun x => do noteFrame x env; theTreesLotGoes x)) _ _ s
  refine wpAny_noted ?_
  rw [turn_two1]
  refine wpAny_bind (wpAny_standAt (wpAny_bind (wpAny_mono (turn n s hI) (fun r s₁ h₁ => ?_) fun _ _ h' => h'.elim)))
  cases r with
  | none => exact wpAny_pure h₁
  | some v =>
    refine wpAny_bind (wpAny_of_eq (ht v) ?_)
    refine wpAny_bind (wpAny_mono h₁ (fun _ s₂ h₂ => wpAny_bind (wpAny_tests_one (wpAny_mono h₂ (fun ok s₃ h₃ => ?_) fun _ _ h' => h'.elim))) fun _ _ h' => h'.elim)
    cases ok with
    | false => exact wpAny_pure ⟨rfl, h₃⟩
    | true =>
      exact wpAny_bind (wpAny_bind (wpAny_mono h₃ (fun x s₄ h₄ => wpAny_bind (wpAny_mono h₄ (fun _ s₅ h₅ => wpAny_pure (wpAny_pure ⟨rfl, h₅⟩)) fun _ _ h' => h'.elim)) fun _ _ h' => h'.elim))
end
section
variable {M : Model} {A : Around} {E : Value → Shared → Prop} {s : Shared} {K : Frag} {h₀ : Heap} {L : Addr} {m mg mb : Str → Option Value} {p : Program} {loose : List Str} {x : Str} {pos : Pos} {v : Value} {Q : Value → Shared → Prop} {env : Env}
theorem nameG_B (F : Fr h₀ L s.heap m) (X : K.In h₀) (T : TopRead p loose mg mb h₀) (e : nsIn K mainGlobals x = some none) (hv : bootBuiltins x = some v) (hn : x ≠ "__name__") (h : Q v s)
    (hg : env.globals = mainGlobals := by rfl) (hb : env.builtins = builtinsNs := by rfl) (hk : env.scope.kind = .function := by rfl) (hx : env.kindOf x = some .globalImplicit := by rfl) (hd : (x == ("__debug__" : Str)) = false := by decide) :
    wpAny M A (eval (.Name x pos) env) Q E s :=
  Name_function_global hk hx (loadGlobal_builtin (env := env) (by rw [hg]; exact T.g.keeps F.keep) (mg_none_of X T.g e) (by rw [hb]; exact T.b.keeps F.keep) ((T.builtins x hn).trans hv) h) hd
theorem comp_ns {M : Model} {C : Addr} {m₂ : Str → Option Value} {scope : Scope} {cl : List (Str × Addr)} {x : Str} {pos : Pos} {v : Value} {Q : Value → Shared → Prop} (hn : s.heap.Ns C m₂) (hx : m₂ x = some v) (h : Q v s)
    (hk : (compEnvC scope cl C env).scope.kind = .function := by rfl) (hl : (compEnvC scope cl C env).kindOf x = some .local := by rfl) (hd : (x == ("__debug__" : Str)) = false := by decide) :
    wpAny M A (eval (.Name x pos) (compEnvC scope cl C env)) Q E s := wpAny_Name (wpAny_loadName_local hk hl hn hx h) hd
end
end Mine
namespace Mine
open PySem PySem.W PyProof.Rows PySem.Calls PySem.Spec PyProof.Rows.LCg
/-- how many of the first i lists lie above the list j -/
def cntIn (ds : List (List Int)) (j : Nat) : Nat → Nat
  | 0 => 0
  | i + 1 => cntIn ds j i + if ltL (ds.getD j []) (ds.getD i []) then 1 else 0
def cntOut (ds : List (List Int)) : Nat → Nat
  | 0 => 0
  | j + 1 => cntOut ds j + cntIn ds j j
theorem cntIn_le (ds : List (List Int)) (j : Nat) : ∀ i, cntIn ds j i ≤ i
  | 0 => Nat.le_refl _
  | i + 1 => by
    have := cntIn_le ds j i
    unfold cntIn; split <;> omega
theorem cntOut_le (ds : List (List Int)) : ∀ j, cntOut ds j ≤ j * j
  | 0 => Nat.le_refl _
  | j + 1 => by
    have := cntOut_le ds j
    have := cntIn_le ds j j
    unfold cntOut
    have e : (j + 1) * (j + 1) = j * j + j + j + 1 := by rw [Nat.mul_succ, Nat.succ_mul]; omega
    omega

abbrev invScope : Scope := { kind := ScopeKind.function, names := [(Str.ofString ".0", NameKind.local), (Str.ofString "j", NameKind.local), (Str.ofString "i", NameKind.local), (Str.ofString "range", NameKind.globalImplicit), (Str.ofString "row", NameKind.free)], isGenerator := false, isCoroutine := false }
section
variable {prog : Program} {w : World} {env1 : Env} {E : Value → Shared → Prop} {s : Shared} {h₀ : Heap} {L : Addr} {m : Str → Option Value} {news : List (Addr × Obj)} {mean : ExcName → Option Value} {mg mb : Str → Option Value}
theorem inv_comp {p1 p2 p3 p4 p5 p6 p7 p8 p9 p10 p11 p12 p13 p14 p15 p16 p17 p18 p19 : Pos} {or : Obj} {rl : Addr} {rvs : List Value} {rn : Nat} {ds : List (List Int)} {Q : Value → Shared → Prop}
    (X : (hd.heap_39 w.params).In h₀) (T : TopF mean mg mb h₀) (F : Fr h₀ L s.heap m) (N : News h₀ L s.heap news) (hr : (L + 1 + 1 + 1, or) ∈ news) (hrd : or.data = .cell (some (.ref rl)))
    (hl : (rl, ({ cls := .type "list", data := .seq rvs.toArray rn } : Obj)) ∈ news) (hlen : rvs.length = ds.length) (hds : ds.length ≤ 50)
    (hrv : ∀ (i : Nat) v d, rvs[i]? = some v → ds[i]? = some d → MarkAt h₀ v d)
    (K : ∀ D h tk ys, Fr h₀ L h m → News h₀ L h ((D, lst ys) :: news) → (∀ p ∈ news, p.1 ≠ D) → ys.length = cntOut ds ds.length → Q (.ref D) { s with heap := h, toks := tk }) :
    wpAny (model prog w) ((callerA.deeper env1).deeper (dueEnv L)) (eval ((Expr.Constant (Const.int 1) 0 p1).ListComp [{ target := Expr.Name (Str.ofString "j") p2, iter := (Expr.Name (Str.ofString "range") p3).Call [(Expr.Name (Str.ofString "len") p4).Call [Expr.Name (Str.ofString "row") p5] [] p6] [] p7, ifs := [], is_async := 0 }, { target := Expr.Name (Str.ofString "i") p8, iter := (Expr.Name (Str.ofString "range") p9).Call [Expr.Name (Str.ofString "j") p10] [] p11, ifs := [((Expr.Name (Str.ofString "row") p12).Subscript (Expr.Name (Str.ofString "i") p13) p14).Compare [CmpOp.Gt] [(Expr.Name (Str.ofString "row") p15).Subscript (Expr.Name (Str.ofString "j") p16) p17] p18], is_async := 0 }] invScope p19) (dueEnv L)) Q E s := by
  rw [eval_ListComp]
  refine wpAny_comprehension_free (use := none) (cl := [(Str.ofString "row", L + 1 + 1 + 1)]) rfl (fun _ => rfl) (by with_unfolding_all rfl) rfl (by decide) ?_
  refine (show wpAny (model prog w) ((callerA.deeper env1).deeper (dueEnv L)) (eval ((Expr.Name (Str.ofString "range") p3).Call [(Expr.Name (Str.ofString "len") p4).Call [Expr.Name (Str.ofString "row") p5] [] p6] [] p7) (dueEnv L)) _ _ _ from ?_)
  generalize hA : (callerA.deeper env1).deeper (dueEnv L) = A
  have hmk : A.mark none = A := by rw [← hA]; rfl
  have hh : A.handled = none := by rw [← hA]; rfl
  have hu : A.units < cLine := by rw [← hA]; show 4 + _ + _ < cLine; decide
  iterate 8 walk1
  refine nameX_C N rfl hr hrd ?_
  iterate 1 walk1
  have hil : ∀ {g : Heap} {nw : List (Addr × Obj)}, News h₀ L g nw → (∀ p ∈ news, p ∈ nw) → g.IsList rl rvs.toArray := fun N' hs => ⟨_, (N' _ (hs _ hl)).1, rfl, _, rfl⟩
  refine len_list (hil N fun _ h => h) (by rw [List.size_toArray]; omega) ?_
  iterate 1 walk1
  refine range1_rows F N fun h₁ tk₁ t₁ u₁ v₁ hR F₁ N₁ _ => ?_
  generalize hn : ds.length = n at *
  have hsz : rvs.toArray.size = n := by rw [List.size_toArray]; omega
  refine wpAny_pyIter_range hR (small_one (by omega) (by omega) (by omega) (by omega)) ?_
  rw [show Builtin.Range.rangeSize 0 ((rvs.toArray.size : Nat) : Int) 1 = (n : Int) by rw [rangeSize_nat]; omega]
  refine wpAny_newObj_type (wpAny_newFunctionEnv (by decide) (by intro y hy; simp at hy) (fun h₂ hns₂ hsb₂ => ?_) rfl)
  dsimp only at hns₂ hsb₂ ⊢
  generalize hI : h₁.objs.size = I at *
  generalize hH1 : h₁.push { cls := .type "range_iterator", data := .fields #[rawInt 0, rawInt (n : Int), rawInt 1] } = H1 at hns₂ hsb₂ ⊢
  generalize hD : H1.objs.size = D at *
  generalize hH2 : H1.push { cls := .type "list", dict := none, data := .seq ([] : List Value).toArray } = H2 at hns₂ hsb₂ ⊢
  generalize hC : H2.objs.size = C at *
  have eD : D = I + 1 := by rw [← hD, ← hH1, Heap.size_push, hI]
  have eC : C = I + 2 := by rw [← hC, ← hH2, Heap.size_push, hD, eD]
  have hLI : L < I := by rw [← hI]; exact F₁.ns.lt
  have hnI : ∀ p ∈ news, p.1 < I := fun p hp => by rw [← hI]; exact Heap.lt_size (N₁ p hp).1
  have h0I : ∀ b, I ≤ b → h₀.get? b = none := fun b hb => by
    cases e : h₀.get? b with
    | none => rfl
    | some o => have := Heap.lt_size (F₁.keep b o e); rw [hI] at this; exact absurd this (Nat.not_lt.mpr hb)
  have up₂ : ∀ b o, b ≠ C → H1.get? b = some o → h₂.get? b = some o := fun b o hb e => hsb₂.extBut b o hb (Heap.get?_push_of_some _ (hH2 ▸ Heap.get?_push_of_some _ e))
  have up₁ : ∀ b o, h₁.get? b = some o → h₂.get? b = some o := fun b o e => up₂ b o (by have := Heap.lt_size e; rw [hI] at this; rw [eC]; exact Nat.ne_of_lt (Nat.lt_of_lt_of_le this (Nat.le_add_right _ _))) (hH1 ▸ Heap.get?_push_of_some _ e)
  have neDC : D ≠ C := by rw [eD, eC]; exact Nat.ne_of_lt (Nat.lt_succ_self _)
  have neIC : I ≠ C := by rw [eC]; exact Nat.ne_of_lt (Nat.lt_succ_of_lt (Nat.lt_succ_self _))
  have neID : I ≠ D := by rw [eD]; exact Nat.ne_of_lt (Nat.lt_succ_self _)
  have neLI : L ≠ I := Nat.ne_of_lt hLI
  have neLD : L ≠ D := by rw [eD]; exact Nat.ne_of_lt (Nat.lt_succ_of_lt hLI)
  have neLC : L ≠ C := by rw [eC]; exact Nat.ne_of_lt (Nat.lt_succ_of_lt (Nat.lt_succ_of_lt hLI))
  have nI : ∀ p ∈ news, p.1 ≠ I := fun p hp => Nat.ne_of_lt (hnI p hp)
  have nD : ∀ p ∈ news, p.1 ≠ D := fun p hp => by rw [eD]; exact Nat.ne_of_lt (Nat.lt_succ_of_lt (hnI p hp))
  have nC : ∀ p ∈ news, p.1 ≠ C := fun p hp => by rw [eC]; exact Nat.ne_of_lt (Nat.lt_succ_of_lt (Nat.lt_succ_of_lt (hnI p hp)))
  have z0D : h₀.get? D = none := h0I D (by rw [eD]; exact Nat.le_succ _)
  have z0C : h₀.get? C = none := h0I C (by rw [eC]; exact Nat.le_add_right _ _)
  have z0I : h₀.get? I = none := h0I I (Nat.le_refl _)
  have hacc : h₂.get? D = some (lst []) := by
    refine hsb₂.extBut _ _ neDC (Heap.get?_push_of_some _ ?_)
    rw [← hH2, ← hD]; exact Heap.get?_push_size _ rfl
  have hit₂ : IsRangeIter h₂ I (0 + ((0 : Nat) : Int) * 1) ((n : Int) - ((0 : Nat) : Int)) 1 := by
    show h₂.get? I = some _
    refine up₂ _ _ neIC ?_
    rw [← hH1, ← hI]; simpa using Heap.get?_push_size _ rfl
  have F₂ : Fr h₀ L h₂ m := F₁.keeps up₁
  have N₂ : News h₀ L h₂ ((D, lst []) :: news) := fun p hp => by
    rcases List.mem_cons.mp hp with rfl | hp
    · exact ⟨hacc, Ne.symm neLD, z0D⟩
    · exact ⟨up₁ _ _ (N₁ p hp).1, (N₁ p hp).2⟩
  have loop : ∀ s₃ : Shared, (∃ tk, s₃ = { s with heap := h₂, toks := tk }) →
      codeAny (model prog w) A (.compLoop ((Expr.Constant (Const.int 1) 0 p1).ListComp [{ target := Expr.Name (Str.ofString "j") p2, iter := (Expr.Name (Str.ofString "range") p3).Call [(Expr.Name (Str.ofString "len") p4).Call [Expr.Name (Str.ofString "row") p5] [] p6] [] p7, ifs := [], is_async := 0 }, { target := Expr.Name (Str.ofString "i") p8, iter := (Expr.Name (Str.ofString "range") p9).Call [Expr.Name (Str.ofString "j") p10] [] p11, ifs := [((Expr.Name (Str.ofString "row") p12).Subscript (Expr.Name (Str.ofString "i") p13) p14).Compare [CmpOp.Gt] [(Expr.Name (Str.ofString "row") p15).Subscript (Expr.Name (Str.ofString "j") p16) p17] p18], is_async := 0 }] invScope p19) 0 (.ref I) (.ref D) (compEnvC invScope [(Str.ofString "row", L + 1 + 1 + 1)] C (dueEnv L)))
        (compPost (model prog w) A E none Q (.ref D) C) s₃ := by
    rintro s₃ ⟨tk₃, rfl⟩
    refine loop_two0 (fun k s' => ∃ h tk m' ys j, s' = { s with heap := h, toks := tk } ∧ j ≤ n ∧ k = n + 1 - j ∧ IsRangeIter h I (0 + ((j : Nat) : Int) * 1) ((n : Int) - (j : Nat)) 1 ∧ Fr h₀ L h m ∧ h.Ns C m' ∧ News h₀ L h ((D, lst ys) :: news) ∧ ys.length = cntOut ds j) ?_ (n + 1)
      ⟨h₂, tk₃, _, [], 0, rfl, Nat.zero_le _, rfl, hit₂, F₂, hns₂, N₂, rfl⟩ (fun _ => rfl) (fun _ => rfl) hmk
    rintro k s' ⟨h, tk, m', ys, j, rfl, hj, rfl, hit, F', hn', N', hys⟩
    by_cases hlt : j < n
    · refine (range_walks hh 0 n).item j _ _ _ hlt hit fun v h₄ tk₄ hPv hit₄ hk₄ => ?_
      obtain ⟨t4, rfl⟩ := hPv
      rw [Int.zero_add]
      refine wpAny_assign_Name (wpAny_storeName_local (by rfl) (hn'.at' fun o e => hk₄ _ o (by simpa using Ne.symm neIC) e) (fun h₅ hn₅ hs₅ => ?_) (by rfl))
      have offIC : ∀ p ∈ (D, lst ys) :: news, p.1 ≠ I ∧ p.1 ≠ C := fun p hp => by
        rcases List.mem_cons.mp hp with rfl | hp
        · exact ⟨Ne.symm neID, neDC⟩
        · exact ⟨nI p hp, nC p hp⟩
      have F₅ : Fr h₀ L h₅ m := (fr_but F' hk₄ neLI z0I).change hs₅ (Ne.symm neLC) z0C
      have N₅ : News h₀ L h₅ ((D, lst ys) :: news) := fun p hp => ⟨hs₅.extBut _ _ (offIC p hp).2 (hk₄ _ _ (by simpa using (offIC p hp).1) (N' p hp).1), (N' p hp).2⟩
      have hit₅ : IsRangeIter h₅ I (0 + ((j + 1 : Nat) : Int) * 1) ((n : Int) - (j + 1 : Nat)) 1 := hs₅.extBut _ _ neIC hit₄
      walk1
      walk1
      walk1
      walk1
      have hn₅' : h₅.Ns C (fun x => if x = Str.ofString "j" then some (Value.int (j : Int) t4) else m' x) := hn₅
      refine comp_ns hn₅' (v := .int (j : Int) t4) (by simp) ?_
      walk1
      refine range1_rows F₅ N₅ fun h₆ tk₆ t₆ u₆ v₆ hR₆ F₆ N₆ k₆ => ?_
      refine wpAny_pyIter_range hR₆ (small_one (by omega) (by omega) (by omega) (by omega)) ?_
      rw [show Builtin.Range.rangeSize 0 ((j : Nat) : Int) 1 = (j : Int) by rw [rangeSize_nat]; omega]
      dsimp only
      generalize hJ : h₆.objs.size = J
      generalize hH7 : h₆.push { cls := .type "range_iterator", data := .fields #[rawInt 0, rawInt (j : Int), rawInt 1] } = h₇
      have k₇ : ∀ b o, h₆.get? b = some o → h₇.get? b = some o := fun b o e => hH7 ▸ Heap.get?_push_of_some _ e
      have hit₇ : IsRangeIter h₇ J (0 + ((0 : Nat) : Int) * 1) ((j : Int) - ((0 : Nat) : Int)) 1 := by
        show h₇.get? J = some _
        rw [← hH7, ← hJ]; simpa using Heap.get?_push_size _ rfl
      have ltJ : ∀ b o, h₅.get? b = some o → b ≠ J := fun b o e => by rw [← hJ]; exact Nat.ne_of_lt (Heap.lt_size (k₆ b o e))
      have neIJ : I ≠ J := ltJ _ _ hit₅
      have neDJ : D ≠ J := ltJ _ _ (N₅ _ (List.mem_cons_self ..)).1
      have neCJ : C ≠ J := by obtain ⟨o, _, _, e, _⟩ := hn₅'; exact ltJ _ _ e
      have neLJ : L ≠ J := by obtain ⟨o, _, _, e, _⟩ := F₅.ns; exact ltJ _ _ e
      have nJ : ∀ p ∈ news, p.1 ≠ J := fun p hp => ltJ _ _ (N₅ _ (List.mem_cons_of_mem _ hp)).1
      have z0J : h₀.get? J = none := by rw [← hJ]; exact next_is_new F₆
      have loop1 : ∀ s₃ : Shared, (∃ tk, s₃ = { s with heap := h₇, toks := tk }) →
        codeAny (model prog w) A (.compLoop ((Expr.Constant (Const.int 1) 0 p1).ListComp [{ target := Expr.Name (Str.ofString "j") p2, iter := (Expr.Name (Str.ofString "range") p3).Call [(Expr.Name (Str.ofString "len") p4).Call [Expr.Name (Str.ofString "row") p5] [] p6] [] p7, ifs := [], is_async := 0 }, { target := Expr.Name (Str.ofString "i") p8, iter := (Expr.Name (Str.ofString "range") p9).Call [Expr.Name (Str.ofString "j") p10] [] p11, ifs := [((Expr.Name (Str.ofString "row") p12).Subscript (Expr.Name (Str.ofString "i") p13) p14).Compare [CmpOp.Gt] [(Expr.Name (Str.ofString "row") p15).Subscript (Expr.Name (Str.ofString "j") p16) p17] p18], is_async := 0 }] invScope p19) 1 (.ref J) (.ref D) (compEnvC invScope [(Str.ofString "row", L + 1 + 1 + 1)] C (dueEnv L)))
          (fun r s₅ => ∃ f, r = Except.ok f ∧ ∃ m_1, m_1 < n + 1 - j ∧ ∃ h tk m' ys j, s₅ = { s with heap := h, toks := tk } ∧ j ≤ n ∧ m_1 = n + 1 - j ∧ IsRangeIter h I (0 + ((j : Nat) : Int) * 1) ((n : Int) - (j : Nat)) 1 ∧ Fr h₀ L h m ∧ h.Ns C m' ∧ News h₀ L h ((D, lst ys) :: news) ∧ ys.length = cntOut ds j) s₃ := by
        rintro s₃ ⟨tk₃, rfl⟩
        refine loop_two1 (fun k s' => ∃ h tk m' ys i, s' = { s with heap := h, toks := tk } ∧ i ≤ j ∧ k = j + 1 - i ∧ IsRangeIter h J (0 + ((i : Nat) : Int) * 1) ((j : Int) - (i : Nat)) 1 ∧ IsRangeIter h I (0 + ((j + 1 : Nat) : Int) * 1) ((n : Int) - (j + 1 : Nat)) 1 ∧ Fr h₀ L h m ∧ h.Ns C m' ∧ m' (Str.ofString "j") = some (.int (j : Int) t4) ∧ News h₀ L h ((D, lst ys) :: news) ∧ ys.length = cntOut ds j + cntIn ds j i) ?_ (j + 1)
          ⟨h₇, tk₃, _, ys, 0, rfl, Nat.zero_le _, rfl, hit₇, k₇ _ _ (k₆ _ _ hit₅), F₆.keeps k₇, (hn₅'.keeps k₆).keeps k₇, by simp, N₆.grown k₇, by rw [hys]; rfl⟩ (fun _ => rfl)
        rintro k s' ⟨h', tk', m₈, ys₈, i, rfl, hij, rfl, hit₈, hitI, F₈, hn₈, hmj, N₈, hys₈⟩
        by_cases hlt2 : i < j
        · refine (range_walks hh 0 j).item i _ _ _ hlt2 hit₈ fun v h₉ tk₉ hPv hit₉ hk₉ => ?_
          obtain ⟨t9, rfl⟩ := hPv
          rw [Int.zero_add]
          refine wpAny_assign_Name (wpAny_storeName_local (by rfl) (hn₈.at' fun o e => hk₉ _ o (by simpa using neCJ) e) (fun hA hnA hsA => ?_) (by rfl))
          have hnA' : hA.Ns C (fun x => if x = Str.ofString "i" then some (Value.int (i : Int) t9) else m₈ x) := hnA
          have offJC : ∀ p ∈ (D, lst ys₈) :: news, p.1 ≠ J ∧ p.1 ≠ C := fun p hp => by
            rcases List.mem_cons.mp hp with rfl | hp
            · exact ⟨neDJ, neDC⟩
            · exact ⟨nJ p hp, nC p hp⟩
          have FA : Fr h₀ L hA m := (fr_but F₈ hk₉ neLJ z0J).change hsA (Ne.symm neLC) z0C
          have NA : News h₀ L hA ((D, lst ys₈) :: news) := fun p hp => ⟨hsA.extBut _ _ (offJC p hp).2 (hk₉ _ _ (by simpa using (offJC p hp).1) (N₈ p hp).1), (N₈ p hp).2⟩
          have hitJA : IsRangeIter hA J (0 + ((i + 1 : Nat) : Int) * 1) ((j : Int) - (i + 1 : Nat)) 1 := hsA.extBut _ _ (Ne.symm neCJ) hit₉
          have hitIA : IsRangeIter hA I (0 + ((j + 1 : Nat) : Int) * 1) ((n : Int) - (j + 1 : Nat)) 1 := hsA.extBut _ _ neIC (hk₉ _ _ (by simpa using neIJ) hitI)
          refine wpAny_isTrue_Compare1 ?_
          have up : ∀ p ∈ news, p ∈ (D, lst ys₈) :: news := fun p hp => List.mem_cons_of_mem _ hp
          have hri : i < rvs.length := by omega
          have hrj : j < rvs.length := by omega
          obtain ⟨a, avs, an, hav, hao, hai⟩ := hrv i rvs[i] ds[i] (List.getElem?_eq_getElem hri) (List.getElem?_eq_getElem (by omega))
          obtain ⟨b, bvs, bn, hbv, hbo, hbi⟩ := hrv j rvs[j] ds[j] (List.getElem?_eq_getElem hrj) (List.getElem?_eq_getElem (by omega))
          walk1
          refine lcf_cell NA rfl (up _ hr) hrd ?_ rfl rfl
          refine comp_ns hnA' (v := .int (i : Int) t9) (by simp) ?_
          refine item_litK (hil NA up) (by omega) (by omega) (v := rvs[i]) (by simp [hri]) ?_
          rw [hav]
          walk1
          refine lcf_cell NA rfl (up _ hr) hrd ?_ rfl rfl
          refine comp_ns hnA' (v := .int (j : Int) t4) (by rw [← hmj]; rfl) ?_
          refine item_litK (hil NA up) (by omega) (by omega) (v := rvs[j]) (by simp [hrj]) ?_
          rw [hbv]
          refine cmp_gt_lists (FA.keep _ _ hao) (FA.keep _ _ hbo) hai hbi hu ?_
          refine wpAny_truthy_bool ?_
          have hci : cntIn ds j (i + 1) = cntIn ds j i + if ltL ds[j] ds[i] then 1 else 0 := by
            rw [cntIn]; simp [List.getD, show i < ds.length by omega, show j < ds.length by omega]
          have b1 := cntIn_le ds j i
          have b2 := cntOut_le ds j
          have b3 : j * j ≤ 50 * 50 := Nat.mul_le_mul (by omega) (by omega)
          cases hlt3 : ltL ds[j] ds[i] with
          | false =>
            rw [if_neg (by simp)]
            rw [hlt3] at hci
            exact ⟨j + 1 - (i + 1), by omega, hA, _, _, ys₈, i + 1, rfl, hlt2, rfl, hitJA, hitIA, FA, hnA', by rw [← hmj]; rfl, NA, by rw [hci, hys₈]; simp⟩
          | true =>
            rw [if_pos rfl]
            rw [hlt3] at hci
            walk1
            refine append_at (hsz := by rw [List.size_toArray, sizeLine_eq]; omega) (NA _ (List.mem_cons_self ..)).1 fun hB hsB hDB => ?_
            refine ⟨j + 1 - (i + 1), by omega, hB, _, _, ys₈ ++ [.int 1 (tk₉ + 1)], i + 1, rfl, hlt2, rfl, hsB.extBut _ _ (Ne.symm neDJ) hitJA, hsB.extBut _ _ neID hitIA, FA.change hsB (Ne.symm neLD) z0D, hnA'.sameBut hsB (Ne.symm neDC), by rw [← hmj]; rfl, fun p hp => ?_, by rw [hci, List.length_append, hys₈]; simp; omega⟩
            rcases List.mem_cons.mp hp with rfl | hp
            · exact ⟨hDB.trans (congrArg some (lst_snoc ys₈ _)), Ne.symm neLD, z0D⟩
            · exact ⟨hsB.extBut _ _ (nD p hp) (NA p (up p hp)).1, (NA p (up p hp)).2⟩
        · obtain rfl : i = j := Nat.le_antisymm hij (Nat.not_lt.mp hlt2)
          refine (range_walks hh 0 i).done _ _ _ hit₈ fun h₉ tk₉ hk₉ => ?_
          refine ⟨_, rfl, n + 1 - (i + 1), by omega, h₉, tk₉, m₈, ys₈, i + 1, rfl, hlt, rfl, hk₉ _ _ (by simpa using neIJ) hitI, fr_but F₈ hk₉ neLJ z0J, hn₈.at' fun o e => hk₉ _ o (by simpa using neCJ) e, news_but N₈ hk₉ fun p hp => ?_, by rw [hys₈]; rfl⟩
          rcases List.mem_cons.mp hp with rfl | hp
          · exact neDJ
          · exact nJ p hp
      refine start_two1 (loop1 _ ⟨_, rfl⟩) ?_
      exact (range_walks hh 0 j).self 0 _ _ _ hit₇ (loop1 _ ⟨_, rfl⟩)
    · obtain rfl : j = n := Nat.le_antisymm hj (Nat.not_lt.mp hlt)
      refine (range_walks hh 0 j).done _ _ _ hit fun h₄ tk₄ hk₄ => ?_
      refine ⟨m', hn'.at' fun o e => hk₄ _ o (by simpa using Ne.symm neIC) e, fun h₅ hs₅ => ?_⟩
      refine K D h₅ tk₄ ys ((fr_but F' hk₄ neLI z0I).change hs₅ (Ne.symm neLC) z0C) (fun p hp => ?_) nD hys
      have hpI : p.1 ≠ I := by
        rcases List.mem_cons.mp hp with rfl | hp
        · exact Ne.symm neID
        · exact nI p hp
      have hpC : p.1 ≠ C := by
        rcases List.mem_cons.mp hp with rfl | hp
        · exact neDC
        · exact nC p hp
      exact ⟨hs₅.extBut _ _ hpC (hk₄ _ _ (by simpa using hpI) (N' p hp).1), (N' p hp).2⟩
  refine codeAny_compStart_list (loop _ ⟨_, rfl⟩) ?_
  exact (range_walks hh 0 n).self 0 _ _ _ hit₂ (loop _ ⟨_, rfl⟩)
end
end Mine
namespace Mine
open PySem PySem.W PyProof.Rows PySem.Calls PySem.Spec PyProof.Rows.LCg
theorem IntsAre.last : ∀ {vs : List Value} {d : List Int} {k : Int}, IntsAre vs (d ++ [k]) → ∃ t, vs[d.length]? = some (.int k t) ∧ vs.length = d.length + 1
  | vs, [], k, h => by
    cases h with
    | cons n t h => cases h; exact ⟨t, rfl, rfl⟩
  | vs, a :: d, k, h => by
    cases h with
    | cons n t h =>
      obtain ⟨t', h1, h2⟩ := IntsAre.last h
      exact ⟨t', h1, by simp [h2]⟩
section
variable {prog : Program} {w : World} {env1 : Env} {E : Value → Shared → Prop} {s : Shared} {h₀ : Heap} {L : Addr} {m : Str → Option Value} {news : List (Addr × Obj)} {mean : ExcName → Option Value} {mg mb : Str → Option Value}
theorem str_comp {p1 p2 p3 p4 p5 p6 p7 p8 p9 : Pos} {os : Obj} {ol : Addr} {t : Tok} {ovs : List Value} {rn : Nat} {z : Str} {ds : List (List Int)} {idx : List Nat} {Q : Value → Shared → Prop}
    (X : (hd.heap_39 w.params).In h₀) (F : Fr h₀ L s.heap m) (N : News h₀ L s.heap news) (hs : (L + 1 + 1, os) ∈ news) (hsd : os.data = .cell (some (.str z t))) (ho : m (Str.ofString "order") = some (.ref ol))
    (hl : (ol, ({ cls := .type "list", data := .seq ovs.toArray rn } : Obj)) ∈ news) (hlen : ovs.length = idx.length) (hlds : ds.length = idx.length) (hds : idx.length ≤ 50) (hd3 : ∀ d ∈ ds, d.length ≤ 3)
    (hix : ∀ k ∈ idx, k < z.length) (hzl : z.length ≤ 50)
    (hov : ∀ (i : Nat) v d k, ovs[i]? = some v → ds[i]? = some d → idx[i]? = some k → MarkIn news v (d ++ [(k : Int)]))
    (K : ∀ D h tk ys, Fr h₀ L h m → News h₀ L h ((D, lst ys) :: news) → (∀ p ∈ news, p.1 ≠ D) → StrsAre ys (idx.map fun k => ⟨#[z.cps.getD k 0]⟩) → Q (.ref D) { s with heap := h, toks := tk }) :
    wpAny (model prog w) ((callerA.deeper env1).deeper (dueEnv L)) (eval (((Expr.Name (Str.ofString "stretch") p1).Subscript ((Expr.Name (Str.ofString "mark") p2).Subscript (Expr.UnaryOp UnaryOp.USub (Expr.Constant (Const.int 1) 0 p3) p4) p5) p6).ListComp [{ target := Expr.Name (Str.ofString "mark") p7, iter := Expr.Name (Str.ofString "order") p8, ifs := [], is_async := 0 }] { kind := ScopeKind.function, names := [(Str.ofString ".0", NameKind.local), (Str.ofString "mark", NameKind.local), (Str.ofString "stretch", NameKind.free)], isGenerator := false, isCoroutine := false } p9) (dueEnv L)) Q E s := by
  refine ListComp_U (h₀ := h₀) (L := L) (m := m) F (cl := [(Str.ofString "stretch", L + 1 + 1)]) (by with_unfolding_all rfl) (by decide) (by rfl) (by decide) (by rfl) ?_
  refine nameX_L F ho ?_
  refine CompSrc.ledger rfl F N hl (by rw [List.size_toArray, sizeLine_eq]; omega) fun g => ?_
  refine compRest_of (fun i ys nw => nw = news ∧ StrsAre ys ((idx.take i).map fun k => ⟨#[z.cps.getD k 0]⟩)) ?_ ?_ _ 0 [] news (Nat.zero_add _) ⟨rfl, .nil⟩
  · rintro i ys nw v I oI C oC D m₂ g tk hi hv ⟨rfl, hys⟩ hns hx F₂ N₂ off ne
    have up : ∀ p ∈ nw, p ∈ (I, oI) :: (C, oC) :: (D, lst ys) :: nw := fun p h => List.mem_cons_of_mem _ (List.mem_cons_of_mem _ (List.mem_cons_of_mem _ h))
    have hi' : i < idx.length := by rw [List.size_toArray] at hi; omega
    have hid : i < ds.length := by omega
    obtain ⟨a, avs, n, rfl, ham, hai⟩ := hov i v ds[i] idx[i] (by simpa using hv) (List.getElem?_eq_getElem hid) (List.getElem?_eq_getElem hi')
    have hk := hix idx[i] (List.getElem_mem hi')
    obtain ⟨t2, hlast, hal⟩ := IntsAre.last hai
    have hdl := hd3 ds[i] (List.getElem_mem hid)
    walk1
    refine lcf_cell N₂ rfl (up _ hs) hsd ?_ rfl rfl
    walk1
    refine comp_local N₂ (List.mem_cons_of_mem _ (List.mem_cons_self ..)) hns hx ?_
    iterate 3 walk1
    refine kde_neg (j := ds[i].length) ⟨_, (N₂ _ (up _ ham)).1, rfl, _, rfl⟩ (by decide) (by decide) ?_ hlast ?_
    · unfold seqIndex?; simp [hal]; omega
    refine KXi.item rfl (by omega) (by omega) (by omega) (fun _ => ?_)
    refine CompEnd.intro F₂ N₂ nw (fun p hp => hp) off (.inr ⟨_, hl, rfl, _, rfl⟩) ⟨rfl, ?_⟩
    have hc : z.cps[idx[i]]? = some (z.cps.getD idx[i] 0) := by
      have : idx[i] < z.cps.size := hk
      simp [Array.getD, this]
    rw [List.take_add_one, List.getElem?_eq_getElem hi', List.map_append, item_meets (n := z.cps.getD idx[i] 0) (by omega) (by simpa using hc)]
    exact hys.append' (.cons _ _ .nil)
  · rintro ys nw ⟨rfl, hys⟩ D g tk F₂ N₂ off
    have : idx.take ovs.toArray.size = idx := List.take_of_length_le (by simp [hlen])
    rw [this] at hys
    exact K D g tk ys F₂ N₂ (off1_of off) hys
end
end Mine
namespace Mine
/-- an order of signs: which two stand the wrong way round; the dot stands in no order -/
structure GtOk (gt : Nat → Nat → Bool) : Prop where
  asym : ∀ a b, gt a b = true → gt b a = false
  trans : ∀ a b c, gt a b = true → gt b c = true → gt a c = true
  neg : ∀ a b c, b ≠ 46 → gt a b = false → gt b c = false → gt a c = false
  dotL : ∀ a, gt 46 a = false
  dotR : ∀ a, gt a 46 = false
def insL (gt : Nat → Nat → Bool) (a : Nat) : List Nat → List Nat
  | [] => [a]
  | x :: xs => if gt a x = true then x :: insL gt a xs else a :: x :: xs
def dsort (gt : Nat → Nat → Bool) : List Nat → List Nat
  | [] => []
  | a :: t => insL gt a (dsort gt t)
def cg (gt : Nat → Nat → Bool) (a : Nat) : List Nat → Nat
  | [] => 0
  | x :: xs => if x = 46 then 0 else (if gt a x = true then 1 else 0) + cg gt a xs
def inv (gt : Nat → Nat → Bool) : List Nat → Nat
  | [] => 0
  | a :: t => cg gt a t + inv gt t
/-- no two neighbours the wrong way round -/
def Adj (gt : Nat → Nat → Bool) : List Nat → Prop
  | a :: b :: r => gt a b = false ∧ Adj gt (b :: r)
  | _ => True
section
variable {gt : Nat → Nat → Bool} (G : GtOk gt)
include G
theorem insL_comm {p q : Nat} (h : gt p q = true) : ∀ l, insL gt p (insL gt q l) = insL gt q (insL gt p l)
  | [] => by simp [insL, h, G.asym _ _ h]
  | x :: xs => by
    have ih := insL_comm h xs
    have hqp := G.asym _ _ h
    by_cases hq : gt q x = true
    · have hp := G.trans _ _ _ h hq
      simp [insL, hq, hp, ih]
    · have hq' : gt q x = false := by simpa using hq
      by_cases hp : gt p x = true
      · simp [insL, hq', hp, h]
      · have hp' : gt p x = false := by simpa using hp
        simp [insL, hq', hp', h, hqp]
theorem dsort_swp {p q : Nat} (h : gt p q = true) : ∀ (n : Nat) (l : List Nat), l.length ≤ n → dsort gt (swp p q l) = dsort gt l
  | _, [], _ => rfl
  | _, [_], _ => rfl
  | 0, _ :: _ :: _, hn => by simp at hn
  | n + 1, a :: b :: r, hn => by
    unfold swp
    split
    · rename_i e
      obtain ⟨rfl, rfl⟩ := e
      show insL gt b (insL gt a (dsort gt (swp a b r))) = insL gt a (insL gt b (dsort gt r))
      rw [dsort_swp h n r (by simp at hn; omega), insL_comm G h]
    · show insL gt a (dsort gt (swp p q (b :: r))) = insL gt a (dsort gt (b :: r))
      rw [dsort_swp h n (b :: r) (by simp at hn ⊢; omega)]
theorem dsort_swpAll : ∀ (W : List (Nat × Nat)) (l : List Nat), (∀ p ∈ W, gt p.1 p.2 = true) → dsort gt (swpAll W l) = dsort gt l
  | [], _, _ => rfl
  | (p, q) :: W, l, h => by
    show dsort gt (swpAll W (swp p q l)) = _
    rw [dsort_swpAll W _ fun x hx => h x (List.mem_cons_of_mem _ hx), dsort_swp G (h (p, q) (List.mem_cons_self ..)) _ l (Nat.le_refl _)]
theorem gt_ne {p q : Nat} (h : gt p q = true) : p ≠ 46 ∧ q ≠ 46 := by
  constructor <;> rintro rfl
  · rw [G.dotL] at h; cases h
  · rw [G.dotR] at h; cases h
theorem cg_swp {p q : Nat} (h : gt p q = true) (a : Nat) : ∀ (n : Nat) (l : List Nat), l.length ≤ n → cg gt a (swp p q l) = cg gt a l
  | _, [], _ => rfl
  | _, [_], _ => rfl
  | 0, _ :: _ :: _, hn => by simp at hn
  | n + 1, x :: b :: r, hn => by
    unfold swp
    split
    · rename_i e
      obtain ⟨rfl, rfl⟩ := e
      have ⟨h1, h2⟩ := gt_ne G h
      simp only [cg, h1, h2, if_false]
      rw [cg_swp h a n r (by simp at hn; omega)]; omega
    · show cg gt a (x :: swp p q (b :: r)) = cg gt a (x :: b :: r)
      rw [cg, cg_swp h a n (b :: r) (by simp at hn ⊢; omega)]; rfl
theorem inv_swp {p q : Nat} (h : gt p q = true) : ∀ (n : Nat) (l : List Nat), l.length ≤ n → inv gt (swp p q l) + cnt p q l = inv gt l
  | _, [], _ => rfl
  | _, [_], _ => rfl
  | 0, _ :: _ :: _, hn => by simp at hn
  | n + 1, a :: b :: r, hn => by
    unfold swp cnt
    split
    · rename_i e
      obtain ⟨rfl, rfl⟩ := e
      have ⟨h1, h2⟩ := gt_ne G h
      have ih := inv_swp h n r (by simp at hn; omega)
      have c1 := cg_swp G h a n r (by simp at hn; omega)
      have c2 := cg_swp G h b n r (by simp at hn; omega)
      simp only [inv, cg, h1, h2, if_false, h, G.asym _ _ h, if_true, c1, c2]
      simp; omega
    · show inv gt (a :: swp p q (b :: r)) + cnt p q (b :: r) = inv gt (a :: b :: r)
      have ih := inv_swp h n (b :: r) (by simp at hn ⊢; omega)
      have c1 := cg_swp G h a n (b :: r) (by simp at hn ⊢; omega)
      rw [inv, c1]
      show _ = cg gt a (b :: r) + inv gt (b :: r)
      omega
theorem inv_swpAll : ∀ (W : List (Nat × Nat)) (l : List Nat), (∀ p ∈ W, gt p.1 p.2 = true) → inv gt (swpAll W l) + roundCnt W l = inv gt l
  | [], _, _ => rfl
  | (p, q) :: W, l, h => by
    show inv gt (swpAll W (swp p q l)) + (cnt p q l + roundCnt W (swp p q l)) = _
    have h1 := inv_swpAll W (swp p q l) fun x hx => h x (List.mem_cons_of_mem _ hx)
    have h2 : inv gt (swp p q l) + cnt p q l = inv gt l := inv_swp G (h (p, q) (List.mem_cons_self ..)) _ l (Nat.le_refl _)
    omega
omit G in
theorem swp_of_cnt {p q : Nat} : ∀ (n : Nat) (l : List Nat), l.length ≤ n → cnt p q l = 0 → swp p q l = l
  | _, [], _, _ => rfl
  | _, [_], _, _ => rfl
  | 0, _ :: _ :: _, hn, _ => by simp at hn
  | n + 1, a :: b :: r, hn, h => by
    unfold cnt at h
    unfold swp
    split
    · rename_i e
      rw [if_pos e] at h; omega
    · rename_i e
      rw [if_neg e] at h
      rw [swp_of_cnt n (b :: r) (by simp at hn ⊢; omega) h]
omit G in
theorem cnt_of_round : ∀ (W : List (Nat × Nat)) (l : List Nat), roundCnt W l = 0 → swpAll W l = l ∧ ∀ p ∈ W, cnt p.1 p.2 l = 0
  | [], _, _ => ⟨rfl, fun _ h => nomatch h⟩
  | (p, q) :: W, l, h => by
    have h' : cnt p q l + roundCnt W (swp p q l) = 0 := h
    have h1 : cnt p q l = 0 := by omega
    have h2 := swp_of_cnt (p := p) (q := q) _ l (Nat.le_refl _) h1
    rw [h2] at h'
    obtain ⟨a, b⟩ := cnt_of_round W l (by omega)
    refine ⟨?_, fun x hx => ?_⟩
    · show swpAll W (swp p q l) = l
      rw [h2]; exact a
    · rcases List.mem_cons.mp hx with rfl | hx
      · exact h1
      · exact b x hx
omit G in
theorem adj_of_cnt : ∀ (n : Nat) (l : List Nat), l.length ≤ n → (∀ a b, a ∈ l → b ∈ l → gt a b = true → cnt a b l = 0) → Adj gt l
  | _, [], _, _ => trivial
  | _, [_], _, _ => trivial
  | 0, _ :: _ :: _, hn, _ => by simp at hn
  | n + 1, a :: b :: r, hn, h => by
    refine ⟨?_, adj_of_cnt n (b :: r) (by simp at hn ⊢; omega) fun x y hx hy hg => ?_⟩
    · cases e : gt a b with
      | false => rfl
      | true =>
        have := h a b (by simp) (by simp) e
        unfold cnt at this; rw [if_pos ⟨rfl, rfl⟩] at this; omega
    · have := h x y (List.mem_cons_of_mem _ hx) (List.mem_cons_of_mem _ hy) hg
      unfold cnt at this
      split at this
      · omega
      · exact this
omit G in
theorem dsort_adj : ∀ (l : List Nat), Adj gt l → dsort gt l = l
  | [], _ => rfl
  | [_], _ => rfl
  | a :: b :: r, h => by
    show insL gt a (dsort gt (b :: r)) = _
    rw [dsort_adj (b :: r) h.2, insL, if_neg (by simp [h.1])]
theorem cg_adj (a : Nat) : ∀ (b : Nat) (r : List Nat), gt a b = false → Adj gt (b :: r) → cg gt a (b :: r) = 0
  | b, [], h, _ => by simp [cg, h]
  | b, c :: r, h, hA => by
    by_cases hb : b = 46
    · simp [cg, hb]
    · rw [cg, if_neg hb, if_neg (by simp [h]), cg_adj a c r (G.neg _ _ _ hb h hA.1) hA.2]
theorem inv_adj : ∀ (l : List Nat), Adj gt l → inv gt l = 0
  | [], _ => rfl
  | [_], _ => rfl
  | a :: b :: r, h => by
    rw [inv, cg_adj G a b r h.1 h.2, inv_adj (b :: r) h.2]
omit G in
theorem cg_le (a : Nat) : ∀ l, cg gt a l ≤ l.length
  | [] => Nat.le_refl _
  | x :: xs => by
    have := cg_le a xs
    unfold cg; simp only [List.length_cons]
    split
    · omega
    · split <;> omega
omit G in
theorem inv_le : ∀ l : List Nat, 2 * inv gt l ≤ l.length * l.length
  | [] => Nat.le_refl _
  | a :: t => by
    have h1 := cg_le (gt := gt) a t
    have h2 := inv_le t
    have e : (t.length + 1) * (t.length + 1) = t.length * t.length + t.length + t.length + 1 := by rw [Nat.mul_succ, Nat.succ_mul]; omega
    rw [inv, List.length_cons, e]; omega
omit G in
theorem swp_mem {p q x : Nat} : ∀ (n : Nat) (l : List Nat), l.length ≤ n → x ∈ swp p q l → x ∈ l
  | _, [], _, h => h
  | _, [_], _, h => h
  | 0, _ :: _ :: _, hn, _ => by simp at hn
  | n + 1, a :: b :: r, hn, h => by
    unfold swp at h
    split at h
    · rename_i e
      obtain ⟨rfl, rfl⟩ := e
      have ih : x ∈ swp a b r → x ∈ r := swp_mem n r (by simp at hn; omega)
      simp only [List.mem_cons] at h ⊢
      rcases h with h | h | h
      · exact .inr (.inl h)
      · exact .inl h
      · exact .inr (.inr (ih h))
    · have ih : x ∈ swp p q (b :: r) → x ∈ b :: r := swp_mem n (b :: r) (by simp at hn ⊢; omega)
      rcases List.mem_cons.mp h with h | h
      · exact h ▸ List.mem_cons_self ..
      · exact List.mem_cons_of_mem _ (ih h)
omit G in
theorem swpAll_mem {x : Nat} : ∀ (W : List (Nat × Nat)) (l : List Nat), x ∈ swpAll W l → x ∈ l
  | [], _, h => h
  | (p, q) :: W, l, h => swp_mem _ l (Nat.le_refl _) (swpAll_mem W (swp p q l) h)
/-- the rounds end at the arranged text, after as many exchanges as there are inversions -/
theorem settle_eq (W : List (Nat × Nat)) (hW : ∀ p ∈ W, gt p.1 p.2 = true) : ∀ (f : Nat) (l : List Nat) (k : Nat), (∀ a b, a ∈ l → b ∈ l → gt a b = true → (a, b) ∈ W) → inv gt l < f →
    settle f W l k = (dsort gt l, k + inv gt l)
  | 0, _, _, _, h => by omega
  | f + 1, l, k, hC, h => by
    have hi := inv_swpAll G W l hW
    unfold settle
    split
    · rename_i e
      rw [e] at hi
      have hr : roundCnt W l = 0 := by omega
      have hA : Adj gt l := adj_of_cnt _ l (Nat.le_refl _) fun a b ha hb hg => (cnt_of_round W l hr).2 (a, b) (hC a b ha hb hg)
      rw [dsort_adj l hA, inv_adj G l hA, hr]
    · rename_i e
      have hr : roundCnt W l ≠ 0 := fun hr => e (cnt_of_round W l hr).1
      rw [settle_eq W hW f (swpAll W l) (k + roundCnt W l) (fun a b ha hb => hC a b (swpAll_mem W l ha) (swpAll_mem W l hb)) (by omega), dsort_swpAll G W l hW]
      congr 1; omega
end
def joinDots : List (List Nat) → List Nat
  | [] => []
  | [s] => s
  | s :: t :: r => s ++ 46 :: joinDots (t :: r)
section
variable {gt : Nat → Nat → Bool} (G : GtOk gt)
include G
theorem insL_dot (a : Nat) (r : List Nat) : ∀ l : List Nat, insL gt a (l ++ 46 :: r) = insL gt a l ++ 46 :: r
  | [] => by simp [insL, G.dotR]
  | x :: xs => by
    show insL gt a (x :: (xs ++ 46 :: r)) = _
    unfold insL
    split
    · rw [insL_dot a r xs]; rfl
    · rfl
theorem dsort_cut : ∀ t : List Nat, dsort gt t = joinDots ((cutAt 46 t).map (dsort gt))
  | [] => rfl
  | a :: r => by
    have ih := dsort_cut r
    show insL gt a (dsort gt r) = _
    unfold cutAt
    by_cases ha : a = 46
    · subst ha
      rw [if_pos rfl]
      have : insL gt 46 (dsort gt r) = 46 :: dsort gt r := by
        cases h : dsort gt r with
        | nil => rfl
        | cons x xs => rw [insL, if_neg (by simp [G.dotL])]
      rw [this, ih]
      cases hc : cutAt 46 r with
      | nil => exact absurd hc (cutAt_ne _ _)
      | cons s rest => rfl
    · rw [if_neg ha]
      cases hc : cutAt 46 r with
      | nil => exact absurd hc (cutAt_ne _ _)
      | cons s rest =>
        rw [ih, hc]
        cases rest with
        | nil => rfl
        | cons u v =>
          show insL gt a (dsort gt s ++ 46 :: joinDots _) = insL gt a (dsort gt s) ++ 46 :: joinDots _
          exact insL_dot G a _ _
omit G in
theorem cg_cut (a : Nat) : ∀ (r s : List Nat) (rest : List (List Nat)), cutAt 46 r = s :: rest → cg gt a r = cg gt a s
  | [], s, rest, h => by
    unfold cutAt at h; cases h; rfl
  | x :: r, s, rest, h => by
    unfold cutAt at h
    by_cases hx : x = 46
    · rw [if_pos hx] at h; cases h
      simp [cg, hx]
    · rw [if_neg hx] at h
      cases hc : cutAt 46 r with
      | nil => exact absurd hc (cutAt_ne _ _)
      | cons s' rest' =>
        rw [hc] at h
        cases h
        rw [cg, cg, if_neg hx, if_neg hx, cg_cut a r s' rest hc]
omit G in
theorem inv_dot : ∀ (r : List Nat) , (∀ x, gt 46 x = false) → cg gt 46 r = 0
  | [], _ => rfl
  | x :: r, h => by
    unfold cg; split
    · rfl
    · rw [if_neg (by simp [h x]), inv_dot r h]
theorem inv_cut : ∀ t : List Nat, inv gt t = ((cutAt 46 t).map (inv gt)).sum
  | [] => rfl
  | a :: r => by
    have ih := inv_cut r
    rw [inv]
    unfold cutAt
    by_cases ha : a = 46
    · subst ha
      rw [if_pos rfl, inv_dot r G.dotL, ih]; simp [inv]
    · rw [if_neg ha]
      cases hc : cutAt 46 r with
      | nil => exact absurd hc (cutAt_ne _ _)
      | cons s rest =>
        rw [ih, hc, cg_cut a r s rest hc]
        simp only [List.map_cons, List.sum_cons, inv]; omega
end
theorem cutAt_dotless (c : Nat) : ∀ (t : List Nat), ∀ s ∈ cutAt c t, c ∉ s ∧ ∀ x ∈ s, x ∈ t
  | [], s, h => by
    unfold cutAt at h; rw [List.mem_singleton.mp h]; exact ⟨by simp, fun _ h => nomatch h⟩
  | a :: r, s, h => by
    have ih := cutAt_dotless c r
    unfold cutAt at h
    by_cases ha : a = c
    · rw [if_pos ha] at h
      rcases List.mem_cons.mp h with rfl | h
      · exact ⟨by simp, fun _ h => nomatch h⟩
      · exact ⟨(ih s h).1, fun x hx => List.mem_cons_of_mem _ ((ih s h).2 x hx)⟩
    · rw [if_neg ha] at h
      cases hc : cutAt c r with
      | nil => exact absurd hc (cutAt_ne _ _)
      | cons s' rest =>
        rw [hc] at h ih
        rcases List.mem_cons.mp h with rfl | h
        · have := ih s' (List.mem_cons_self ..)
          refine ⟨fun hx => ?_, fun x hx => ?_⟩
          · rcases List.mem_cons.mp hx with hx | hx
            · exact ha hx.symm
            · exact this.1 hx
          · rcases List.mem_cons.mp hx with hx | hx
            · exact hx ▸ List.mem_cons_self ..
            · exact List.mem_cons_of_mem _ (this.2 x hx)
        · have := ih s (List.mem_cons_of_mem _ h)
          exact ⟨this.1, fun x hx => List.mem_cons_of_mem _ (this.2 x hx)⟩
end Mine
namespace Mine
open PySem PySem.W PyProof.Rows PySem.Calls
/-- the questions of a tree lie below n, and with the answers f its end is in Q -/
def Ends {α : Type} (f : Nat → Nat → Bool) (n : Nat) : KasT α → (α → Prop) → Prop
  | .ret a, Q => Q a
  | .ask i j k, Q => i < n ∧ j < n ∧ Ends f n (k (f i j)) Q
theorem Ends.mono {α : Type} {f : Nat → Nat → Bool} {n : Nat} {Q Q' : α → Prop} (h : ∀ a, Q a → Q' a) : ∀ {t : KasT α}, Ends f n t Q → Ends f n t Q'
  | .ret _, x => h _ x
  | .ask _ _ _, x => ⟨x.1, x.2.1, Ends.mono h x.2.2⟩
theorem Ends.bind {α β : Type} {f : Nat → Nat → Bool} {n : Nat} {g : α → KasT β} {Q : β → Prop} : ∀ {t : KasT α}, Ends f n t (fun a => Ends f n (g a) Q) → Ends f n (t.bind g) Q
  | .ret _, x => x
  | .ask _ _ _, x => ⟨x.1, x.2.1, Ends.bind x.2.2⟩
theorem Ends.wp {α : Type} {f : Nat → Nat → Bool} {n : Nat} {cmp : Nat → Nat → (Bool → Shared → Prop) → Shared → Prop} {s : Shared} {R : α → Prop} {Q : α → Shared → Prop}
    (hc : ∀ i j C, i < n → j < n → C (f i j) s → cmp i j C s) (hq : ∀ a, R a → Q a s) : ∀ {t : KasT α}, Ends f n t R → t.kasWp cmp Q s
  | .ret a, x => hq a x
  | .ask i j k, x => hc i j _ x.1 x.2.1 (Ends.wp hc hq x.2.2)

structure LtOk (lt : Nat → Nat → Bool) : Prop where
  irr : ∀ a, lt a a = false
  tr : ∀ a b c, lt a b = true → lt b c = true → lt a c = true
  tot : ∀ a b, a ≠ b → lt a b = false → lt b a = true
def OkP (n : Nat) (p : Array Nat) : Prop := p.toList.Perm (List.range n)
abbrev gd (p : Array Nat) (i : Nat) : Nat := p.getD i 0
theorem gd_congr {p q : Array Nat} {i j : Nat} (h : p[i]? = q[j]?) : gd p i = gd q j := by
  rw [show gd p i = (p[i]?).getD 0 by simp [gd], show gd q j = (q[j]?).getD 0 by simp [gd], h]
theorem OkP.size {n : Nat} {p : Array Nat} (h : OkP n p) : p.size = n := by
  have := h.length_eq; simpa using this
theorem OkP.lt {n : Nat} {p : Array Nat} (h : OkP n p) {i : Nat} (hi : i < n) : gd p i < n := by
  have hs := h.size
  have : gd p i ∈ p.toList := by
    have hi' : i < p.size := by omega
    rw [show gd p i = p[i] by simp [gd, hi']]; simp
  have := h.mem_iff.mp this
  simpa using this
theorem OkP.inj {n : Nat} {p : Array Nat} (h : OkP n p) {i j : Nat} (hi : i < n) (hj : j < n) (e : i ≠ j) : gd p i ≠ gd p j := by
  have hs := h.size
  have hn : p.toList.Nodup := h.nodup_iff.mpr List.nodup_range
  intro e2
  rw [show gd p i = p.toList[i]'(by simp; omega) by simp [gd, show i < p.size by omega], show gd p j = p.toList[j]'(by simp; omega) by simp [gd, show j < p.size by omega]] at e2
  have hq := List.pairwise_iff_getElem.mp hn
  rcases Nat.lt_or_gt_of_ne e with h1 | h1
  · exact hq i j (by simp; omega) (by simp; omega) h1 e2
  · exact hq j i (by simp; omega) (by simp; omega) h1 e2.symm
def Asc (lt : Nat → Nat → Bool) (p : Array Nat) (k : Nat) : Prop := ∀ t, 0 < t → t < k → lt (gd p (t - 1)) (gd p t) = true
section
variable {lt : Nat → Nat → Bool} (O : LtOk lt)
include O
theorem Asc.pair {p : Array Nat} {k : Nat} (h : Asc lt p k) : ∀ (d i j : Nat), j = i + d + 1 → j < k → lt (gd p i) (gd p j) = true
  | 0, i, j, e, hj => by
    have := h j (by omega) hj
    rwa [show j - 1 = i by omega] at this
  | d + 1, i, j, e, hj => O.tr _ _ _ (Asc.pair h d i (j - 1) (by omega) (by omega)) (h j (by omega) hj)
theorem flip {n : Nat} {p : Array Nat} (h : OkP n p) {i j : Nat} (hi : i < n) (hj : j < n) (e : i ≠ j) (hl : lt (gd p i) (gd p j) = false) : lt (gd p j) (gd p i) = true :=
  O.tot _ _ (h.inj hi hj e) hl
theorem asc_ends {N : Nat} {p : Array Nat} (hp : OkP N p) : ∀ f n, 1 ≤ n → n + f ≤ N →
    Ends lt N (kas_asc p f n) (fun m => n ≤ m ∧ m ≤ n + f ∧ (∀ t, n ≤ t → t < m → lt (gd p (t - 1)) (gd p t) = true) ∧ (m < n + f → lt (gd p m) (gd p (m - 1)) = true))
  | 0, n, _, _ => ⟨Nat.le_refl _, Nat.le_refl _, fun t h1 h2 => by omega, fun h => by omega⟩
  | f + 1, n, h1, hn => by
    refine ⟨hp.lt (by omega), hp.lt (by omega), ?_⟩
    cases hc : lt (gd p n) (gd p (n - 1)) with
    | true =>
      dsimp only; rw [if_pos rfl]
      exact ⟨Nat.le_refl _, by omega, fun t h1 h2 => by omega, fun _ => hc⟩
    | false =>
      dsimp only; rw [if_neg (by simp)]
      refine Ends.mono ?_ (asc_ends hp f (n + 1) (by omega) (by omega))
      rintro m ⟨a, b, c, d⟩
      refine ⟨by omega, by omega, fun t h1 h2 => ?_, fun h => d (by omega)⟩
      by_cases ht : t = n
      · subst ht; exact flip O hp (by omega) (by omega) (by omega) hc
      · exact c t (by omega) h2
theorem desc_ends {N : Nat} {p : Array Nat} (hp : OkP N p) : ∀ f n, 1 ≤ n → n + f ≤ N →
    Ends lt N (kas_desc f p n 0) (fun r => r.1 = p ∧ r.2.2 = 0 ∧ n ≤ r.2.1 ∧ r.2.1 ≤ n + f ∧ ∀ t, n ≤ t → t < r.2.1 → lt (gd p t) (gd p (t - 1)) = true)
  | 0, n, _, _ => ⟨rfl, rfl, Nat.le_refl _, Nat.le_refl _, fun t h1 h2 => by simp at h2; omega⟩
  | f + 1, n, h1, hn => by
    refine ⟨hp.lt (by omega), hp.lt (by omega), ?_⟩
    cases hc : lt (gd p n) (gd p (n - 1)) with
    | true =>
      dsimp only; rw [if_pos rfl, if_neg (by omega)]
      refine Ends.mono ?_ (desc_ends hp f (n + 1) (by omega) (by omega))
      rintro ⟨q, m, z⟩ ⟨a, b, c, d, e⟩
      simp only at a b c d e
      refine ⟨a, b, by show n ≤ m; omega, by show m ≤ _; omega, fun t h1 h2 => ?_⟩
      by_cases ht : t = n
      · subst ht; exact hc
      · exact e t (by omega) h2
    | false =>
      dsimp only; rw [if_neg (by simp)]
      refine ⟨hp.lt (by omega), hp.lt (by omega), ?_⟩
      have hd := flip O hp (by omega) (by omega) (by omega) hc
      rw [hd]; dsimp only; rw [if_pos rfl]
      exact ⟨rfl, rfl, Nat.le_refl _, by show n ≤ _; omega, fun t h1 h2 => by simp at h2; omega⟩
omit O in
theorem gd_rev {p : Array Nat} {n k : Nat} (hn : n ≤ p.size) : gd (kas_rev p 0 n) k = if k < n then gd p (n - 1 - k) else gd p k := by
  have := getElem?_mirror_all (xs := p) (i := 0) hn k
  by_cases h : k < n
  · rw [if_pos ⟨Nat.zero_le _, h⟩] at this
    rw [if_pos h, show n - 1 - k = 0 + n - 1 - k by omega]
    exact gd_congr this
  · rw [if_neg (by omega)] at this
    rw [if_neg h]
    exact gd_congr this
omit O in
theorem OkP.rev {n k : Nat} {p : Array Nat} (h : OkP n p) : OkP n (kas_rev p 0 k) := (Array.perm_iff_toList_perm.mp (mirror_perm p 0 k _)).trans h
theorem tail3_ends {N n : Nat} {p : Array Nat} (hp : OkP N p) (h1 : 1 ≤ n) (hn : n ≤ N) (hd : ∀ t, 1 ≤ t → t < n → lt (gd p t) (gd p (t - 1)) = true) :
    Ends lt N (kas_tail3 n N p) (fun r => OkP N r.2 ∧ 1 ≤ r.1 ∧ r.1 ≤ N ∧ Asc lt r.2 r.1) := by
  have hs := hp.size
  refine Ends.bind (Ends.mono ?_ (asc_ends O hp.rev (N - n) n h1 (by omega)))
  rintro m ⟨a, b, c, d⟩
  refine ⟨hp.rev, by show 1 ≤ m; omega, by show m ≤ N; omega, fun t t1 t2 => ?_⟩
  by_cases ht : t < n
  · show lt (gd (kas_rev p 0 n) (t - 1)) (gd (kas_rev p 0 n) t) = true
    rw [gd_rev (by omega), gd_rev (by omega), if_pos (by omega), if_pos ht]
    have := hd (n - 1 - (t - 1)) (by omega) (by omega)
    rwa [show n - 1 - (t - 1) - 1 = n - 1 - t by omega] at this
  · exact c t (by omega) t2
theorem count_ends {N : Nat} {p : Array Nat} (hp : OkP N p) (hN : 1 ≤ N) : Ends lt N (kas_count N p) (fun r => OkP N r.2 ∧ 1 ≤ r.1 ∧ r.1 ≤ N ∧ Asc lt r.2 r.1) := by
  refine Ends.bind (Ends.mono ?_ (asc_ends O hp (N - 1) 1 (Nat.le_refl _) (by omega)))
  rintro n ⟨a, b, c, d⟩
  have hA : Asc lt p n := fun t t1 t2 => c t (by omega) t2
  by_cases hn : n = N
  · rw [if_pos (by simpa using hn)]
    exact ⟨hp, a, by show n ≤ N; omega, hA⟩
  · rw [if_neg (by simpa using hn)]
    by_cases h1 : n > 1
    · rw [if_pos h1]
      refine ⟨hp.lt (by omega), hp.lt (by omega), ?_⟩
      have : lt (gd p 0) (gd p (n - 1)) = true := hA.pair O (n - 2) 0 (n - 1) (by omega) (by omega)
      rw [this]; dsimp only; rw [if_pos rfl]
      exact ⟨hp, a, by show n ≤ N; omega, hA⟩
    · rw [if_neg h1]
      have hn1 : n = 1 := by omega
      subst hn1
      have d' := d (by omega)
      refine Ends.bind (Ends.mono ?_ (desc_ends O hp (N - (1 + 1)) (1 + 1) (by omega) (by omega)))
      rintro ⟨q, m, z⟩ ⟨e1, e2, e3, e4, e5⟩
      simp only at e1 e2 e3 e4 e5
      subst e1; subst e2
      rw [if_neg (by simp)]
      refine tail3_ends O hp (by show 1 ≤ m; omega) (by show m ≤ N; omega) fun t t1 t2 => ?_
      by_cases ht : t = 1
      · subst ht; exact d'
      · exact e5 t (by omega) t2
theorem place_ends {N k : Nat} {p : Array Nat} (hp : OkP N p) (hk : k < N) (hA : Asc lt p k) : ∀ f l r, l ≤ r → r ≤ k → r - l ≤ f → (∀ t, t < l → lt (gd p t) (gd p k) = true) → (∀ t, r ≤ t → t < k → lt (gd p k) (gd p t) = true) →
    Ends lt N (kas_place p k f l r) (fun x => x ≤ k ∧ (∀ t, t < x → lt (gd p t) (gd p k) = true) ∧ ∀ t, x ≤ t → t < k → lt (gd p k) (gd p t) = true)
  | 0, l, r, h1, h2, h3, h4, h5 => ⟨by omega, h4, fun t a b => h5 t (by omega) b⟩
  | f + 1, l, r, h1, h2, h3, h4, h5 => by
    unfold kas_place
    split
    · exact ⟨by omega, h4, fun t a b => h5 t (by omega) b⟩
    · rename_i hlr
      have hm : l ≤ (l + r) / 2 ∧ (l + r) / 2 < r := by omega
      generalize (l + r) / 2 = mid at hm
      refine ⟨hp.lt (by omega), hp.lt (by omega), ?_⟩
      cases hc : lt (gd p k) (gd p mid) with
      | true =>
        dsimp only; rw [if_pos rfl]
        refine place_ends hp hk hA f l mid (by omega) (by omega) (by omega) h4 fun t a b => ?_
        by_cases ht : t = mid
        · subst ht; exact hc
        · exact O.tr _ _ _ hc (hA.pair O (t - mid - 1) mid t (by omega) b)
      | false =>
        dsimp only; rw [if_neg (by simp)]
        have hc' := flip O hp (by omega) (by omega) (by omega) hc
        refine place_ends hp hk hA f (mid + 1) r (by omega) h2 (by omega) (fun t a => ?_) h5
        by_cases ht : t = mid
        · subst ht; exact hc'
        · exact O.tr _ _ _ (hA.pair O (mid - t - 1) t mid (by omega) (by omega)) hc'
omit O in
theorem gd_bubble {p : Array Nat} {k x t : Nat} (hk : k < p.size) (hx : x ≤ k) : gd (bubble p k (k - x)) t = if t = x then gd p k else if x < t ∧ t ≤ k then gd p (t - 1) else gd p t := by
  have := getElem?_bubble hk (k - x) (by omega) t
  rw [show k - (k - x) = x by omega] at this
  by_cases h1 : t = x
  · rw [if_pos h1] at this ⊢; exact gd_congr this
  · rw [if_neg h1] at this ⊢
    by_cases h2 : x < t ∧ t ≤ k
    · rw [if_pos h2] at this ⊢; exact gd_congr this
    · rw [if_neg h2] at this ⊢; exact gd_congr this
theorem bin_ends {N : Nat} : ∀ (f k : Nat) (p : Array Nat), k + f = N → OkP N p → Asc lt p k → Ends lt N (kas_bin f p k) (fun q => OkP N q ∧ Asc lt q N)
  | 0, k, p, e, hp, hA => ⟨hp, by rw [show N = k by omega]; exact hA⟩
  | f + 1, k, p, e, hp, hA => by
    have hs := hp.size
    refine Ends.bind (Ends.mono ?_ (place_ends O hp (by omega) hA k 0 k (Nat.zero_le _) (Nat.le_refl _) (by omega) (fun t h => by omega) (fun t a b => by omega)))
    rintro x ⟨a, b, c⟩
    refine bin_ends f (k + 1) _ (by omega) ((Array.perm_iff_toList_perm.mp (bubble_perm p k _)).trans hp) fun t t1 t2 => ?_
    rw [gd_bubble (by omega) a, gd_bubble (by omega) a]
    by_cases h1 : t = x
    · rw [if_pos h1, if_neg (by omega), if_neg (by omega)]
      exact b (t - 1) (by omega)
    · rw [if_neg h1]
      by_cases h2 : x < t
      · rw [if_pos (⟨h2, by omega⟩ : x < t ∧ t ≤ k)]
        by_cases h3 : t - 1 = x
        · rw [if_pos h3]; exact c (t - 1) (by omega) (by omega)
        · rw [if_neg h3, if_pos (by omega)]
          exact hA (t - 1) (by omega) (by omega)
      · rw [if_neg (by omega), if_neg (by omega), if_neg (by omega)]
        exact hA t t1 (by omega)
theorem sort_ends {N : Nat} (hN : 1 ≤ N) : Ends lt N (kas_sort N) (fun q => OkP N q ∧ Asc lt q N) := by
  have h0 : OkP N (List.toArray (List.range N)) := List.Perm.refl _
  refine Ends.bind (Ends.mono ?_ (count_ends O h0 hN))
  rintro ⟨n, p⟩ ⟨a, b, c, d⟩
  simp only at a b c d
  split
  · rename_i h
    simp only at h
    rw [show max (n, p).1 1 = n by show max n 1 = n; omega]
    exact bin_ends O (N - n) n p (by omega) a d
  · rename_i h
    simp only at h
    have : n = N := by omega
    subst this
    exact ⟨a, d⟩
end
end Mine
namespace Mine
open PySem PySem.W PyProof.Rows PySem.Calls
theorem ltL_irr : ∀ a : List Int, ltL a a = false
  | [] => rfl
  | x :: xs => by rw [ltL, if_pos rfl]; exact ltL_irr xs
theorem ltL_tr : ∀ a b c : List Int, ltL a b = true → ltL b c = true → ltL a c = true
  | [], [], _, h, _ => by simp [ltL] at h
  | _ :: _, [], _, h, _ => by simp [ltL] at h
  | _, _ :: _, [], _, h => by simp [ltL] at h
  | [], _ :: _, _ :: _, _, _ => rfl
  | x :: xs, y :: ys, z :: zs, h1, h2 => by
    unfold ltL at h1 h2 ⊢
    by_cases e1 : x = y
    · rw [if_pos e1] at h1
      by_cases e2 : y = z
      · rw [if_pos e2] at h2
        rw [if_pos (e1.trans e2)]; exact ltL_tr xs ys zs h1 h2
      · rw [if_neg e2] at h2
        rw [if_neg (by rw [e1]; exact e2), e1]; exact h2
    · rw [if_neg e1] at h1
      by_cases e2 : y = z
      · rw [← e2, if_neg e1]; exact h1
      · rw [if_neg e2] at h2
        have h1 := of_decide_eq_true h1
        have h2 := of_decide_eq_true h2
        rw [if_neg (by omega)]; exact decide_eq_true (by omega)
theorem ltL_tot : ∀ a b : List Int, a ≠ b → ltL a b = false → ltL b a = true
  | [], [], h, _ => absurd rfl h
  | [], _ :: _, _, h => by simp [ltL] at h
  | _ :: _, [], _, _ => rfl
  | x :: xs, y :: ys, h, h1 => by
    unfold ltL at h1 ⊢
    by_cases e1 : x = y
    · subst e1
      rw [if_pos rfl] at h1 ⊢
      exact ltL_tot xs ys (fun e => h (by rw [e])) h1
    · rw [if_neg e1] at h1
      rw [if_neg (fun e => e1 e.symm)]
      have h1 := of_decide_eq_false h1
      exact decide_eq_true (by omega)
theorem ltL_snoc : ∀ (a b : List Int) (i j : Int), a.length = b.length → ltL (a ++ [i]) (b ++ [j]) = if a = b then decide (i < j) else ltL a b
  | [], [], i, j, _ => by
    simp only [List.nil_append, if_true]
    unfold ltL
    by_cases e : i = j
    · rw [if_pos e]; simp [ltL, e]
    · rw [if_neg e]
  | [], _ :: _, _, _, h => by simp at h
  | _ :: _, [], _, _, h => by simp at h
  | x :: xs, y :: ys, i, j, h => by
    simp only [List.cons_append]
    unfold ltL
    by_cases e : x = y
    · subst e
      rw [if_pos rfl, if_pos rfl, ltL_snoc xs ys i j (by simpa using h)]
      by_cases e2 : xs = ys
      · rw [if_pos e2, if_pos (by rw [e2])]
      · rw [if_neg e2, if_neg (by simpa using e2)]
    · rw [if_neg e, if_neg e, if_neg (by simp [e])]
/-- the order of the marked places -/
def ltK (ds : Nat → List Int) (i j : Nat) : Bool := ltL (ds i ++ [(i : Int)]) (ds j ++ [(j : Int)])
theorem ltK_ok (ds : Nat → List Int) : LtOk (ltK ds) where
  irr a := ltL_irr _
  tr a b c := ltL_tr _ _ _
  tot a b h := ltL_tot _ _ fun e => h (by
    have := congrArg List.getLast? e
    simp at this; omega)
/-- the wrong order of two signs by their marks -/
def gtM (mk : Nat → List Int) (a b : Nat) : Bool := decide (a ≠ 46) && decide (b ≠ 46) && ltL (mk b) (mk a)
theorem gtM_ok (mk : Nat → List Int) : GtOk (gtM mk) where
  asym a b h := by
    simp only [gtM, Bool.and_eq_true] at h
    cases e : gtM mk b a with
    | false => rfl
    | true =>
      simp only [gtM, Bool.and_eq_true] at e
      have := ltL_tr _ _ _ h.2 e.2
      rw [ltL_irr] at this; cases this
  trans a b c h1 h2 := by
    simp only [gtM, Bool.and_eq_true] at h1 h2 ⊢
    exact ⟨⟨h1.1.1, h2.1.2⟩, ltL_tr _ _ _ h2.2 h1.2⟩
  neg a b c hb h1 h2 := by
    cases e : gtM mk a c with
    | false => rfl
    | true =>
      simp only [gtM, Bool.and_eq_true] at e
      have hb' : decide (b ≠ 46) = true := by simpa using hb
      simp only [gtM, e.1.1, e.1.2, hb', Bool.true_and] at h1 h2
      by_cases e1 : mk a = mk b
      · rw [e1] at e; rw [h2] at e; exact absurd e.2 (by simp)
      · have h3 := ltL_tot _ _ (fun e' => e1 e'.symm) h1
        have := ltL_tr _ _ _ e.2 h3
        rw [h2] at this; cases this
  dotL a := by simp [gtM]
  dotR a := by simp [gtM]
section
variable {lt : Nat → Nat → Bool}
def insI (lt : Nat → Nat → Bool) (i : Nat) : List Nat → List Nat
  | [] => [i]
  | x :: xs => if lt x i = true then x :: insI lt i xs else i :: x :: xs
def isort (lt : Nat → Nat → Bool) : List Nat → List Nat
  | [] => []
  | i :: r => insI lt i (isort lt r)
theorem insI_perm (i : Nat) : ∀ l, (insI lt i l).Perm (i :: l)
  | [] => List.Perm.refl _
  | x :: xs => by
    unfold insI
    split
    · exact ((insI_perm i xs).cons x).trans (List.Perm.swap ..)
    · exact List.Perm.refl _
theorem isort_perm : ∀ l, (isort lt l).Perm l
  | [] => List.Perm.refl _
  | i :: r => (insI_perm i _).trans ((isort_perm r).cons i)
theorem insI_pair (O : LtOk lt) (i : Nat) : ∀ l, i ∉ l → l.Pairwise (fun a b => lt a b = true) → (insI lt i l).Pairwise (fun a b => lt a b = true)
  | [], _, _ => by simp [insI]
  | x :: xs, hn, h => by
    have hx := List.pairwise_cons.mp h
    unfold insI
    by_cases e : lt x i = true
    · rw [if_pos e]
      refine List.pairwise_cons.mpr ⟨fun y hy => ?_, insI_pair O i xs (fun q => hn (List.mem_cons_of_mem _ q)) hx.2⟩
      rcases List.mem_cons.mp ((insI_perm i xs).mem_iff.mp hy) with rfl | hy
      · exact e
      · exact hx.1 y hy
    · rw [if_neg e]
      have e' := O.tot x i (fun q => hn (q ▸ List.mem_cons_self ..)) (by simpa using e)
      refine List.pairwise_cons.mpr ⟨fun y hy => ?_, h⟩
      rcases List.mem_cons.mp hy with rfl | hy
      · exact e'
      · exact O.tr _ _ _ e' (hx.1 y hy)
theorem isort_pair (O : LtOk lt) : ∀ l : List Nat, l.Nodup → (isort lt l).Pairwise (fun a b => lt a b = true)
  | [], _ => List.Pairwise.nil
  | i :: r, h => by
    have hr := List.nodup_cons.mp h
    exact insI_pair O i _ (fun q => hr.1 ((isort_perm r).mem_iff.mp q)) (isort_pair O r hr.2)
theorem sorted_uniq (O : LtOk lt) : ∀ (a b : List Nat), a.Perm b → a.Pairwise (fun a b => lt a b = true) → b.Pairwise (fun a b => lt a b = true) → a = b
  | [], b, h, _, _ => by have := h.length_eq; exact (List.eq_nil_of_length_eq_zero this.symm).symm
  | x :: xs, [], h, _, _ => by have := h.length_eq; simp at this
  | x :: xs, y :: ys, h, ha, hb => by
    have ha' := List.pairwise_cons.mp ha
    have hb' := List.pairwise_cons.mp hb
    have e : x = y := by
      rcases List.mem_cons.mp (h.mem_iff.mp (List.mem_cons_self ..)) with e | e
      · exact e
      · rcases List.mem_cons.mp (h.mem_iff.mpr (List.mem_cons_self (a := y))) with e2 | e2
        · exact e2.symm
        · have := O.tr _ _ _ (hb'.1 x e) (ha'.1 y e2)
          rw [O.irr] at this; cases this
    subst e
    rw [sorted_uniq O xs ys (List.Perm.cons_inv h) ha'.2 hb'.2]
theorem asc_pairwise (O : LtOk lt) {N : Nat} {p : Array Nat} (hp : OkP N p) (hA : Asc lt p N) : p.toList.Pairwise (fun a b => lt a b = true) := by
  have hs := hp.size
  rw [List.pairwise_iff_getElem]
  intro i j hi hj hij
  have := hA.pair O (j - i - 1) i j (by omega) (by simpa [hs] using hj)
  simp at hi hj
  simpa [gd, hi, hj] using this
theorem insI_map {gt : Nat → Nat → Bool} {zg : Nat → Nat} (i : Nat) : ∀ m : List Nat, (∀ x ∈ m, lt x i = gt (zg i) (zg x)) → (insI lt i m).map zg = insL gt (zg i) (m.map zg)
  | [], _ => rfl
  | x :: xs, h => by
    unfold insI
    simp only [List.map_cons, insL]
    rw [← h x (List.mem_cons_self ..)]
    split
    · rw [List.map_cons, insI_map i xs fun y hy => h y (List.mem_cons_of_mem _ hy)]
    · rfl
theorem isort_map {gt : Nat → Nat → Bool} {zg : Nat → Nat} : ∀ l : List Nat, l.Pairwise (fun i x => lt x i = gt (zg i) (zg x)) → (isort lt l).map zg = dsort gt (l.map zg)
  | [], _ => rfl
  | i :: r, h => by
    have hr := List.pairwise_cons.mp h
    show (insI lt i (isort lt r)).map zg = insL gt (zg i) (dsort gt (r.map zg))
    rw [insI_map i _ fun x hx => hr.1 x ((isort_perm r).mem_iff.mp hx), isort_map r hr.2]
end
theorem map_getD_range (z : List Nat) : (List.range z.length).map (fun i => z.getD i 0) = z := by
  apply List.ext_getElem
  · simp
  · intro i h1 h2
    simp [List.getD, h2]
theorem sorted_letters (mk : Nat → List Int) (m : Nat) (z : List Nat) (hz : ∀ c ∈ z, c ≠ 46) (hm : ∀ c ∈ z, (mk c).length = m) (p : Array Nat) (hp : OkP z.length p) (hA : Asc (ltK fun i => mk (z.getD i 0)) p z.length) :
    p.toList.map (fun i => z.getD i 0) = dsort (gtM mk) z := by
  have O := ltK_ok fun i => mk (z.getD i 0)
  have hpp := asc_pairwise O hp hA
  have hsp := isort_pair O (List.range z.length) List.nodup_range
  rw [sorted_uniq O _ _ (hp.trans (isort_perm _).symm) hpp hsp]
  have : (isort (ltK fun i => mk (z.getD i 0)) (List.range z.length)).map (fun i => z.getD i 0) = dsort (gtM mk) ((List.range z.length).map fun i => z.getD i 0) := by
    refine isort_map _ ?_
    rw [List.pairwise_iff_getElem]
    intro i j hi hj hij
    simp only [List.length_range] at hi hj
    simp only [List.getElem_range]
    have mi : z.getD i 0 ∈ z := by simp [List.getD, hi]
    have mj : z.getD j 0 ∈ z := by simp [List.getD, hj]
    show ltL (mk (z.getD j 0) ++ [(j : Int)]) (mk (z.getD i 0) ++ [(i : Int)]) = _
    rw [ltL_snoc _ _ _ _ ((hm _ mj).trans (hm _ mi).symm)]
    unfold gtM
    rw [decide_eq_true (hz _ mi), decide_eq_true (hz _ mj), Bool.true_and, Bool.true_and]
    split
    · rename_i e
      rw [e, ltL_irr]
      exact decide_eq_false (by omega)
    · rfl
  rw [this, map_getD_range]
/-- how many signs of a row are wrong before a sign -/
def bef (gt : Nat → Nat → Bool) (c : Nat) (l : List Nat) : Nat := (l.filter fun x => gt x c).length
theorem cg_snoc {gt : Nat → Nat → Bool} (a c : Nat) : ∀ l : List Nat, (∀ x ∈ l, x ≠ 46) → c ≠ 46 → cg gt a (l ++ [c]) = cg gt a l + if gt a c = true then 1 else 0
  | [], _, hc => by simp [cg, hc]
  | x :: xs, h, hc => by
    have hx := h x (List.mem_cons_self ..)
    show cg gt a (x :: (xs ++ [c])) = _
    rw [cg, cg, if_neg hx, if_neg hx, cg_snoc a c xs (fun y hy => h y (List.mem_cons_of_mem _ hy)) hc]; omega
theorem inv_snoc {gt : Nat → Nat → Bool} (c : Nat) (hc : c ≠ 46) : ∀ l : List Nat, (∀ x ∈ l, x ≠ 46) → inv gt (l ++ [c]) = inv gt l + bef gt c l
  | [], _ => by simp [inv, cg, bef]
  | a :: l, h => by
    show inv gt (a :: (l ++ [c])) = _
    have h' : ∀ x ∈ l, x ≠ 46 := fun y hy => h y (List.mem_cons_of_mem _ hy)
    rw [inv, inv, cg_snoc a c l h' hc, inv_snoc c hc l h']
    unfold bef
    by_cases e : gt a c = true
    · simp [e]; omega
    · simp [e]; omega
theorem cntIn_eq (mk : Nat → List Int) (z : List Nat) (hz : ∀ c ∈ z, c ≠ 46) (j : Nat) (hj : j < z.length) : ∀ i, i ≤ z.length → cntIn (z.map mk) j i = bef (gtM mk) z[j] (z.take i)
  | 0, _ => by simp [cntIn, bef]
  | i + 1, hi => by
    have hi' : i < z.length := by omega
    rw [cntIn, cntIn_eq mk z hz j hj i (by omega), List.take_add_one, List.getElem?_eq_getElem hi']
    unfold bef
    rw [List.filter_append]
    have e : ltL ((z.map mk).getD j []) ((z.map mk).getD i []) = gtM mk z[i] z[j] := by
      unfold gtM
      rw [decide_eq_true (hz _ (List.getElem_mem hi')), decide_eq_true (hz _ (List.getElem_mem hj))]
      simp [List.getD, hi', hj]
    rw [e]
    simp only [Option.toList_some, List.length_append]
    by_cases h : gtM mk z[i] z[j] = true
    · simp [h]
    · simp [h]
theorem cntOut_eq (mk : Nat → List Int) (z : List Nat) (hz : ∀ c ∈ z, c ≠ 46) : ∀ j, j ≤ z.length → cntOut (z.map mk) j = inv (gtM mk) (z.take j)
  | 0, _ => by simp [cntOut, inv]
  | j + 1, hj => by
    have hj' : j < z.length := by omega
    rw [cntOut, cntOut_eq mk z hz j (by omega), cntIn_eq mk z hz j hj' j (by omega), List.take_add_one, List.getElem?_eq_getElem hj']
    exact (inv_snoc _ (hz _ (List.getElem_mem hj')) _ fun x hx => hz x (List.mem_of_mem_take hx)).symm
theorem cntOut_all (mk : Nat → List Int) (z : List Nat) (hz : ∀ c ∈ z, c ≠ 46) : cntOut (z.map mk) z.length = inv (gtM mk) z := by
  rw [cntOut_eq mk z hz _ (Nat.le_refl _), List.take_length]
end Mine
namespace Mine
open PySem PySem.W PyProof.Rows PySem.Calls PySem.Spec PyProof.Rows.LCg
section
variable {prog : Program} {w : World} {A : Around} {E : Value → Shared → Prop} {s : Shared} {h₀ : Heap} {L a : Addr} {m : Str → Option Value} {news : List (Addr × Obj)} {vs : List Value}
/-- one question of the sort: two lists of ints -/
theorem keyLt_lists {l b : Addr} {us ws : List Value} {ns ms : List Int} {n n2 : Nat} {Q : Bool → Shared → Prop} (hl : s.heap.get? l = some { cls := .type "list", data := .seq us.toArray n }) (hb : s.heap.get? b = some { cls := .type "list", data := .seq ws.toArray n2 }) (hi : IntsAre us ns) (hj : IntsAre ws ms)
    (hu : A.units < cLine) (h : Q (ltL ns ms) s) : wpAny (model prog w) A (keyLt' oneType' (.ref l) (.ref b)) Q E s := by
  rw [keyLt'_oneType, oneLt'_eq]
  simp only [if_true]
  refine wpAny_bind (wpAny_cRoomFor hu ?_)
  refine wpAny_bind (wpAny_callSpecialIfBound?_slot ⟨_, hl, rfl⟩ PySem.F.slot_list_lt (call_meets PySem.F.slot_list_lt ⟨_, hl, rfl⟩ PySem.F.entry_list_lt (PySem.F.args_list_lt_2 _ _) (list_lt l b us ws ns ms n n2 hi hj) ⟨hl, hb, ?_⟩))
  exact wpAny_truthy_bool h
/-- the sort of a list of at most one thing -/
theorem short_sort {n : Nat} {P : PySem.Fin → Shared → Prop} (F : Fr h₀ L s.heap m) (N : News h₀ L s.heap news) (ho : s.heap.get? a = some (seqObj "list" vs.toArray n)) (haL : a ≠ L) (ha0 : h₀.get? a = none) (hna : ∀ p ∈ news, p.1 ≠ a)
    (h1 : vs.length < 2) (h : ∀ c h', Fr h₀ L h' m → News h₀ L h' ((a, seqObj "list" vs.toArray c) :: news) → P (.done (.ret .none)) { s with heap := h' }) :
    wpAny (model prog w) A (Builtin.«list.sort» ⟨[.ref a], []⟩) P E s := by
  have s1 := Heap.SameBut.update s.heap a (Obj.mapSeq fun _ => (#[] : Array Value))
  obtain ⟨e1, ho1⟩ : ∃ e1, (s.heap.update a (Obj.mapSeq fun _ => (#[] : Array Value))).get? a = some (seqObj "list" #[] e1) := ⟨_, get?_update_seq ho fun _ => #[]⟩
  have F3 : Fr h₀ L (((s.heap.update a (Obj.mapSeq fun _ => (#[] : Array Value))).push (seqObj "tuple" vs.toArray 0)).push (seqObj "list" #[] 0)) m := ((kas_fr F s1 haL ha0).push _).push _
  have N2 : News h₀ L (((s.heap.update a (Obj.mapSeq fun _ => (#[] : Array Value))).push (seqObj "tuple" vs.toArray 0)).push (seqObj "list" #[] 0)) news :=
    (kas_news N s1 hna).grown fun b x e => Heap.get?_push_of_some _ (Heap.get?_push_of_some _ e)
  have ho3 : (((s.heap.update a (Obj.mapSeq fun _ => (#[] : Array Value))).push (seqObj "tuple" vs.toArray 0)).push (seqObj "list" #[] 0)).get? a = some (seqObj "list" #[] e1) := Heap.get?_push_of_some _ (Heap.get?_push_of_some _ ho1)
  rw [list_sort_plain]
  refine wpAny_bind (listItems_at ho rfl ?_)
  refine wpAny_bind (listUpdate_at ho rfl ?_ (by rw [List.size_toArray, sizeLine_eq]; omega) (Nat.zero_le _))
  refine wpAny_bind (seqEpoch_at ho1 rfl ?_)
  refine wpAny_bind (wpAny_newTuple ?_ (by show vs.length ≤ _; rw [sizeLine_eq]; omega))
  refine wpAny_bind (wpAny_newList ?_ (Nat.zero_le _))
  refine wpAny_holding ?_
  show wpAny (model prog w) A _ P E { s with heap := ((s.heap.update a (Obj.mapSeq fun _ => (#[] : Array Value))).push (seqObj "tuple" vs.toArray 0)).push (seqObj "list" #[] 0) }
  dsimp only
  have hn2 : vs.toArray.size < 2 := by rw [List.size_toArray]; omega
  rw [if_pos hn2, if_pos hn2]
  generalize ((s.heap.update a (Obj.mapSeq fun _ => (#[] : Array Value))).push (seqObj "tuple" vs.toArray 0)).push (seqObj "list" #[] 0) = h3 at F3 N2 ho3
  refine wpAny_bind (wpAny_pure ?_)
  refine wpAny_bind (wpAny_pure ?_)
  dsimp only
  have hout : (arrOf (SortSt.mk' general' (vs.toArray.zip vs.toArray) #[] 7 none)).map (·.2) = vs.toArray := by
    show (vs.toArray.zip vs.toArray).map (·.2) = vs.toArray
    apply Array.toList_inj.mp
    simp [List.map_snd_zip]
  rw [hout]
  refine wpAny_bind (seqEpoch_at ho3 rfl ?_)
  have s2 := Heap.SameBut.update h3 a (Obj.mapSeq fun _ => vs.toArray)
  obtain ⟨c2, hc2⟩ : ∃ c2, (h3.update a (Obj.mapSeq fun _ => vs.toArray)).get? a = some (seqObj "list" vs.toArray c2) := ⟨_, get?_update_seq ho3 fun _ => vs.toArray⟩
  refine wpAny_bind (listUpdate_at ho3 rfl ?_ (Nat.zero_le _) (by rw [List.size_toArray, sizeLine_eq]; omega))
  simp only [bne_self_eq_false, Bool.false_eq_true, if_false]
  refine wpAny_pure (h c2 _ (kas_fr F3 s2 haL ha0) fun p hp => ?_)
  rcases List.mem_cons.mp hp with rfl | hp
  · exact ⟨hc2, haL, ha0⟩
  · exact kas_news N2 s2 hna p hp
theorem sorted_short {l : Addr} {Q : Value → Shared → Prop} (F : Fr h₀ L s.heap m) (N : News h₀ L s.heap news) (hl : s.heap.IsList l vs.toArray) (h1 : vs.length < 2)
    (h : ∀ D c h', Fr h₀ L h' m → News h₀ L h' ((D, seqObj "list" vs.toArray c) :: news) → (∀ q ∈ news, q.1 ≠ D) → Q (.ref D) { s with heap := h' }) :
    wpAny (model prog w) A (call (.builtin "sorted") [.ref l]) Q E s := by
  refine Calls.call_function_entry kind_sorted plain_sorted entry_sorted (args_sorted1 _) ?_
  unfold Builtin.«sorted»
  refine wpAny_bind (m := checkCount "sorted" 1 1 _) (wpAny_pure ?_)
  refine wpAny_bind (collect_list hl ?_ (by rw [sizeLine_eq]; omega))
  refine wpAny_bind (wpAny_newList ?_ (by rw [sizeLine_eq]; omega))
  have hsz : ((s.heap.push (seqObj "list" #[] 0)).update s.heap.objs.size (Obj.mapSeq (· ++ vs.toArray))).objs.size = s.heap.objs.size + 1 := by
    rw [Heap.size_update, size_push']
  have hoL : (((s.heap.push (seqObj "list" #[] 0)).update s.heap.objs.size (Obj.mapSeq (· ++ vs.toArray))).push (seqObj "list" vs.toArray 0)).get? (s.heap.objs.size + 1) = some (seqObj "list" vs.toArray 0) := by
    rw [← hsz]; exact Heap.get?_push_size _ rfl
  have keep : ∀ b o, s.heap.get? b = some o → (((s.heap.push (seqObj "list" #[] 0)).update s.heap.objs.size (Obj.mapSeq (· ++ vs.toArray))).push (seqObj "list" vs.toArray 0)).get? b = some o := fun b o q => by
    have hlt : b < s.heap.objs.size := Heap.lt_size q
    rw [Heap.get?_push_ne _ _ _ (by rw [hsz]; exact Nat.ne_of_lt (Nat.lt_succ_of_lt hlt)), Heap.get?_update_ne _ _ _ _ (Nat.ne_of_lt hlt), Heap.get?_push_ne _ _ _ (Nat.ne_of_lt hlt)]
    exact q
  have hL : L < s.heap.objs.size := F.ns.lt
  show wpAny _ _ _ _ _ { s with heap := ((s.heap.push (seqObj "list" #[] 0)).update s.heap.objs.size (Obj.mapSeq (· ++ vs.toArray))).push (seqObj "list" vs.toArray 0) }
  rw [hsz]
  have hne : ∀ p ∈ news, p.1 ≠ s.heap.objs.size + 1 := fun p hp => Nat.ne_of_lt (Nat.lt_succ_of_lt (Heap.lt_size (N p hp).1))
  refine wpAny_bind (wpAny_holding (wpAny_call_entry slot_list_sort ⟨_, hoL, rfl⟩ entry_list_sort ?body (args_list_sort _)))
  case body =>
    refine short_sort (s := { s with heap := ((s.heap.push (seqObj "list" #[] 0)).update s.heap.objs.size (Obj.mapSeq (· ++ vs.toArray))).push (seqObj "list" vs.toArray 0) })
      (F.kept keep) (N.grown keep) hoL (Nat.ne_of_gt (Nat.lt_succ_of_lt hL)) (Heap.get?_none_of_le (Nat.le_trans F.above (Nat.le_succ_of_le (Nat.le_of_lt hL)))) hne h1 fun c h' F' N' => ?_
    exact ⟨_, rfl, wpAny_pure ⟨_, rfl, h _ c h' F' N' hne⟩⟩

/-- sorted on a list of marks: the places in their order -/
theorem sorted_marks {l : Addr} {ds : Nat → List Int} {Q : Value → Shared → Prop} (F : Fr h₀ L s.heap m) (N : News h₀ L s.heap news) (hl : s.heap.IsList l vs.toArray) (h50 : vs.length ≤ 50)
    (hm : ∀ (i : Nat) y, vs[i]? = some y → MarkIn news y (ds i ++ [(i : Int)])) (hu : A.in1.in1.units < cLine)
    (h : ∀ D c h' p, Fr h₀ L h' m → News h₀ L h' ((D, seqObj "list" (List.toArray (p.toList.map fun i => vs.getD i Value.none)) c) :: news) → (∀ q ∈ news, q.1 ≠ D) → OkP vs.length p → Asc (ltK ds) p vs.length → Q (.ref D) { s with heap := h' }) :
    wpAny (model prog w) A (call (.builtin "sorted") [.ref l]) Q E s := by
  by_cases h2 : vs.length < 2
  · refine sorted_short F N hl h2 fun D c h' F' N' ne => ?_
    refine h D c h' (List.toArray (List.range vs.length)) F' ?_ ne (List.Perm.refl _) (fun t t1 t2 => by omega)
    have : (List.toArray (List.range vs.length)).toList.map (fun i => vs.getD i Value.none) = vs := by
      apply List.ext_getElem
      · simp
      · intro i a1 a2
        simp [List.getD, a2]
    rw [this]; exact N'
  · refine kas_sorted (T := .type "list") F N hl (by omega) (by omega) (fun h F' N' v hv => ?_) (by decide) fun D e1 h' F' N' hD => ?_
    · obtain ⟨i, hi, rfl⟩ := List.getElem_of_mem hv
      obtain ⟨b, us, k, e, hb, _⟩ := hm i vs[i] (List.getElem?_eq_getElem hi)
      rw [e]
      exact fun A Q E s k q => wpAny_typeOf ⟨_, k _ _ (N' _ hb).1, rfl⟩ q
    · have ne : ∀ q ∈ news, q.1 ≠ D := fun q hq => Nat.ne_of_lt (hD q hq)
      refine Ends.wp (f := ltK ds) (n := vs.length) (fun i j C hi hj hC => ?_) (fun p hp => ?_) (sort_ends (ltK_ok ds) (by omega))
      · obtain ⟨b, us, k, e, hb, hbi⟩ := hm i vs[i] (List.getElem?_eq_getElem hi)
        obtain ⟨b', us', k', e', hb', hbi'⟩ := hm j vs[j] (List.getElem?_eq_getElem hj)
        show wpAny (model prog w) A.in1.in1 (keyLt' oneType' (vs.getD i Value.none) (vs.getD j Value.none)) C (fun _ _ => False) _
        rw [show vs.getD i Value.none = .ref b by simp [List.getD, hi, e], show vs.getD j Value.none = .ref b' by simp [List.getD, hj, e']]
        exact keyLt_lists (N' _ (List.mem_cons_of_mem _ hb)).1 (N' _ (List.mem_cons_of_mem _ hb')).1 hbi hbi' hu hC
      · refine KasFin.intro (g := fun o => (D, o) :: news) F' N' ?_ fun h'' c F'' N'' => h D c h'' p F'' N'' ne hp.1 hp.2
        exact .head ne
end
end Mine
namespace Mine
open PySem PySem.W PyProof.Rows PySem.Calls PySem.Spec PyProof.Rows.LCg
/-- the marks of a sign -/
def mkOf (ms : List (List Int)) (c : Nat) : List Int := ms.getD (c - 97) []
theorem strs_vals : ∀ {vs : List Value} {ss : List Str}, StrsAre vs ss → ∃ l : List (Str × Tok), vs = strValues l ∧ l.map (·.1) = ss
  | _, _, .nil => ⟨[], rfl, rfl⟩
  | _, _, .cons y t r => by
    obtain ⟨l, e1, e2⟩ := strs_vals r
    exact ⟨(y, t) :: l, by rw [e1]; rfl, by rw [← e2]; rfl⟩
open PySem.Builtin PySem.Builtin.Str PySem.StrLaws in
theorem join_none : ∀ ss : List Str, (Txt.join (Str.ofString "") ss).cps.toList = (ss.map (·.cps.toList)).flatten := by
  intro ss
  show (glued _ _).cps.toList = _
  rw [glued_eq_join]
  induction ss with
  | nil => rfl
  | cons a r ih =>
    cases r with
    | nil => show a.cps.toList = _; simp
    | cons b r => rw [join_list1, ih]; simp; rfl
open PySem.Builtin PySem.Builtin.Str PySem.StrLaws in
theorem join_dots : ∀ ss : List Str, (Txt.join (Str.ofString ".") ss).cps.toList = joinDots (ss.map (·.cps.toList)) := by
  intro ss
  show (glued _ _).cps.toList = _
  rw [glued_eq_join]
  induction ss with
  | nil => rfl
  | cons a r ih =>
    cases r with
    | nil => rfl
    | cons b r =>
      rw [join_list1, ih]
      show _ ++ (Str.ofString ".").cps.toList ++ _ = a.cps.toList ++ 46 :: _
      rw [show (Str.ofString ".").cps.toList = [46] by decide +kernel, List.append_assoc]; rfl
theorem dot_str : Str.ofString "." = ⟨#[46]⟩ := by decide +kernel
theorem insL_length (gt : Nat → Nat → Bool) (a : Nat) : ∀ l, (insL gt a l).length = l.length + 1
  | [] => rfl
  | x :: xs => by unfold insL; split <;> simp [insL_length gt a xs]
theorem dsort_length (gt : Nat → Nat → Bool) : ∀ l, (dsort gt l).length = l.length
  | [] => rfl
  | a :: t => by rw [dsort, insL_length, dsort_length gt t]; rfl
theorem getD_lt (l : List Nat) (i : Nat) (h : i < l.length) : l.getD i 0 = l[i] := by simp [List.getD, h]
theorem flat_one (a : Array Nat) : ∀ l : List Nat, (l.map ((fun x : Str => x.cps.toList) ∘ fun k => (⟨#[a.getD k 0]⟩ : Str))).flatten = l.map fun i => a.toList.getD i 0
  | [] => rfl
  | k :: l => by
    rw [List.map_cons, List.map_cons, List.flatten_cons, flat_one a l]
    show [a.getD k 0] ++ _ = _
    have : a.getD k 0 = a.toList.getD k 0 := by simp [List.getD]
    rw [this]; rfl
theorem cutAt_length (c : Nat) : ∀ l, (cutAt c l).length ≤ l.length + 1
  | [] => by simp [cutAt]
  | a :: r => by
    have := cutAt_length c r
    unfold cutAt
    split
    · simp; omega
    · cases hc : cutAt c r with
      | nil => simp
      | cons s rest => rw [hc] at this; simp at this ⊢; omega
theorem due_spec2 {prog : Program} {w : World} {mean : ExcName → Option Value} {mg mb : Str → Option Value} {env1 : Env} {s : Shared} {R : Result → Shared → Prop}
  (X : (hd.heap_39 w.params).In s.heap) (T : TopF mean mg mb s.heap)
  {text : Str} {tt : Tok} {ml : Addr} {mvs : List Value} {ms : List (List Int)} {kn : Nat} (ht : text.length ≤ 50) (htx : ∀ c ∈ text.cps.toList, c = 46 ∨ (97 ≤ c ∧ c < 102))
  (hml : s.heap.IsList ml mvs.toArray) (hmn : mvs.length = 5) (hms : ms.length = 5) (hmk : ∀ (i : Nat) v d, mvs[i]? = some v → ms[i]? = some d → MarkAt s.heap v d) (hkl : ∀ d ∈ ms, d.length = kn) (hkn : kn ≤ 3)
  (h : ∀ h' tk' a x t1 t2 n, Keeps s.heap h' → s.heap.get? a = none → h'.get? a = some { cls := .type "tuple", data := .seq [Value.str x t1, Value.int ((inv (gtM (mkOf ms)) text.cps.toList : Nat) : Int) t2].toArray n } → x.cps.toList = dsort (gtM (mkOf ms)) text.cps.toList → R (.ok (.ret (.ref a))) {s with heap := h', toks := tk'}) :
  codeAny (model prog w) (callerA.deeper env1) (.call (.ref 75) ⟨[.str text tt, .ref ml], []⟩) R s := by
  refine' call_defC0 (binds := [(Str.ofString "text", .str text tt), (Str.ofString "marks", .ref ml)]) X T.nolimit ?k6 ?k7 ?k8 ?k9 ?kB ?kD ?_ ?c2 ?c3 ?c4; (case k6 => k_is); (case k7 => k_is); (case k8 => k_room); (case k9 => exact rfl);  (case kB => exact rfl); (case kD => decide +kernel); (case c2 => exact rfl); (case c3 => exact rfl); (case c4 => exact rfl)
  intro h₁ tk cells F N Y
  generalize hh0 : s.heap = h₀ at *
  generalize hL : h₀.objs.size = L at *
  k_cells Y
  rename_i oR oS oM dR dS dM
  iterate 6 walk1
  rename Addr => sl
  iterate 5 walk1
  refine wpAny_execs_cons (wpAny_For ?_)
  iterate 4 walk1
  walk1
  walk1
  rename Fr _ _ _ _ => F₁
  rename News _ _ _ _ => N₁
  rename _ ∧ _ => hl1
  rename Heap => hq
  walk1
  refine splitN1A (y := Str.ofString ".") F₁ N₁ rfl (fun l h₂ k el es eb il F₂ N₂ => ?_) (by rw [sizeLine_eq]; omega)
  dsimp only at il F₂ N₂ ⊢
  have hsp : ∀ p ∈ [(sl, W.listOf #[] 0), (L + 1 + 1 + 1, oR), (L + 1 + 1, oS), (L + 1, oM)], p.1 < _ := fun p hp => Heap.lt_size (N₁ p hp).1
  generalize hspE : hq.objs.size = sp at il N₂ hsp ⊢
  have hsl : @LT.lt Nat _ (L + 1 + 1 + 1) sl := hl1.1
  have hspl : @LT.lt Nat _ sl sp := hsp (sl, _) (List.mem_cons_self ..)
  have hLsp : L ≠ sp := (by omega : @Ne Nat L sp)
  have n02 : sp ≠ L + 1 + 1 := (by omega : @Ne Nat sp (L + 1 + 1))
  have n12 : sl ≠ L + 1 + 1 := (by omega : @Ne Nat sl (L + 1 + 1))
  have n03 : sp ≠ L + 1 + 1 + 1 := (by omega : @Ne Nat sp (L + 1 + 1 + 1))
  have n13 : sl ≠ L + 1 + 1 + 1 := (by omega : @Ne Nat sl (L + 1 + 1 + 1))
  have n01 : sp ≠ sl := (by omega : @Ne Nat sp sl)
  have n32 : (L + 1 + 1 + 1) ≠ L + 1 + 1 := (by omega : @Ne Nat (L + 1 + 1 + 1) (L + 1 + 1))
  have n42 : (L + 1) ≠ L + 1 + 1 := (by omega : @Ne Nat (L + 1) (L + 1 + 1))
  have n43 : (L + 1) ≠ L + 1 + 1 + 1 := (by omega : @Ne Nat (L + 1) (L + 1 + 1 + 1))
  have n14 : sl ≠ L + 1 := (by omega : @Ne Nat sl (L + 1))
  generalize hpa : l.map (·.1) = parts at el es eb
  have hcut : parts.map (·.cps.toList) = cutAt 46 text.cps.toList := by rw [el, dot_str]; exact split_dot text 46 (by decide)
  have hpl : parts.length ≤ 51 := by
    have h1 := cutAt_length 46 text.cps.toList
    rw [← hcut, List.length_map] at h1
    have : text.cps.toList.length = text.length := by simp [Str.length]
    omega
  have hdR : oR.data = .cell none := dR
  have hdS : oS.data = .cell none := dS
  have hdM : oM.data = .cell (some (.ref ml)) := dM
  clear dR dS dM
  generalize hspo : ({ cls := .type "list", data := .seq (strValues l).toArray } : Obj) = spo at N₂
  refine' for_list (h₀ := h₀) rfl il (Ne.symm hLsp) F₂ N₂ (fun i m nx => ∃ (oR oS oM : Obj) (vR vS : Option Value) (svs : List Value) (c : Nat) (ss : List Str) (tw : Tok), nx = [(sp, spo), (sl, listOf svs.toArray c), (L + 1 + 1 + 1, oR), (L + 1 + 1, oS), (L + 1, oM)] ∧ oR.data = .cell vR ∧ oS.data = .cell vS ∧ oM.data = .cell (some (.ref ml)) ∧
    StrsAre svs ss ∧ ss.map (·.cps.toList) = (parts.take i).map (fun z => dsort (gtM (mkOf ms)) z.cps.toList) ∧ m (Str.ofString "stretches") = some (.ref sl) ∧ m (Str.ofString "wrong") = some (.int ((((parts.take i).map (fun z => inv (gtM (mkOf ms)) z.cps.toList)).sum : Nat) : Int) tw)) ?hJ ?hs ?ht ?hd
  case hJ => exact ⟨oR, oS, oM, _, _, [], 0, [], _, rfl, hdR, hdS, hdM, .nil, rfl, rfl, rfl⟩
  case hs => refine .inr ⟨spo, ?_⟩; rintro i m nx ⟨_, _, _, _, _, _, _, _, _, rfl, _⟩; exact List.mem_cons_self ..
  case ht =>
    rintro i v m₁ nx g tk I oI hv ⟨oR, oS, oM, vR, vS, svs, c, ss, tw, rfl, dR, dS, dM, hss, hsm, e1, e2⟩ F₃ N₃ hn₃ hit
    obtain ⟨z, tz, rfl, hz⟩ := es.item i v (by simpa using hv)
    have neI : ∀ p ∈ [(sp, spo), (sl, listOf svs.toArray c), (L + 1 + 1 + 1, oR), (L + 1 + 1, oS), (L + 1, oM)], p.1 ≠ I := hn₃
    have nI0 : sp ≠ I := neI (sp, spo) (by simp)
    have nI1 : sl ≠ I := neI (sl, listOf svs.toArray c) (by simp)
    have nI2 : L + 1 + 1 + 1 ≠ I := neI (L + 1 + 1 + 1, oR) (by simp)
    have nI3 : L + 1 + 1 ≠ I := neI (L + 1 + 1, oS) (by simp)
    have nI4 : L + 1 ≠ I := neI (L + 1, oM) (by simp)
    refine wpAny_pure (wpAny_assign_Name ?_)
    have F₃' := frPins [(Str.ofString "stretches", .ref sl), (Str.ofString "wrong", .int ((((parts.take i).map (fun z => inv (gtM (mkOf ms)) z.cps.toList)).sum : Nat) : Int) tw)] F₃ (by simp [e1, e2])
    refine storeX_C F₃' N₃ (c := L + 1 + 1) rfl (.tail (Ne.symm nI3) (.tail n02 (.tail n12 (.tail n32 (.head (by intro p hp; rw [List.mem_singleton.mp hp]; exact n42)))))) dS fun h₄ oS' F₄ N₄ dS' => ?_
    have hzl : z.length ≤ 50 := Nat.le_trans (eb z (List.mem_of_getElem? hz)) ht
    have hzc : z.cps.toList ∈ cutAt 46 text.cps.toList := by rw [← hcut]; exact List.mem_map_of_mem (List.mem_of_getElem? hz)
    have hzd := cutAt_dotless 46 text.cps.toList _ hzc
    have hzr : ∀ c ∈ z.cps.toList, 97 ≤ c ∧ c < 102 := fun c hc => by
      rcases htx c (hzd.2 c hc) with rfl | h
      · exact absurd hc hzd.1
      · exact h
    have hz46 : ∀ c ∈ z.cps.toList, c ≠ 46 := fun c hc => by have := hzr c hc; omega
    have hzn : z.cps.toList.length = z.length := by simp [Str.length]
    have N₄' : News h₀ L h₄ [(I, oI), (sp, spo), (sl, listOf svs.toArray c), (L + 1 + 1 + 1, oR), (L + 1 + 1, oS'), (L + 1, oM)] := N₄
    clear F₃ N₃ N₄ F₁ N₁ F₂ N₂
    walk1
    walk1
    refine row_comp X F₄ N₄' (by simp) dM (by simp) dS' hml hmn hzr hzl fun D h₅ tk₅ F₅ N₅ ne₅ => ?_
    have nD : ∀ p ∈ [(I, oI), (sp, spo), (sl, listOf svs.toArray c), (L + 1 + 1 + 1, oR), (L + 1 + 1, oS'), (L + 1, oM)], p.1 ≠ D := ne₅
    have nDR : D ≠ L + 1 + 1 + 1 := Ne.symm (nD (L + 1 + 1 + 1, oR) (by simp))
    generalize hrvs : z.cps.toList.map (fun c => mvs.getD (c - 97) .none) = rvs at N₅
    have hrl : rvs.length = (z.cps.toList.map (mkOf ms)).length := by rw [← hrvs]; simp
    have hrv : ∀ (i : Nat) v d, rvs[i]? = some v → (z.cps.toList.map (mkOf ms))[i]? = some d → MarkAt h₀ v d := by
      intro i v d hv hd
      rw [← hrvs, List.getElem?_map] at hv
      rw [List.getElem?_map] at hd
      cases hc : z.cps.toList[i]? with
      | none => rw [hc] at hv; cases hv
      | some c =>
        rw [hc] at hv hd
        cases hv; cases hd
        have hcr := hzr c (List.mem_of_getElem? hc)
        refine hmk (c - 97) _ _ ?_ ?_
        · simp [List.getD, show c - 97 < mvs.length by omega]
        · simp [mkOf, List.getD, show c - 97 < ms.length by omega]
    have hdl : (z.cps.toList.map (mkOf ms)).length ≤ 50 := by simp [hzn]; omega
    have hmkl : ∀ c ∈ z.cps.toList, (mkOf ms c).length = kn := fun c hc => by
      have hcr := hzr c hc
      refine hkl _ ?_
      simp [mkOf, List.getD, show c - 97 < ms.length by omega]
    have hd3 : ∀ d ∈ z.cps.toList.map (mkOf ms), d.length ≤ 3 := fun d hd => by
      obtain ⟨c, hc, rfl⟩ := List.mem_map.mp hd
      rw [hmkl c hc]; exact hkn
    refine storeX_C F₅ N₅ (c := L + 1 + 1 + 1) rfl (.tail nDR (.tail (Ne.symm nI2) (.tail n03 (.tail n13 (.head (by intro p hp; rcases List.mem_cons.mp hp with rfl | hp; exact (Ne.symm n32); rw [List.mem_singleton.mp hp]; exact n43)))))) dR fun h₆ oR' F₆ N₆ dR' => ?_
    have N₆' : News h₀ L h₆ [(D, lst rvs), (I, oI), (sp, spo), (sl, listOf svs.toArray c), (L + 1 + 1 + 1, oR'), (L + 1 + 1, oS'), (L + 1, oM)] := N₆
    clear F₅ N₅ N₆ F₄ N₄' ne₅
    iterate 8 walk1
    refine inv_comp X T F₆ N₆' (by simp) dR' (rvs := rvs) (rn := rvs.length) (by simp) hrl hdl hrv fun D2 h₇ tk₇ ys₇ F₇ N₇ ne₇ hys₇ => ?_
    rw [List.length_map, cntOut_all (mkOf ms) z.cps.toList hz46] at hys₇
    have hys50 : ys₇.length ≤ 2500 := by
      have h1 := inv_le (gt := gtM (mkOf ms)) z.cps.toList
      rw [hzn] at h1
      have h2 : z.length * z.length ≤ 50 * 50 := Nat.mul_le_mul hzl hzl
      omega
    walk1
    refine len_list ⟨_, (N₇ _ (List.mem_cons_self ..)).1, rfl, _, rfl⟩ (by rw [List.size_toArray]; omega) ?_
    clear F₆ N₆'
    have N₈ : News h₀ L h₇ [(D, lst rvs), (I, oI), (sp, spo), (sl, listOf svs.toArray c), (L + 1 + 1 + 1, oR'), (L + 1 + 1, oS'), (L + 1, oM)] := fun p hp => N₇ p (List.mem_cons_of_mem _ hp)
    clear N₇
    iterate 9 walk1
    rename Fr _ _ _ _ => F₉
    rename News _ _ _ _ => N₉

    refine ord_comp X T F₉ N₉ (by simp) dR' (rvs := rvs) (rn := rvs.length) (by simp) hrl hdl hd3 hrv fun D3 hA tkA ysA tl FA NA neA hap hysl hysm => ?_
    walk1
    refine sorted_marks (ds := fun i => mkOf ms (z.cps.toList.getD i 0)) FA NA ⟨_, (NA _ (List.mem_cons_self ..)).1, rfl, _, rfl⟩ (by omega) (fun i y hy => ?_) (by show 4 + _ + _ + _ + _ < cLine; decide) fun D4 cB hB pB FB NB neB okB ascB => ?_
    · have hi : i < z.cps.toList.length := by
        have := (List.getElem?_eq_some_iff.mp hy).1
        rw [hysl, List.length_map] at this; exact this
      obtain ⟨b, us, n, e, hb, r⟩ := hysm i y _ hy (by rw [List.getElem?_map, List.getElem?_eq_getElem hi]; rfl)
      refine ⟨b, us, n, e, List.mem_cons_of_mem _ (List.mem_append_left _ hb), ?_⟩
      rwa [show z.cps.toList.getD i 0 = z.cps.toList[i] from getD_lt _ _ hi]
    refine storeX_L FB NB fun hC FC NC => ?_
    have NC' : News h₀ L hC [(I, oI), (sp, spo), (sl, listOf svs.toArray c), (L + 1 + 1 + 1, oR'), (L + 1 + 1, oS'), (L + 1, oM)] := fun p hp => NC p (List.mem_cons_of_mem _ (List.mem_cons_of_mem _ (List.mem_append_right _ (List.mem_cons_of_mem _ hp))))
    generalize hfull : (D3, lst ysA) :: (tl ++ [(D, lst rvs), (I, oI), (sp, spo), (sl, listOf svs.toArray c), (L + 1 + 1 + 1, oR'), (L + 1 + 1, oS'), (L + 1, oM)]) = full at NC NB neB
    have hidN := And.intro trivial NC
    clear NC NB FB FA NA F₉ N₉
    iterate 12 walk1
    have hpn : pB.toList.length = z.cps.toList.length := by
      have := okB.size
      rw [Array.length_toList, this, hysl, List.length_map]
    have hyn : ysA.length = z.cps.toList.length := by rw [hysl, List.length_map]
    have hpk : ∀ k ∈ pB.toList, k < z.cps.toList.length := fun k hk => by
      have := okB.mem_iff.mp hk
      rw [hyn] at this; simpa using this
    refine str_comp (z := z) (ovs := pB.toList.map fun i => ysA.getD i Value.none) (rn := cB) (idx := pB.toList) (ds := pB.toList.map fun i => mkOf ms (z.cps.toList.getD i 0)) X FC hidN.2 (by rw [← hfull]; simp) dS' rfl (List.mem_cons_self ..) (by simp) (by simp) (by omega) ?_ (fun k hk => by have := hpk k hk; omega) hzl ?_ fun D5 hD tkD ysD FD ND neD hysD => ?_
    · intro d hd
      obtain ⟨k, hk, rfl⟩ := List.mem_map.mp hd
      rw [getD_lt _ _ (hpk k hk), hmkl _ (List.getElem_mem _)]; exact hkn
    · intro i v d k hv hd hk
      have hkl := hpk k (List.mem_of_getElem? hk)
      rw [List.getElem?_map, hk] at hv hd
      cases hv; cases hd
      have hky : k < ysA.length := by omega
      obtain ⟨b, us, n, e, hb, r⟩ := hysm k (ysA.getD k Value.none) (mkOf ms (z.cps.toList.getD k 0)) (by simp [List.getD, hky]) (by rw [List.getElem?_map, List.getElem?_eq_getElem hkl, getD_lt _ _ hkl]; rfl)
      exact ⟨b, us, n, e, by rw [← hfull]; exact List.mem_cons_of_mem _ (List.mem_cons_of_mem _ (List.mem_append_left _ hb)), r⟩
    walk1
    obtain ⟨lD, eD1, eD2⟩ := strs_vals hysD
    subst eD1
    refine SC.join (l := lD) ⟨_, (ND _ (List.mem_cons_self ..)).1, rfl, _, rfl⟩ eD2 (joinOk_of 1 (fun y hy => ?_) ?_) (fun tJ kJ => ?_)
    · obtain ⟨k, _, rfl⟩ := List.mem_map.mp hy; exact Nat.le_refl _
    · rw [List.length_map]; show _ + _ * 0 ≤ _; omega
    have hjoin : (Txt.join (Str.ofString "") (pB.toList.map fun k => (⟨#[z.cps.getD k 0]⟩ : Str))).cps.toList = dsort (gtM (mkOf ms)) z.cps.toList := by
      rw [join_none, ← sorted_letters (mkOf ms) kn z.cps.toList hz46 hmkl pB (by rw [← hyn]; exact okB) (by rw [← hyn]; exact ascB), List.map_map]
      exact flat_one z.cps _
    generalize Txt.join (Str.ofString "") (pB.toList.map fun k => (⟨#[z.cps.getD k 0]⟩ : Str)) = xJ at hjoin ⊢
    have NE : News h₀ L hD [(I, oI), (sp, spo), (sl, listOf svs.toArray c), (L + 1 + 1 + 1, oR'), (L + 1 + 1, oS'), (L + 1, oM)] := fun p hp => ND p (by rw [← hfull]; exact List.mem_cons_of_mem _ (List.mem_cons_of_mem _ (List.mem_cons_of_mem _ (List.mem_append_right _ (List.mem_cons_of_mem _ hp)))))
    clear ND hidN FC NC'
    dsimp only
    iterate 1 walk1
    have hsl2 : svs.length ≤ 51 := by
      have h1 := hss.length
      have h2 := congrArg List.length hsm
      rw [List.length_map, List.length_map, List.length_take] at h2
      omega
    generalize hv9 : Value.str xJ tJ = v9
    refine append_K FD NE (.tail (Ne.symm nI1) (.tail n01 (.head (by intro p hp; rcases List.mem_cons.mp hp with rfl | hp; exact Ne.symm n13; rcases List.mem_cons.mp hp with rfl | hp; exact Ne.symm n12; rw [List.mem_singleton.mp hp]; exact Ne.symm n14)))) (fun hF FF NF => ?_) (by rw [List.size_toArray, sizeLine_eq]; omega)
    rw [List.push_toArray] at NF
    walk
    have hti : parts.take (i + 1) = parts.take i ++ [z] := by rw [List.take_add_one, hz]; rfl
    have hsum : ((((parts.take i).map (fun z => inv (gtM (mkOf ms)) z.cps.toList)).sum : Nat) : Int) + ((ys₇.toArray.size : Nat) : Int) = ((((parts.take (i + 1)).map (fun z => inv (gtM (mkOf ms)) z.cps.toList)).sum : Nat) : Int) := by
      rw [hti, List.map_append, List.sum_append, List.size_toArray, hys₇]; simp
    refine ⟨_, _, _, _, rfl, FF, NF, ?_, oR', oS', oM, _, _, svs ++ [v9], _, ss ++ [xJ], _, rfl, dR', dS', dM, ?_, ?_, rfl, (congrArg (fun n => some (Value.int n _)) hsum)⟩
    · exact fun p hp => by
        rcases List.mem_cons.mp hp with rfl | hp
        · exact nI0
        rcases List.mem_cons.mp hp with rfl | hp
        · exact nI1
        rcases List.mem_cons.mp hp with rfl | hp
        · exact nI2
        rcases List.mem_cons.mp hp with rfl | hp
        · exact nI3
        rw [List.mem_singleton.mp hp]; exact nI4
    · rw [← hv9]; exact hss.append' (.cons _ _ .nil)
    · rw [hti, List.map_append, List.map_append, hsm]; simp [hjoin]
  case hd =>
    rintro m₂ nx g₂ tk ⟨oR, oS, oM, vR, vS, svs, c, ss, tw, rfl, dR, dS, dM, hss, hsm, e1, e2⟩ F₃ N₃
    have hpt : parts.take (strValues l).toArray.size = parts := by
      rw [← hpa]; exact List.take_of_length_le (by simp [strValues])
    rw [hpt] at hsm e2
    have F₃' := frPins [(Str.ofString "stretches", .ref sl), (Str.ofString "wrong", .int (((parts.map (fun z => inv (gtM (mkOf ms)) z.cps.toList)).sum : Nat) : Int) tw)] F₃ (by simp [e1, e2])
    clear F₃ F₁ N₁ F₂ N₂ il
    have hres : joinDots (ss.map (·.cps.toList)) = dsort (gtM (mkOf ms)) text.cps.toList := by
      rw [hsm, dsort_cut (gtM_ok _), ← hcut, List.map_map]; rfl
    have hinv : (parts.map (fun z => inv (gtM (mkOf ms)) z.cps.toList)).sum = inv (gtM (mkOf ms)) text.cps.toList := by
      rw [inv_cut (gtM_ok _), ← hcut, List.map_map]; rfl
    have hsn : ss.length = parts.length := by have := congrArg List.length hsm; simpa using this
    have hsb : ∀ y ∈ ss, y.length ≤ 50 := fun y hy => by
      have h1 : y.cps.toList ∈ parts.map (fun z => dsort (gtM (mkOf ms)) z.cps.toList) := hsm ▸ List.mem_map_of_mem hy
      obtain ⟨z, hz, e⟩ := List.mem_map.mp h1
      have h2 := congrArg List.length e
      rw [dsort_length] at h2
      have h3 := eb z hz
      have h4 : z.cps.toList.length = z.length := by simp [Str.length]
      have h5 : y.cps.toList.length = y.length := by simp [Str.length]
      omega
    rw [hinv] at F₃'
    show wpAny _ _ _ _ _ _
    iterate 9 walk1
    obtain ⟨lS, eS1, eS2⟩ := strs_vals hss
    subst eS1
    iterate 2 walk1
    refine SC.join (l := lS) ⟨_, (N₃ (sl, listOf (strValues lS).toArray c) (by simp)).1, rfl, _, rfl⟩ eS2 (joinOk_of 50 hsb (by rw [hsn]; show _ + _ * 1 ≤ _; omega)) (fun tJ kJ => ?_)
    have hj := (join_dots ss).trans hres
    generalize Txt.join (Str.ofString ".") ss = xJ at hj ⊢
    dsimp only
    walk
    rename Fr _ _ _ _ => Fz
    rename News _ _ _ _ => Nz
    exact h _ _ _ _ _ _ _ Fz.keep (Nz _ (List.mem_cons_self ..)).2.2 (Nz _ (List.mem_cons_self ..)).1 hj
end Mine
namespace Mine
open PySem PySem.W PyProof.Rows PySem.Calls PySem.Spec PyProof.Rows.LCg
abbrev lawScope : Scope := { kind := ScopeKind.function, names := [(Str.ofString "script", NameKind.local), (Str.ofString "numbers", NameKind.cell), (Str.ofString "keys", NameKind.cell), (Str.ofString "text", NameKind.local), (Str.ofString "codes", NameKind.local), (Str.ofString "rows", NameKind.local), (Str.ofString "way", NameKind.cell), (Str.ofString "marks", NameKind.local), (Str.ofString "list", NameKind.globalImplicit), (Str.ofString "_law_keys", NameKind.globalImplicit), (Str.ofString "sum", NameKind.globalImplicit), (Str.ofString "range", NameKind.globalImplicit), (Str.ofString "len", NameKind.globalImplicit), (Str.ofString "_law_settled", NameKind.globalImplicit), (Str.ofString "_law_wrong", NameKind.globalImplicit), (Str.ofString "TupleComp", NameKind.globalImplicit), (Str.ofString "_law_due", NameKind.globalImplicit)], isGenerator := false, isCoroutine := false, more := [(Str.ofString "fast", Const.str (Str.ofString "script")), (Str.ofString "fast", Const.str (Str.ofString "numbers")), (Str.ofString "fast", Const.str (Str.ofString "keys")), (Str.ofString "fast", Const.str (Str.ofString "k")), (Str.ofString "fast", Const.str (Str.ofString "text")), (Str.ofString "fast", Const.str (Str.ofString "x")), (Str.ofString "fast", Const.str (Str.ofString "codes")), (Str.ofString "fast", Const.str (Str.ofString "code")), (Str.ofString "fast", Const.str (Str.ofString "rows")), (Str.ofString "fast", Const.str (Str.ofString "way")), (Str.ofString "fast", Const.str (Str.ofString "column")), (Str.ofString "fast", Const.str (Str.ofString "direction")), (Str.ofString "fast", Const.str (Str.ofString "marks"))] }
abbrev lawEnv (L f : Addr) (cd : Value) : Env := envOfC (Str.ofString "law") lawScope L f cd
abbrev mkScope : Scope := { kind := ScopeKind.function, names := [(Str.ofString ".0", NameKind.local), (Str.ofString "code", NameKind.cell), (Str.ofString "keys", NameKind.free), (Str.ofString "way", NameKind.free)], isGenerator := false, isCoroutine := false }
abbrev inScope : Scope := { kind := ScopeKind.function, names := [(Str.ofString ".0", NameKind.local), (Str.ofString "column", NameKind.local), (Str.ofString "direction", NameKind.local), (Str.ofString "code", NameKind.free), (Str.ofString "way", NameKind.free)], isGenerator := false, isCoroutine := false }
/-- the block of the outer comprehension of marks -/
abbrev mkEnv (L f : Addr) (cd : Value) (C : Addr) : Env :=
  { scope := relabel mkScope (lawEnv L f cd), locals := C, globals := (lawEnv L f cd).globals, cells := [(Str.ofString "code", C + 1), (Str.ofString "way", L + 1 + 1 + 1), (Str.ofString "keys", L + 1 + 1)], qual := (lawEnv L f cd).qual, func := none, code := (lawEnv L f cd).code, frame := (lawEnv L f cd).frame, builtins := (lawEnv L f cd).builtins }
section
variable {prog : Program} {w : World} {A : Around} {E : Value → Shared → Prop} {s : Shared} {h₀ : Heap} {L : Addr} {m : Str → Option Value} {env : Env} {news : List (Addr × Obj)}
theorem compRestP_of {elt : Expr} {x x₂ : Str} {scope : Scope} {cl : List (Str × Addr)} {S : List (Addr × Obj) → Prop} {P : Nat → Value → Prop} {Fin : List Value → List (Addr × Obj) → Prop} {n : Nat}
    (Inv : Nat → List Value → List (Addr × Obj) → Prop)
    (step : ∀ i ys news v, i < n → P i v → Inv i ys news → ∃ (t : Addr) (ot : Obj) (v₁ v₂ : Value) (nt : Nat), v = .ref t ∧ (t, ot) ∈ news ∧ ot.cls = .type "tuple" ∧ ot.data = .seq #[v₁, v₂] nt ∧
      ∀ I oI C oC D m₂ h tk, NsObj oC m₂ → m₂ x = some v₁ → m₂ x₂ = some v₂ → Fr h₀ L h m → News h₀ L h ((I, oI) :: (C, oC) :: (D, lst ys) :: news) → Off3 I C D news → ((@Ne Nat I C) ∧ (@Ne Nat I D) ∧ (@Ne Nat C D)) →
      wpAny (model prog w) A (eval elt (compEnvC scope cl C env)) (CompEnd h₀ L m { s with heap := h, toks := tk } I oI C oC D (lst ys) S (fun y news' => Inv (i + 1) (ys ++ [y]) news')) (fun _ _ => False) { s with heap := h, toks := tk })
    (fin : ∀ ys news, Inv n ys news → Fin ys news) :
    ∀ k i ys news, i + k = n → Inv i ys news → LCp.CompRestP prog w A h₀ L m env elt x x₂ scope cl s S P Fin k i ys news := by
  intro k
  induction k with
  | zero => intro i ys news hi hI; have : i = n := by omega
            subst this; exact fin ys news hI
  | succ k ih =>
    intro i ys news hi hI v hP
    obtain ⟨t, ot, v₁, v₂, nt, e1, e2, e3, e4, st⟩ := step i ys news v (by omega) hP hI
    refine ⟨t, ot, v₁, v₂, nt, e1, e2, e3, e4, ?_⟩
    intro I oI C oC D m₂ h tk E' hns hx hx₂ F N off ne
    refine wpAny_mono (st I oI C oC D m₂ h tk hns hx hx₂ F N off ne) (fun y s₂ q => ?_) fun _ _ q => q.elim
    exact compEnd_mono q fun y nw _ q' => ih (i + 1) _ nw (by omega) q'
theorem cell_name {M : Model} {c : Addr} {o : Obj} {x : Str} {pos : Pos} {v : Value} {Q : Value → Shared → Prop} (N : News h₀ L s.heap news) (hc : env.cells.lookup x = some c) (hm : (c, o) ∈ news) (hd : o.data = .cell (some v)) (h : Q v s)
    (hk : env.scope.kind = .function := by rfl) (hx : env.kindOf x = some .cell := by rfl) (hb : (x == ("__debug__" : Str)) = false := by decide) :
    wpAny M A (eval (.Name x pos) env) Q E s := wpAny_Name (wpAny_loadName_cell hk hx hc ⟨o, N.get hm, hd⟩ h) hb
end
section
variable {prog : Program} {w : World} {E : Value → Shared → Prop} {s : Shared} {h₀ : Heap} {L f : Addr} {cd : Value} {m : Str → Option Value} {news : List (Addr × Obj)}
/-- the marks of one code -/
theorem in_comp {p1 p2 p3 p4 p5 p6 p7 p8 p9 p10 p11 p12 : Pos} {C kl ca : Addr} {oc ok ow : Obj} {way : Int} {tw : Tok} {kvs cvs : List Value} {kc cn : Nat} {ks : List (Nat × Int)} {code : List Int} {Q : Value → Shared → Prop}
    (F : Fr h₀ L s.heap m) (N : News h₀ L s.heap news) (hc : (C + 1, oc) ∈ news) (hcd : oc.data = .cell (some (.ref ca))) (hk : (L + 1 + 1, ok) ∈ news) (hkd : ok.data = .cell (some (.ref kl))) (hw : (L + 1 + 1 + 1, ow) ∈ news) (hwd : ow.data = .cell (some (.int way tw)))
    (hkl : (kl, ({ cls := .type "list", data := .seq kvs.toArray kc } : Obj)) ∈ news) (hkn : kvs.length = ks.length) (hk3 : ks.length ≤ 3) (hkin : ∀ (k : Nat) v q, kvs[k]? = some v → ks[k]? = some q → KeyIn news v q)
    (hca : (ca, ({ cls := .type "list", data := .seq cvs.toArray cn } : Obj)) ∈ news) (hci : IntsAre cvs code) (hc3 : code.length = 3) (hwy : way = 1 ∨ way = -1)
    (K : ∀ D h tk ys, Fr h₀ L h m → News h₀ L h ((D, lst ys) :: news) → (∀ p ∈ news, p.1 ≠ D) → IntsAre ys (ks.map fun q => way * q.2 * code.getD q.1 0) → Q (.ref D) { s with heap := h, toks := tk }) :
    wpAny (model prog w) (callerA.deeper (lawEnv L f cd)) (eval ((((Expr.Name (Str.ofString "way") p1).BinOp Operator.Mult (Expr.Name (Str.ofString "direction") p2) p3).BinOp Operator.Mult ((Expr.Name (Str.ofString "code") p4).Subscript (Expr.Name (Str.ofString "column") p5) p6) p7).ListComp [{ target := Expr.Tuple [Expr.Name (Str.ofString "column") p8, Expr.Name (Str.ofString "direction") p9] 0 p10, iter := Expr.Name (Str.ofString "keys") p11, ifs := [], is_async := 0 }] inScope p12) (mkEnv L f cd C)) Q E s := by
  refine LCp.ListComp_P (h₀ := h₀) (L := L) (m := m) (cl := [(Str.ofString "way", L + 1 + 1 + 1), (Str.ofString "code", C + 1)]) F (by with_unfolding_all rfl) (by decide) (by rfl) (by decide) (by rfl) (by rfl) (by decide) ?_
  refine cell_name N rfl hk hkd ?_
  refine LCp.SrcLP.ledger rfl F N hkl (by rw [List.size_toArray, sizeLine_eq]; omega) fun g => ?_
  refine compRestP_of (fun i ys nw => nw = news ∧ IntsAre ys ((ks.take i).map fun q => way * q.2 * code.getD q.1 0)) ?_ ?_ _ 0 [] news (Nat.zero_add _) ⟨rfl, .nil⟩
  · rintro i ys nw v hi hv ⟨rfl, hys⟩
    have hi' : i < ks.length := by rw [List.size_toArray] at hi; omega
    obtain ⟨a, t1, t2, n, rfl, ham, hq3, hqd⟩ := hkin i v ks[i] (by simpa using hv) (List.getElem?_eq_getElem hi')
    refine ⟨a, _, _, _, _, rfl, ham, rfl, rfl, ?_⟩
    intro I oI C2 oC D m₂ h tk hns hx hx₂ F₂ N₂ off ne
    have up : ∀ p ∈ nw, p ∈ (I, oI) :: (C2, oC) :: (D, lst ys) :: nw := fun p h => List.mem_cons_of_mem _ (List.mem_cons_of_mem _ (List.mem_cons_of_mem _ h))
    have hlt : ks[i].1 < code.length := by omega
    obtain ⟨tc, htc⟩ := hci.get ks[i].1 code[ks[i].1] (List.getElem?_eq_getElem hlt)
    iterate 2 walk1
    refine lcf_cell N₂ rfl (up _ hw) hwd ?_ rfl rfl
    refine comp_local N₂ (List.mem_cons_of_mem _ (List.mem_cons_self ..)) hns hx₂ ?_
    refine PyProof.Rows.mul_int ?_ (IntMulOk.of_left (by rcases hwy with rfl | rfl <;> decide))
    walk1
    refine lcf_cell N₂ rfl (up _ hc) hcd ?_ rfl rfl
    refine comp_local N₂ (List.mem_cons_of_mem _ (List.mem_cons_self ..)) hns hx ?_
    refine item_litK ⟨_, (N₂ _ (up _ hca)).1, rfl, _, rfl⟩ (by omega) (by have := hci.length; omega) (v := .int code[ks[i].1] tc) (by simpa using htc) ?_
    refine PyProof.Rows.mul_int ?_ (IntMulOk.of_left (by rcases hwy with rfl | rfl <;> rcases hqd with e | e <;> rw [e] <;> decide))
    refine CompEnd.intro F₂ N₂ nw (fun p hp => hp) off (.inr ⟨_, hkl, rfl, _, rfl⟩) ⟨rfl, ?_⟩
    rw [List.take_add_one, List.getElem?_eq_getElem hi', List.map_append]
    have e : code.getD ks[i].1 0 = code[ks[i].1] := by simp [List.getD, hlt]
    refine IntsAre.append2 hys ?_
    show IntsAre _ [way * ks[i].2 * code.getD ks[i].1 0]
    rw [e]
    exact .cons _ _ .nil
  · rintro ys nw ⟨rfl, hys⟩ D g tk F₂ N₂ off
    have : ks.take kvs.toArray.size = ks := List.take_of_length_le (by simp [hkn])
    rw [this] at hys
    exact K D g tk ys F₂ N₂ (off1_of off) hys
end
end Mine
namespace Mine
open PySem PySem.W PyProof.Rows PySem.Calls PySem.Spec PyProof.Rows.LCg
theorem newEnv_mk {M : Model} {A : Around} {E : Value → Shared → Prop} {s : Shared} {env : Env} {cl : List (Str × Addr)} {Q : Env → Shared → Prop}
    (h : Q { scope := mkScope, locals := s.heap.objs.size, globals := env.globals, cells := (Str.ofString "code", s.heap.objs.size + 1) :: cl, qual := env.qual, func := none, code := env.code, frame := env.frame, builtins := env.builtins } { s with heap := (s.heap.push { cls := .type "dict", data := .dict #[] }).push { cls := .type "cell", data := .cell none } }) :
    wpAny M A (newFunctionEnv mkScope env.globals cl [] env.qual none .none (some env)) Q E s := by
  simp only [newFunctionEnv, Option.isSome_some, if_true]
  refine wpAny_bind (wpAny_alloc ?_)
  refine wpAny_bind (wpAny_layCells _ (fun name kind cells => by cases hkc : kind == NameKind.cell <;> simp [hkc]) _ _ _ _ ?_)
  rw [show ({ s with heap := s.heap.push { cls := .type "dict", data := .dict #[] } } : Shared).heap.objs.size = s.heap.objs.size + 1 from Heap.size_push ..]
  exact wpAny_bind (wpAny_pure (wpAny_pure h))
section
variable {prog : Program} {w : World} {E : Value → Shared → Prop} {s : Shared} {h₀ : Heap} {L f : Addr} {cd : Value} {m : Str → Option Value} {news : List (Addr × Obj)}
theorem marks_assign {p1 p2 p3 p4 p5 p6 p7 p8 p9 p10 p11 p12 p13 p14 : Pos} {q1 q2 q3 q4 q5 q6 q7 q8 q9 : Nat} {kl cl0 : Addr} {ok ow : Obj} {way : Int} {tw : Tok} {kvs cvs : List Value} {kc cn : Nat} {ks : List (Nat × Int)} {codes : List (List Int)} {Q : Flow → Shared → Prop}
    (F : Fr h₀ L s.heap m) (N : News h₀ L s.heap news) (hm : m (Str.ofString "codes") = some (.ref cl0)) (hcl : (cl0, ({ cls := .type "list", data := .seq cvs.toArray cn } : Obj)) ∈ news)
    (hk : (L + 1 + 1, ok) ∈ news) (hkd : ok.data = .cell (some (.ref kl))) (hw : (L + 1 + 1 + 1, ow) ∈ news) (hwd : ow.data = .cell (some (.int way tw)))
    (hkl : (kl, ({ cls := .type "list", data := .seq kvs.toArray kc } : Obj)) ∈ news) (hkn : kvs.length = ks.length) (hk3 : ks.length ≤ 3) (hkin : ∀ (k : Nat) v q, kvs[k]? = some v → ks[k]? = some q → KeyIn news v q)
    (hcn : cvs.length = codes.length) (hc5 : codes.length ≤ 5) (hcin : ∀ (i : Nat) v code, cvs[i]? = some v → codes[i]? = some code → MarkIn news v code ∧ code.length = 3) (hwy : way = 1 ∨ way = -1)
    (K : ∀ D h tk ys tl, Fr h₀ L h (fun z => if z = Str.ofString "marks" then some (.ref D) else m z) → News h₀ L h ((D, lst ys) :: (tl ++ news)) → (∀ p ∈ tl ++ news, p.1 ≠ D) → ys.length = codes.length →
      (∀ (i : Nat) y code, ys[i]? = some y → codes[i]? = some code → MarkIn tl y (ks.map fun q => way * q.2 * code.getD q.1 0)) → Q .next { s with heap := h, toks := tk }) :
    wpAny (model prog w) (callerA.deeper (lawEnv L f cd)) (exec (.Assign [.Name (Str.ofString "marks") ⟨71, q1, q2, q3⟩] (((((Expr.Name (Str.ofString "way") p1).BinOp Operator.Mult (Expr.Name (Str.ofString "direction") p2) p3).BinOp Operator.Mult ((Expr.Name (Str.ofString "code") p4).Subscript (Expr.Name (Str.ofString "column") p5) p6) p7).ListComp [{ target := Expr.Tuple [Expr.Name (Str.ofString "column") p8, Expr.Name (Str.ofString "direction") p9] 0 p10, iter := Expr.Name (Str.ofString "keys") p11, ifs := [], is_async := 0 }] inScope p12).ListComp [{ target := Expr.Name (Str.ofString "code") p13, iter := Expr.Name (Str.ofString "codes") p14, ifs := [], is_async := 0 }] mkScope ⟨71, q4, q5, q6⟩) ⟨71, q7, q8, q9⟩) (lawEnv L f cd)) Q E s := by
  rw [exec_Assign_Name_used _ _ _ _ (by with_unfolding_all rfl)]
  refine wpAny_bind (wpAny_standAt (wpAny_bind ?_))
  generalize helt : ((((Expr.Name (Str.ofString "way") p1).BinOp Operator.Mult (Expr.Name (Str.ofString "direction") p2) p3).BinOp Operator.Mult ((Expr.Name (Str.ofString "code") p4).Subscript (Expr.Name (Str.ofString "column") p5) p6) p7).ListComp [{ target := Expr.Tuple [Expr.Name (Str.ofString "column") p8, Expr.Name (Str.ofString "direction") p9] 0 p10, iter := Expr.Name (Str.ofString "keys") p11, ifs := [], is_async := 0 }] inScope p12) = elt
  generalize hA : callerA.deeper (lawEnv L f cd) = A
  have hh : A.handled = none := by rw [← hA]; rfl
  show wpAny _ A (do let _ ← comprehension (.ListComp elt [⟨.Name (Str.ofString "code") p13, Expr.Name (Str.ofString "codes") p14, [], 0⟩] mkScope ⟨71, q4, q5, q6⟩) mkScope (lawEnv L f cd) _ (newList []) false (eval (Expr.Name (Str.ofString "codes") p14) (lawEnv L f cd)) (some (assign (.Name (Str.ofString "marks") ⟨71, q1, q2, q3⟩) (lawEnv L f cd)))) _ _ s
  refine wpAny_bind (wpAny_mono (wpAny_comprehension_free (use := some (assign (.Name (Str.ofString "marks") ⟨71, q1, q2, q3⟩) (lawEnv L f cd))) (Q := fun _ s' => Q .next s') (cl := [(Str.ofString "way", L + 1 + 1 + 1), (Str.ofString "keys", L + 1 + 1)]) rfl (fun _ => rfl) (by with_unfolding_all rfl) rfl (by decide) ?_) (fun _ s' hq => wpAny_pure (wpAny_pure hq)) fun _ _ e => e)
  refine nameX_L F hm ?_
  have hl0 : s.heap.IsList cl0 cvs.toArray := ⟨_, (N _ hcl).1, rfl, _, rfl⟩
  refine wpAny_pyIter_list hl0 ?_
  refine wpAny_newObj_type (newEnv_mk ?_)
  dsimp only
  generalize hn : codes.length = n at *
  have hsz : cvs.toArray.size = n := by rw [List.size_toArray]; omega
  generalize hI : s.heap.objs.size = I
  generalize hH1 : s.heap.push { cls := .type "list_iterator", data := .fields #[.ref cl0, .int 0 0] } = H1
  generalize hD : H1.objs.size = D
  generalize hH2 : H1.push { cls := .type "list", dict := none, data := .seq ([] : List Value).toArray } = H2
  generalize hC : H2.objs.size = C
  generalize hH3 : H2.push { cls := .type "dict", data := .dict #[] } = H3
  generalize hH4 : H3.push { cls := .type "cell", data := .cell none } = H4
  have eD : D = I + 1 := by rw [← hD, ← hH1, Heap.size_push, hI]
  have eC : C = I + 2 := by rw [← hC, ← hH2, Heap.size_push, hD, eD]
  have hLI : @LT.lt Nat _ L I := by rw [← hI]; exact F.ns.lt
  have hnI : ∀ p ∈ news, @LT.lt Nat _ p.1 I := fun p hp => by rw [← hI]; exact Heap.lt_size (N p hp).1
  have h0I : ∀ b, @LE.le Nat _ I b → h₀.get? b = none := fun b hb => by
    cases e : h₀.get? b with
    | none => rfl
    | some o => have := Heap.lt_size (F.keep b o e); rw [hI] at this; exact absurd this (Nat.not_lt.mpr hb)
  have up1 : ∀ b o, s.heap.get? b = some o → H1.get? b = some o := fun b o e => hH1 ▸ Heap.get?_push_of_some _ e
  have up2 : ∀ b o, H1.get? b = some o → H2.get? b = some o := fun b o e => hH2 ▸ Heap.get?_push_of_some _ e
  have up3 : ∀ b o, H2.get? b = some o → H3.get? b = some o := fun b o e => hH3 ▸ Heap.get?_push_of_some _ e
  have up4 : ∀ b o, H3.get? b = some o → H4.get? b = some o := fun b o e => hH4 ▸ Heap.get?_push_of_some _ e
  have up : ∀ b o, s.heap.get? b = some o → H4.get? b = some o := fun b o e => up4 _ _ (up3 _ _ (up2 _ _ (up1 _ _ e)))
  have hitI : H4.IsListIter I cl0 0 := ⟨_, up4 _ _ (up3 _ _ (up2 _ _ (by rw [← hH1, ← hI]; exact Heap.get?_push_size _ rfl))), rfl, rfl⟩
  have hacc : H4.get? D = some (lst []) := up4 _ _ (up3 _ _ (by rw [← hH2, ← hD]; exact Heap.get?_push_size _ rfl))
  have hnsC : H4.Ns C (fun _ => none) := by
    have : H3.Ns C (fun _ => none) := by rw [← hH3, ← hC]; exact Heap.Ns.new H2 (.type "dict")
    exact this.keeps up4
  have hsz3 : H3.objs.size = C + 1 := by rw [← hH3, Heap.size_push, hC]
  have hcel : H4.get? (C + 1) = some { cls := .type "cell", data := .cell none } := by rw [← hH4, ← hsz3]; exact Heap.get?_push_size _ rfl
  have nL : L ≠ I ∧ L ≠ D ∧ L ≠ C ∧ L ≠ C + 1 := by
    refine ⟨Nat.ne_of_lt hLI, ?_, ?_, ?_⟩
    · rw [eD]; exact Nat.ne_of_lt (Nat.lt_succ_of_lt hLI)
    · rw [eC]; exact Nat.ne_of_lt (Nat.lt_succ_of_lt (Nat.lt_succ_of_lt hLI))
    · rw [eC]; exact Nat.ne_of_lt (Nat.lt_succ_of_lt (Nat.lt_succ_of_lt (Nat.lt_succ_of_lt hLI)))
  have nN : ∀ p ∈ news, p.1 ≠ I ∧ p.1 ≠ D ∧ p.1 ≠ C ∧ p.1 ≠ C + 1 := fun p hp => by
    have := hnI p hp
    refine ⟨Nat.ne_of_lt this, ?_, ?_, ?_⟩
    · rw [eD]; exact Nat.ne_of_lt (Nat.lt_succ_of_lt this)
    · rw [eC]; exact Nat.ne_of_lt (Nat.lt_succ_of_lt (Nat.lt_succ_of_lt this))
    · rw [eC]; exact Nat.ne_of_lt (Nat.lt_succ_of_lt (Nat.lt_succ_of_lt (Nat.lt_succ_of_lt this)))
  have neID : I ≠ D := by rw [eD]; exact Nat.ne_of_lt (Nat.lt_succ_self _)
  have neIC : I ≠ C := by rw [eC]; exact Nat.ne_of_lt (Nat.lt_succ_of_lt (Nat.lt_succ_self _))
  have neIE : I ≠ C + 1 := by rw [eC]; exact Nat.ne_of_lt (Nat.lt_succ_of_lt (Nat.lt_succ_of_lt (Nat.lt_succ_self _)))
  have neDC : D ≠ C := by rw [eD, eC]; exact Nat.ne_of_lt (Nat.lt_succ_self _)
  have neDE : D ≠ C + 1 := by rw [eD, eC]; exact Nat.ne_of_lt (Nat.lt_succ_of_lt (Nat.lt_succ_self _))
  have neCE : C ≠ C + 1 := Nat.ne_of_lt (Nat.lt_succ_self _)
  have z0I : h₀.get? I = none := h0I I (Nat.le_refl _)
  have z0D : h₀.get? D = none := h0I D (by rw [eD]; exact Nat.le_succ _)
  have z0C : h₀.get? C = none := h0I C (by rw [eC]; exact Nat.le_add_right _ _)
  have z0E : h₀.get? (C + 1) = none := h0I (C + 1) (by rw [eC]; exact Nat.le_add_right I 3)
  have hlI : cl0 ≠ I := (nN _ hcl).1
  have W : Walks prog w A I [I, cl0] [I] cvs.toArray.size (fun i v => cvs.toArray[i]? = some v) (fun i h => h.IsListIter I cl0 i ∧ h.IsList cl0 cvs.toArray) := Walks.list hh I cl0 hlI cvs.toArray
  have loop : codeAny (model prog w) A (.compLoop (elt.ListComp [⟨.Name (Str.ofString "code") p13, Expr.Name (Str.ofString "codes") p14, [], 0⟩] mkScope ⟨71, q4, q5, q6⟩) 0 (.ref I) (.ref D) (mkEnv L f cd C))
      (compPost (model prog w) A E (some (assign (Expr.Name (Str.ofString "marks") ⟨71, q1, q2, q3⟩) (lawEnv L f cd))) (fun x s' => Q Flow.next s') (Value.ref D) C) { s with heap := H4 } := by
    refine codeAny_compLoop_tests (fun k s' => ∃ h tk i ys tl m' oc vc, s' = { s with heap := h, toks := tk } ∧ i ≤ n ∧ k = n + 1 - i ∧ h.IsListIter I cl0 i ∧ Fr h₀ L h m ∧ h.Ns C m' ∧ News h₀ L h ((D, lst ys) :: (C + 1, oc) :: (tl ++ news)) ∧ oc.data = .cell vc ∧ ys.length = i ∧
      (∀ p ∈ tl, p.1 ≠ I ∧ p.1 ≠ D ∧ p.1 ≠ C ∧ p.1 ≠ C + 1) ∧ (∀ (i : Nat) y code, ys[i]? = some y → codes[i]? = some code → MarkIn tl y (ks.map fun q => way * q.2 * code.getD q.1 0))) ?_ (n + 1)
      ⟨H4, s.toks, 0, [], [], _, { cls := .type "cell", data := .cell none }, none, rfl, Nat.zero_le _, rfl, hitI, F.keeps up, hnsC, fun p hp => ?_, rfl, rfl, (fun _ h => (nomatch h)), fun i y code h => by simp at h⟩
    · rintro k s' ⟨h, tk, i, ys, tl, m', oc, vc, rfl, hi, rfl, hit, F', hn', N', hoc, hyl, htl, hys⟩
      have hall : ∀ p ∈ tl ++ news, p.1 ≠ I ∧ p.1 ≠ D ∧ p.1 ≠ C ∧ p.1 ≠ C + 1 := fun p hp => by
        rcases List.mem_append.mp hp with hp | hp
        · exact htl p hp
        · exact nN p hp
      have hIL : h.IsList cl0 cvs.toArray := ⟨_, (N' _ (List.mem_cons_of_mem _ (List.mem_cons_of_mem _ (List.mem_append_right _ hcl)))).1, rfl, _, rfl⟩
      by_cases hlt : i < n
      · refine W.item i _ _ _ (by omega) ⟨hit, hIL⟩ fun v h₁ tk₁ hv st₁ hk₁ => ?_
        have F₁ : Fr h₀ L h₁ m := fr_but F' hk₁ nL.1 z0I
        have N₁ : News h₀ L h₁ ((D, lst ys) :: (C + 1, oc) :: (tl ++ news)) := news_but N' hk₁ fun p hp => by
          rcases List.mem_cons.mp hp with rfl | hp
          · exact Ne.symm neID
          rcases List.mem_cons.mp hp with rfl | hp
          · exact Ne.symm neIE
          · exact (hall p hp).1
        have hn₁ : h₁.Ns C m' := hn'.at' fun o e => hk₁ _ o (by simpa using Ne.symm neIC) e
        refine wpAny_assign_Name (wpAny_storeName_cell (c := C + 1) (by rfl) (by rfl) (by rfl) ⟨oc, (N₁ _ (List.mem_cons_of_mem _ (List.mem_cons_self ..))).1, hoc⟩ fun h₂ hc₂ hs₂ => ?_)
        obtain ⟨oc', hoc', hdc'⟩ := hc₂
        refine wpAny_tests_nil ?_
        simp only [if_true]
        have F₂ : Fr h₀ L h₂ m := F₁.change hs₂ (Ne.symm nL.2.2.2) z0E
        obtain ⟨oI, heI, rI⟩ := id st₁.1
        have heI₂ := hs₂.extBut _ _ neIE heI
        have hn₂ : h₂.Ns C m' := hn₁.sameBut hs₂ neCE
        obtain ⟨oC, heC, hoC⟩ := ns_obj hn₂
        have N₂ : News h₀ L h₂ ((I, oI) :: (C, oC) :: (D, lst ys) :: (C + 1, oc') :: (tl ++ news)) := fun p hp => by
          rcases List.mem_cons.mp hp with rfl | hp
          · exact ⟨heI₂, Ne.symm nL.1, z0I⟩
          rcases List.mem_cons.mp hp with rfl | hp
          · exact ⟨heC, Ne.symm nL.2.2.1, z0C⟩
          rcases List.mem_cons.mp hp with rfl | hp
          · exact ⟨hs₂.extBut _ _ neDE (N₁ _ (List.mem_cons_self ..)).1, Ne.symm nL.2.1, z0D⟩
          rcases List.mem_cons.mp hp with rfl | hp
          · exact ⟨hoc', Ne.symm nL.2.2.2, z0E⟩
          · have z := N₁ p (List.mem_cons_of_mem _ (List.mem_cons_of_mem _ hp))
            exact ⟨hs₂.extBut _ _ (hall p hp).2.2.2 z.1, z.2⟩
        have inc : ∀ p ∈ news, p ∈ (I, oI) :: (C, oC) :: (D, lst ys) :: (C + 1, oc') :: (tl ++ news) := fun p hp => List.mem_cons_of_mem _ (List.mem_cons_of_mem _ (List.mem_cons_of_mem _ (List.mem_cons_of_mem _ (List.mem_append_right _ hp))))
        have hi' : i < codes.length := by omega
        obtain ⟨⟨ca, cvs', cn', rfl, hcm, hci⟩, hc3⟩ := hcin i v codes[i] (by simpa using hv) (List.getElem?_eq_getElem hi')
        rw [← helt, ← hA]
        refine in_comp (C := C) (code := codes[i]) (ks := ks) F₂ N₂ (by simp) hdc' (inc _ hk) hkd (inc _ hw) hwd (inc _ hkl) hkn hk3 (fun k v q hv hq => ?_) (inc _ hcm) hci hc3 hwy fun D2 h₃ tk₃ ys₃ F₃ N₃ ne₃ hys₃ => ?_
        · obtain ⟨a, t1, t2, nn, e, hmm, r⟩ := hkin k v q hv hq
          exact ⟨a, t1, t2, nn, e, inc _ hmm, r⟩
        refine append_at (hsz := by rw [List.size_toArray, sizeLine_eq]; omega) (N₃ (D, lst ys) (by simp)).1 fun h₄ hs₄ hD₄ => ?_
        have nD2 : D2 ≠ I ∧ D2 ≠ D ∧ D2 ≠ C ∧ D2 ≠ C + 1 := ⟨Ne.symm (ne₃ (I, oI) (by simp)), Ne.symm (ne₃ (D, lst ys) (by simp)), Ne.symm (ne₃ (C, oC) (by simp)), Ne.symm (ne₃ (C + 1, oc') (by simp))⟩
        refine ⟨n + 1 - (i + 1), by omega, h₄, _, i + 1, ys ++ [.ref D2], (D2, lst ys₃) :: tl, m', oc', _, rfl, hlt, rfl, ?_, F₃.change hs₄ (Ne.symm nL.2.1) z0D, ?_, fun p hp => ?_, hdc', by simp [hyl], fun p hp => ?_, fun j y code hy hc => ?_⟩
        · exact ⟨oI, hs₄.extBut _ _ neID (N₃ (I, oI) (by simp)).1, rI⟩
        · exact (hoC.ns (N₃ (C, oC) (by simp)).1).sameBut hs₄ (Ne.symm neDC)
        · rcases List.mem_cons.mp hp with rfl | hp
          · exact ⟨hD₄.trans (congrArg some (lst_snoc ys _)), Ne.symm nL.2.1, z0D⟩
          rcases List.mem_cons.mp hp with rfl | hp
          · exact ⟨hs₄.extBut _ _ (Ne.symm neDE) (N₃ (C + 1, oc') (by simp)).1, Ne.symm nL.2.2.2, z0E⟩
          rcases List.mem_cons.mp hp with rfl | hp
          · exact ⟨hs₄.extBut _ _ nD2.2.1 (N₃ _ (List.mem_cons_self ..)).1, (N₃ _ (List.mem_cons_self ..)).2⟩
          · have z := N₃ p (List.mem_cons_of_mem _ (List.mem_cons_of_mem _ (List.mem_cons_of_mem _ (List.mem_cons_of_mem _ (List.mem_cons_of_mem _ hp)))))
            exact ⟨hs₄.extBut _ _ (hall p hp).2.1 z.1, z.2⟩
        · rcases List.mem_cons.mp hp with rfl | hp
          · exact nD2
          · exact htl p hp
        · by_cases hj : j < i
          · rw [List.getElem?_append_left (by omega)] at hy
            obtain ⟨b, us, nn, e, hmm, r⟩ := hys j y code hy hc
            exact ⟨b, us, nn, e, List.mem_cons_of_mem _ hmm, r⟩
          · have hj' : j = i := by
              have := (List.getElem?_eq_some_iff.mp hy).1
              simp at this; omega
            subst hj'
            rw [List.getElem?_append_right (by omega), hyl, Nat.sub_self] at hy
            cases hy
            rw [List.getElem?_eq_getElem hi'] at hc; cases hc
            exact ⟨D2, ys₃, _, rfl, List.mem_cons_self .., hys₃⟩
      · obtain rfl : i = n := Nat.le_antisymm hi (Nat.not_lt.mp hlt)
        refine W.done _ _ _ (by rw [hsz]; exact ⟨hit, hIL⟩) fun h₁ tk₁ hk₁ => ?_
        show wpAny _ A (assign (.Name (Str.ofString "marks") ⟨71, q1, q2, q3⟩) (lawEnv L f cd) (.ref D)) _ _ _
        have F₁ : Fr h₀ L h₁ m := fr_but F' hk₁ nL.1 z0I
        refine wpAny_assign_Name (wpAny_storeName_local (by rfl) F₁.ns (fun h₂ hn₂ hs₂ => ?_) (by rfl))
        have N₁ : News h₀ L h₁ ((D, lst ys) :: (tl ++ news)) := fun p hp => by
          rcases List.mem_cons.mp hp with rfl | hp
          · have z := N' _ (List.mem_cons_self ..)
            exact ⟨hk₁ _ _ (by simpa using Ne.symm neID) z.1, z.2⟩
          · have z := N' p (List.mem_cons_of_mem _ (List.mem_cons_of_mem _ hp))
            exact ⟨hk₁ _ _ (by simpa using (hall p hp).1) z.1, z.2⟩
        have hn₁ : h₁.Ns C m' := hn'.at' fun o e => hk₁ _ o (by simpa using Ne.symm neIC) e
        have hL₀ : h₀.get? L = none := Heap.get?_none_of_le F₁.above
        have hs₂' : Heap.SameBut L h₁ h₂ := hs₂
        have F₂ : Fr h₀ L h₂ (fun z => if z = Str.ofString "marks" then some (.ref D) else m z) := ⟨hn₂, fun b o e => hs₂'.extBut b o (fun q => by rw [q, hL₀] at e; cases e) (F₁.keep b o e), F₁.above⟩
        refine ⟨m', hn₁.sameBut hs₂' (Ne.symm nL.2.2.1), fun h₃ hs₃ => K D h₃ _ ys tl (F₂.change hs₃ (Ne.symm nL.2.2.1) z0C) (fun p hp => ?_) (fun p hp => (hall p hp).2.1) hyl hys⟩
        have z := N₁ p hp
        refine ⟨hs₃.extBut _ _ ?_ (hs₂'.extBut _ _ z.2.1 z.1), z.2⟩
        rcases List.mem_cons.mp hp with rfl | hp
        · exact neDC
        · exact (hall p hp).2.2.1
    · rcases List.mem_cons.mp hp with rfl | hp
      · exact ⟨hacc, Ne.symm nL.2.1, z0D⟩
      rcases List.mem_cons.mp hp with rfl | hp
      · exact ⟨hcel, Ne.symm nL.2.2.2, z0E⟩
      · exact ⟨up _ _ (N p hp).1, (N p hp).2⟩
  refine codeAny_compStart_list loop ?_
  exact W.self 0 _ _ _ ⟨hitI, hl0.at fun o e => up _ _ e⟩ loop
end
end Mine
namespace Mine
open PySem PySem.W PyProof.Rows PySem.Calls PySem.Spec PyProof.Rows.LCg
/-- the sign of a number -/
def signOf (v : Int) : Nat := (Str.ofString "abcde.").cps.getD (v.fmod 6).toNat 0
section
variable {prog : Program} {w : World} {E : Value → Shared → Prop} {s : Shared} {h₀ : Heap} {L f : Addr} {cd : Value} {m : Str → Option Value} {news : List (Addr × Obj)} {mean : ExcName → Option Value} {mg mb : Str → Option Value}
theorem text_comp {p1 p2 p3 p4 p5 p6 p7 p8 p9 p10 p11 p12 p13 p14 p15 p16 : Pos} {on : Obj} {nl : Addr} {nvs : List Value} {nn : Nat} {ns : List Int} {Q : Value → Shared → Prop}
    (X : (hd.heap_39 w.params).In h₀) (T : TopF mean mg mb h₀) (F : Fr h₀ L s.heap m) (N : News h₀ L s.heap news) (hr : (L + 1, on) ∈ news) (hrd : on.data = .cell (some (.ref nl)))
    (hl : (nl, ({ cls := .type "list", data := .seq nvs.toArray nn } : Obj)) ∈ news) (hi : IntsAre nvs ns) (hds : ns.length ≤ 50)
    (K : ∀ D h tk ys, Fr h₀ L h m → News h₀ L h ((D, lst ys) :: news) → (∀ p ∈ news, p.1 ≠ D) → StrsAre ys ((List.range ns.length).map fun i => ⟨#[signOf (ns.getD i 0 + (i : Int))]⟩) → Q (.ref D) { s with heap := h, toks := tk }) :
    wpAny (model prog w) (callerA.deeper (lawEnv L f cd)) (eval (((Expr.Constant (Const.str (Str.ofString "abcde.")) 0 p1).Subscript ((((Expr.Name (Str.ofString "numbers") p2).Subscript (Expr.Name (Str.ofString "k") p3) p4).BinOp Operator.Add (Expr.Name (Str.ofString "k") p5) p6).BinOp Operator.Mod (Expr.Constant (Const.int 6) 0 p7) p8) p9).ListComp [{ target := Expr.Name (Str.ofString "k") p10, iter := (Expr.Name (Str.ofString "range") p11).Call [(Expr.Name (Str.ofString "len") p12).Call [Expr.Name (Str.ofString "numbers") p13] [] p14] [] p15, ifs := [], is_async := 0 }] { kind := ScopeKind.function, names := [(Str.ofString ".0", NameKind.local), (Str.ofString "k", NameKind.local), (Str.ofString "numbers", NameKind.free)], isGenerator := false, isCoroutine := false } p16) (lawEnv L f cd)) Q E s := by
  refine ListComp_U (h₀ := h₀) (L := L) (m := m) F (cl := [(Str.ofString "numbers", L + 1)]) (by with_unfolding_all rfl) (by decide) (by rfl) (by decide) (by rfl) ?_
  iterate 8 walk1
  refine nameX_C N rfl hr hrd ?_
  iterate 1 walk1
  have hnl := hi.length
  have hil : ∀ {g : Heap} {nw : List (Addr × Obj)}, News h₀ L g nw → (∀ p ∈ news, p ∈ nw) → g.IsList nl nvs.toArray := fun N' hs => ⟨_, (N' _ (hs _ hl)).1, rfl, _, rfl⟩
  refine len_list (hil N fun _ h => h) (by rw [List.size_toArray]; omega) ?_
  iterate 1 walk1
  refine range1_rows F N fun h₁ tk₁ t₁ u₁ v₁ hR F₁ N₁ _ => ?_
  refine CompSrc.range (n := ns.length) rfl F₁ N₁ hR (small_one (by omega) (by omega) (by omega) (by rw [List.size_toArray]; omega)) (by rw [rangeSize_nat, List.size_toArray]; omega) (by rw [sizeLine_eq]; omega) fun g => ?_
  refine compRest_of (fun i ys nw => nw = news ∧ StrsAre ys ((List.range i).map fun i => ⟨#[signOf (ns.getD i 0 + (i : Int))]⟩)) ?_ ?_ _ 0 [] news (Nat.zero_add _) ⟨rfl, .nil⟩
  · rintro i ys nw v I oI C oC D m₂ g tk hlt ⟨t, rfl⟩ ⟨rfl, hys⟩ hns hx F₂ N₂ off ne
    rw [Int.zero_add] at hx
    have up : ∀ p ∈ nw, p ∈ (I, oI) :: (C, oC) :: (D, lst ys) :: nw := fun p h => List.mem_cons_of_mem _ (List.mem_cons_of_mem _ (List.mem_cons_of_mem _ h))
    obtain ⟨tn, htn⟩ := hi.get i ns[i] (List.getElem?_eq_getElem hlt)
    iterate 5 walk1
    refine lcf_cell N₂ rfl (up _ hr) hrd ?_ rfl rfl
    refine comp_local N₂ (List.mem_cons_of_mem _ (List.mem_cons_self ..)) hns hx ?_
    refine item_litK (hil N₂ up) (by omega) (by omega) (v := .int ns[i] tn) (by simpa using htn) ?_
    refine comp_local N₂ (List.mem_cons_of_mem _ (List.mem_cons_self ..)) hns hx ?_
    walk1
    walk1
    refine PyProof.Rows.mod_int' (by decide) ?_
    have r0 := Int.fmod_nonneg_of_pos (ns[i] + (i : Int)) (b := 6) (by decide)
    have r1 := Int.fmod_lt_of_pos (ns[i] + (i : Int)) (b := 6) (by decide)
    refine KXi.item (n := 6) rfl (by omega) (by omega) (by omega) (fun _ => ?_)
    refine CompEnd.intro F₂ N₂ nw (fun p hp => hp) off trivial ⟨rfl, ?_⟩
    have hc : (Str.ofString "abcde.").cps[((ns[i] + (i : Int)).fmod 6).toNat]? = some (signOf (ns[i] + (i : Int))) := by
      have : ((ns[i] + (i : Int)).fmod 6).toNat < (Str.ofString "abcde.").cps.size := by show _ < 6; omega
      simp [signOf, Array.getD, this]
    have e : ns.getD i 0 = ns[i] := by simp [List.getD, hlt]
    rw [PyProof.Rows.item_meets r0 hc, List.range_succ, List.map_append]
    refine hys.append' ?_
    show StrsAre _ [⟨#[signOf (ns.getD i 0 + (i : Int))]⟩]
    rw [e]
    exact .cons _ _ .nil
  · rintro ys nw ⟨rfl, hys⟩ D g tk F₂ N₂ off
    exact K D g tk ys F₂ N₂ (off1_of off) hys
end
end Mine
namespace Mine
open PySem PySem.W PyProof.Rows PySem.Calls PySem.Spec PyProof.Rows.LCg
/-- the code of a number -/
def codeOf (x : Int) : List Int := [x.fmod 3, (x.fdiv 3).fmod 4, x.fdiv 12]
section
variable {prog : Program} {w : World} {E : Value → Shared → Prop} {s : Shared} {h₀ : Heap} {L f : Addr} {cd : Value} {m : Str → Option Value} {news : List (Addr × Obj)} {mean : ExcName → Option Value} {mg mb : Str → Option Value}
theorem codes_assign {p1 p2 p3 p4 p5 p6 p7 p8 p9 p10 p11 p12 p13 p14 p15 p16 p17 : Pos} {q1 q2 q3 q4 q5 q6 q7 q8 q9 : Nat} {on : Obj} {nl : Addr} {nvs : List Value} {nn : Nat} {ns : List Int} {Q : Flow → Shared → Prop}
    (X : (hd.heap_39 w.params).In h₀) (T : TopF mean mg mb h₀) (F : Fr h₀ L s.heap m) (N : News h₀ L s.heap news) (hr : (L + 1, on) ∈ news) (hrd : on.data = .cell (some (.ref nl)))
    (hl : (nl, ({ cls := .type "list", data := .seq nvs.toArray nn } : Obj)) ∈ news) (hi : IntsAre nvs ns) (hds : ns.length ≤ 50) (hd5 : 5 ≤ ns.length)
    (K : ∀ D h tk ys tl, Fr h₀ L h (fun z => if z = Str.ofString "codes" then some (.ref D) else m z) → News h₀ L h ((D, lst ys) :: (tl ++ news)) → (∀ p ∈ tl ++ news, p.1 ≠ D) → ys.length = 5 → (∀ (i : Nat) y x, ys[i]? = some y → ns[i]? = some x → MarkIn tl y (codeOf x)) → Q .next { s with heap := h, toks := tk }) :
    wpAny (model prog w) (callerA.deeper (lawEnv L f cd)) (exec (.Assign [.Name (Str.ofString "codes") ⟨68, q1, q2, q3⟩] ((Expr.List [(Expr.Name (Str.ofString "x") p1).BinOp Operator.Mod (Expr.Constant (Const.int 3) 0 p2) p3, ((Expr.Name (Str.ofString "x") p4).BinOp Operator.FloorDiv (Expr.Constant (Const.int 3) 0 p5) p6).BinOp Operator.Mod (Expr.Constant (Const.int 4) 0 p7) p8, (Expr.Name (Str.ofString "x") p9).BinOp Operator.FloorDiv (Expr.Constant (Const.int 12) 0 p10) p11] p12).ListComp [{ target := Expr.Name (Str.ofString "x") p13, iter := (Expr.Name (Str.ofString "numbers") p14).Subscript (Expr.Slice none (some (Expr.Constant (Const.int 5) 0 p15)) none p16) p17, ifs := [], is_async := 0 }] { kind := ScopeKind.function, names := [(Str.ofString ".0", NameKind.local), (Str.ofString "x", NameKind.local)], isGenerator := false, isCoroutine := false } ⟨68, q4, q5, q6⟩) ⟨68, q7, q8, q9⟩) (lawEnv L f cd)) Q E s := by
  refine Assign_ListComp_U (h₀ := h₀) (L := L) (m := m) F (cl := []) (by rfl) (by with_unfolding_all rfl) (by with_unfolding_all rfl) (by decide) (by rfl) (by decide) (by rfl) (by rfl) (by rfl) ?_
  walk1
  refine nameX_C N rfl hr hrd ?_
  walk1
  walk1
  walk1
  walk1
  walk1
  have hnl := hi.length
  have hs5 : (ns.take 5).length = 5 := by rw [List.length_take]; omega
  show wpAny _ _ (subscriptTail _ _ (Value.ref nl) (Value.ref s.heap.objs.size)) _ _ { ({ s with toks := s.toks + 1 } : Shared) with heap := s.heap.push { cls := .type "slice", data := .fields #[.none, .int 5 s.toks, .none] } }
  refine' kmk_slice_ints (s := { s with toks := s.toks + 1 }) (vs := nvs) (ns := ns) (lo := none) (hi := some 5) (ms := ns.take 5) (c := 5) F N ?hl .none (.int 5 s.toks) hi (slice_ints_uptoW hi (by decide)) hs5 ?k ?hs ?ht ?hz
  case hl => exact ⟨_, (N _ hl).1, rfl, _, rfl⟩
  case hs => with_unfolding_all rfl
  case ht => intro _; with_unfolding_all rfl
  case hz => rw [List.size_toArray, sizeLine_eq]; omega
  intro S ws h₁ F₁ N₁ hS hws _ _
  refine CompSrc.ledger (k := 0) rfl F₁ N₁ (List.mem_cons_self ..) (by rw [List.size_toArray, hws.length, sizeLine_eq]; omega) fun g => ?_
  have hS' : ∀ p ∈ news, p.1 ≠ S := fun p hp => Nat.ne_of_lt (hS p hp)
  generalize hso : (S, ({ cls := .type "list", data := .seq ws.toArray 0 } : Obj)) = so at *
  have hso1 : so.1 = S := by rw [← hso]
  refine compRest_of (fun i ys nw => ∃ tl, nw = tl ++ so :: news ∧ ys.length = i ∧ (∀ (i : Nat) y x, ys[i]? = some y → ns[i]? = some x → MarkIn tl y (codeOf x))) ?_ ?_ _ 0 [] (so :: news) (Nat.zero_add _) ⟨[], rfl, rfl, fun i y x h => by simp at h⟩
  · rintro i ys nw v I oI C oC D m₂ g tk hlt hv ⟨tl, rfl, hyl, hys⟩ hns hx F₂ N₂ off ne
    have hi5 : i < 5 := by rw [List.size_toArray, hws.length] at hlt; omega
    have hin : i < ns.length := by omega
    have hv' : ws[i]? = some v := by simpa using hv
    obtain ⟨tv, htv⟩ := hws.get i ns[i] (by rw [List.getElem?_take, if_pos hi5]; exact List.getElem?_eq_getElem hin)
    rw [htv] at hv'; cases hv'
    iterate 3 walk1
    refine comp_local N₂ (List.mem_cons_of_mem _ (List.mem_cons_self ..)) hns hx ?_
    iterate 2 walk1
    iterate 3 walk1
    refine comp_local N₂ (List.mem_cons_of_mem _ (List.mem_cons_self ..)) hns hx ?_
    iterate 4 walk1
    iterate 2 walk1
    refine comp_local N₂ (List.mem_cons_of_mem _ (List.mem_cons_self ..)) hns hx ?_
    iterate 3 walk1
    refine newList_N F₂ N₂ (fun g₃ F₃ N₃ => ?_) (by rw [sizeLine_eq]; show 3 ≤ _; omega)
    generalize hob : ({ cls := .type "list", data := .seq _ } : Obj) = ob at N₃
    dsimp only at N₃ ⊢
    have lt3 : ∀ p ∈ (I, oI) :: (C, oC) :: (D, lst ys) :: (tl ++ so :: news), p.1 ≠ g.objs.size := fun p hp => Nat.ne_of_lt (Heap.lt_size (N₂ p hp).1)
    refine CompEnd.intro F₃ N₃ ((g.objs.size, ob) :: (tl ++ so :: news)) ?_ ?_ (.inr ⟨{ cls := .type "list", data := .seq ws.toArray 0 }, by rw [hso]; simp, rfl, _, rfl⟩) ⟨(g.objs.size, ob) :: tl, rfl, by simp [hyl], fun k y x hy hxx => ?_⟩
    · intro p hp
      rcases List.mem_cons.mp hp with rfl | hp
      · simp
      rcases List.mem_cons.mp hp with rfl | hp
      · simp
      rcases List.mem_cons.mp hp with rfl | hp
      · simp
      rcases List.mem_cons.mp hp with rfl | hp
      · simp
      · exact List.mem_cons_of_mem _ (List.mem_cons_of_mem _ (List.mem_cons_of_mem _ (List.mem_cons_of_mem _ hp)))
    · refine Off3.of fun p hp => ?_
      rcases List.mem_cons.mp hp with rfl | hp
      · exact ⟨Ne.symm (lt3 (I, oI) (by simp)), Ne.symm (lt3 (C, oC) (by simp)), Ne.symm (lt3 (D, lst ys) (by simp))⟩
      · exact off.mem p hp
    · by_cases hk : k < i
      · rw [List.getElem?_append_left (by omega)] at hy
        obtain ⟨b, us, nn, e, hmm, r⟩ := hys k y x hy hxx
        exact ⟨b, us, nn, e, List.mem_cons_of_mem _ hmm, r⟩
      · have hk' : k = i := by
          have := (List.getElem?_eq_some_iff.mp hy).1
          simp at this; omega
        subst hk'
        rw [List.getElem?_append_right (by omega), hyl, Nat.sub_self] at hy
        cases hy
        rw [List.getElem?_eq_getElem hin] at hxx; cases hxx
        rw [← hob]
        exact ⟨g.objs.size, [.int _ _, .int _ _, .int _ _], _, rfl, List.mem_cons_self .., .cons _ _ (.cons _ _ (.cons _ _ .nil))⟩
  · rintro ys nw ⟨tl, rfl, hyl, hys⟩ D g tk F₂ N₂ off
    have hn5 : ws.toArray.size = 5 := by rw [List.size_toArray, hws.length, hs5]
    refine K D g tk ys (tl ++ [so]) F₂ (by rw [List.append_assoc]; exact N₂) (by rw [List.append_assoc]; exact off1_of off) (by omega) fun i y x hy hx => ?_
    obtain ⟨b, us, nn, e, hmm, r⟩ := hys i y x hy hx
    exact ⟨b, us, nn, e, List.mem_append_left _ hmm, r⟩
end
end Mine
namespace Mine
open PySem PySem.W PyProof.Rows PySem.Calls PySem.Spec PyProof.Rows.LCg
/-- the text of a column -/
def strOf (c : Int) : Str := [Str.ofString "", Str.ofString "a", Str.ofString "aa", Str.ofString "b"].getD c.toNat (Str.ofString "")
def rowOf (code : List Int) : Row3 := (code.getD 0 0, strOf (code.getD 1 0), code.getD 2 0)
def RowIn (tl : List (Addr × Obj)) (v : Value) (r : Row3) : Prop := ∃ a t1 t2 t3 n, v = .ref a ∧ (a, ({ cls := .type "tuple", data := .seq [Value.int r.1 t1, Value.str r.2.1 t2, Value.int r.2.2 t3].toArray n } : Obj)) ∈ tl
theorem pick4 (c : Int) (h0 : 0 ≤ c) (h4 : c < 4) (t1 t2 t3 t4 : Tok) : ∃ t, [Value.str (Str.ofString "") t1, Value.str (Str.ofString "a") t2, Value.str (Str.ofString "aa") t3, Value.str (Str.ofString "b") t4][c.toNat]? = some (.str (strOf c) t) := by
  have : c = 0 ∨ c = 1 ∨ c = 2 ∨ c = 3 := by omega
  rcases this with rfl | rfl | rfl | rfl
  · exact ⟨t1, rfl⟩
  · exact ⟨t2, rfl⟩
  · exact ⟨t3, rfl⟩
  · exact ⟨t4, rfl⟩
section
variable {prog : Program} {w : World} {E : Value → Shared → Prop} {s : Shared} {h₀ : Heap} {L f : Addr} {cd : Value} {m : Str → Option Value} {news : List (Addr × Obj)} {mean : ExcName → Option Value} {mg mb : Str → Option Value}
theorem rows_assign {p1 p2 p3 p4 p5 p6 p7 p8 p9 p10 p11 p12 p13 p14 p15 p16 p17 p18 : Pos} {q1 q2 q3 q4 q5 q6 q7 q8 q9 : Nat} {cl0 : Addr} {cvs : List Value} {cn : Nat} {codes : List (List Int)} {Q : Flow → Shared → Prop}
    (X : (hd.heap_39 w.params).In h₀) (T : TopF mean mg mb h₀) (F : Fr h₀ L s.heap m) (N : News h₀ L s.heap news) (hm : m (Str.ofString "codes") = some (.ref cl0)) (hcl : (cl0, ({ cls := .type "list", data := .seq cvs.toArray cn } : Obj)) ∈ news)
    (hcn : cvs.length = codes.length) (hc5 : codes.length ≤ 5) (hcin : ∀ (i : Nat) v code, cvs[i]? = some v → codes[i]? = some code → MarkIn news v code ∧ code.length = 3 ∧ 0 ≤ code.getD 1 0 ∧ code.getD 1 0 < 4)
    (K : ∀ D h tk ys tl, Fr h₀ L h (fun z => if z = Str.ofString "rows" then some (.ref D) else m z) → News h₀ L h ((D, lst ys) :: (tl ++ news)) → (∀ p ∈ tl ++ news, p.1 ≠ D) → ys.length = codes.length → (∀ (i : Nat) y code, ys[i]? = some y → codes[i]? = some code → RowIn tl y (rowOf code)) → Q .next { s with heap := h, toks := tk }) :
    wpAny (model prog w) (callerA.deeper (lawEnv L f cd)) (exec (.Assign [.Name (Str.ofString "rows") ⟨69, q1, q2, q3⟩] ((Expr.Tuple [(Expr.Name (Str.ofString "code") p1).Subscript (Expr.Constant (Const.int 0) 0 p2) p3, (Expr.List [Expr.Constant (Const.str (Str.ofString "")) 0 p4, Expr.Constant (Const.str (Str.ofString "a")) 0 p5, Expr.Constant (Const.str (Str.ofString "aa")) 0 p6, Expr.Constant (Const.str (Str.ofString "b")) 0 p7] p8).Subscript ((Expr.Name (Str.ofString "code") p9).Subscript (Expr.Constant (Const.int 1) 0 p10) p11) p12, (Expr.Name (Str.ofString "code") p13).Subscript (Expr.Constant (Const.int 2) 0 p14) p15] 0 p16).ListComp [{ target := Expr.Name (Str.ofString "code") p17, iter := Expr.Name (Str.ofString "codes") p18, ifs := [], is_async := 0 }] { kind := ScopeKind.function, names := [(Str.ofString ".0", NameKind.local), (Str.ofString "code", NameKind.local)], isGenerator := false, isCoroutine := false } ⟨69, q4, q5, q6⟩) ⟨69, q7, q8, q9⟩) (lawEnv L f cd)) Q E s := by
  refine Assign_ListComp_U (h₀ := h₀) (L := L) (m := m) F (cl := []) (by rfl) (by with_unfolding_all rfl) (by with_unfolding_all rfl) (by decide) (by rfl) (by decide) (by rfl) (by rfl) (by rfl) ?_
  refine nameX_L F hm ?_
  refine CompSrc.ledger rfl F N hcl (by rw [List.size_toArray, sizeLine_eq]; omega) fun g => ?_
  refine compRest_of (fun i ys nw => ∃ tl, nw = tl ++ news ∧ ys.length = i ∧ (∀ (i : Nat) y code, ys[i]? = some y → codes[i]? = some code → RowIn tl y (rowOf code))) ?_ ?_ _ 0 [] news (Nat.zero_add _) ⟨[], rfl, rfl, fun i y x h => by simp at h⟩
  · rintro i ys nw v I oI C oC D m₂ g tk hlt hv ⟨tl, rfl, hyl, hys⟩ hns hx F₂ N₂ off ne
    have hi5 : i < codes.length := by rw [List.size_toArray] at hlt; omega
    have up : ∀ p ∈ news, p ∈ (I, oI) :: (C, oC) :: (D, lst ys) :: (tl ++ news) := fun p h => List.mem_cons_of_mem _ (List.mem_cons_of_mem _ (List.mem_cons_of_mem _ (List.mem_append_right _ h)))
    obtain ⟨⟨ca, cvs', cn', rfl, hcm, hci⟩, hc3, hc1, hc4⟩ := hcin i v codes[i] (by simpa using hv) (List.getElem?_eq_getElem hi5)
    have hcl' := hci.length
    have hca : ∀ {g : Heap} {nw : List (Addr × Obj)}, News h₀ L g nw → (∀ p ∈ news, p ∈ nw) → g.IsList ca cvs'.toArray := fun N' hs => ⟨_, (N' _ (hs _ hcm)).1, rfl, _, rfl⟩
    have hget : ∀ k, k < 3 → ∃ t, cvs'[k]? = some (.int (codes[i].getD k 0) t) := fun k hk => by
      have := hci.get k (codes[i].getD k 0) (by simp [List.getD, show k < codes[i].length by omega])
      exact this
    obtain ⟨t0, ht0⟩ := hget 0 (by omega)
    obtain ⟨t1, ht1⟩ := hget 1 (by omega)
    obtain ⟨t2, ht2⟩ := hget 2 (by omega)
    iterate 3 walk1
    refine comp_local N₂ (List.mem_cons_of_mem _ (List.mem_cons_self ..)) hns hx ?_
    walk1
    refine item_litK (hca N₂ up) (by omega) (by omega) (v := .int (codes[i].getD 0 0) t0) (by simpa using ht0) ?_
    iterate 12 walk1
    refine newList_N F₂ N₂ (fun g₃ F₃ N₃ => ?_) (by rw [sizeLine_eq]; show 4 ≤ _; omega)
    walk1
    refine comp_local N₃ (List.mem_cons_of_mem _ (List.mem_cons_of_mem _ (List.mem_cons_self ..))) hns hx ?_
    walk1
    refine item_litK (hca N₃ fun p hp => List.mem_cons_of_mem _ (up p hp)) (by omega) (by omega) (v := .int (codes[i].getD 1 0) t1) (by simpa using ht1) ?_
    refine item_litK ⟨_, (N₃ _ (List.mem_cons_self ..)).1, rfl, _, rfl⟩ hc1 (by omega) (Classical.choose_spec (pick4 _ hc1 hc4 _ _ _ _)) ?_
    generalize Classical.choose (pick4 _ hc1 hc4 _ _ _ _) = tS
    iterate 2 walk1
    refine comp_local N₃ (List.mem_cons_of_mem _ (List.mem_cons_of_mem _ (List.mem_cons_self ..))) hns hx ?_
    walk1
    refine item_litK (hca N₃ fun p hp => List.mem_cons_of_mem _ (up p hp)) (by omega) (by omega) (v := .int (codes[i].getD 2 0) t2) (by simpa using ht2) ?_
    walk1
    refine newTuple_N F₃ N₃ (fun g₄ F₄ N₄ => ?_) (by rw [sizeLine_eq]; show 3 ≤ _; omega)
    generalize hob : ({ cls := .type "tuple", data := .seq (List.toArray [Value.int (codes[i].getD 0 0) t0, Value.str (strOf (codes[i].getD 1 0)) tS, Value.int (codes[i].getD 2 0) t2]) } : Obj) = ob at N₄
    dsimp only at N₄ ⊢
    have lt3 : ∀ p ∈ (I, oI) :: (C, oC) :: (D, lst ys) :: (tl ++ news), p.1 ≠ g₃.objs.size := fun p hp => Nat.ne_of_lt (Heap.lt_size (N₃ p (List.mem_cons_of_mem _ hp)).1)
    refine CompEnd.intro F₄ N₄ ((g₃.objs.size, ob) :: (tl ++ news)) ?_ ?_ (.inr ⟨_, List.mem_cons_of_mem _ (List.mem_append_right _ hcl), rfl, _, rfl⟩) ⟨(g₃.objs.size, ob) :: tl, rfl, by simp [hyl], fun k y x hy hxx => ?_⟩
    · intro p hp
      rcases List.mem_cons.mp hp with rfl | hp
      · simp
      rcases List.mem_cons.mp hp with rfl | hp
      · simp
      rcases List.mem_cons.mp hp with rfl | hp
      · simp
      rcases List.mem_cons.mp hp with rfl | hp
      · simp
      · exact List.mem_cons_of_mem _ (List.mem_cons_of_mem _ (List.mem_cons_of_mem _ (List.mem_cons_of_mem _ (List.mem_cons_of_mem _ hp))))
    · refine Off3.of fun p hp => ?_
      rcases List.mem_cons.mp hp with rfl | hp
      · exact ⟨Ne.symm (lt3 (I, oI) (by simp)), Ne.symm (lt3 (C, oC) (by simp)), Ne.symm (lt3 (D, lst ys) (by simp))⟩
      · exact off.mem p hp
    · by_cases hk : k < i
      · rw [List.getElem?_append_left (by omega)] at hy
        obtain ⟨b, u1, u2, u3, nn, e, hmm⟩ := hys k y x hy hxx
        exact ⟨b, u1, u2, u3, nn, e, List.mem_cons_of_mem _ hmm⟩
      · have hk' : k = i := by
          have := (List.getElem?_eq_some_iff.mp hy).1
          simp at this; omega
        subst hk'
        rw [List.getElem?_append_right (by omega), hyl, Nat.sub_self] at hy
        cases hy
        rw [List.getElem?_eq_getElem hi5] at hxx; cases hxx
        rw [← hob]
        exact ⟨g₃.objs.size, t0, tS, t2, _, rfl, List.mem_cons_self ..⟩
  · rintro ys nw ⟨tl, rfl, hyl, hys⟩ D g tk F₂ N₂ off
    exact K D g tk ys tl F₂ N₂ (off1_of off) (by rw [hyl, List.size_toArray]; omega) hys
end
end Mine
namespace Mine
open PySem
def marksOf (ks : List (Nat × Int)) (way : Int) (code : List Int) : List Int := ks.map fun q => way * q.2 * code.getD q.1 0
theorem strOf_lt : ∀ a b : Fin 4, decide ((strOf (a.val : Int)).cps.toList < (strOf (b.val : Int)).cps.toList) = decide (a.val < b.val) := by decide +kernel
theorem colLt_eq (c : Nat) (hc : c < 3) (a b : List Int) (ha : 0 ≤ a.getD 1 0 ∧ a.getD 1 0 < 4) (hb : 0 ≤ b.getD 1 0 ∧ b.getD 1 0 < 4) : colLt c (rowOf a) (rowOf b) = decide (a.getD c 0 < b.getD c 0) := by
  have : c = 0 ∨ c = 1 ∨ c = 2 := by omega
  rcases this with rfl | rfl | rfl
  · rfl
  · show decide ((strOf (a.getD 1 0)).cps.toList < (strOf (b.getD 1 0)).cps.toList) = _
    have h := strOf_lt ⟨(a.getD 1 0).toNat, by omega⟩ ⟨(b.getD 1 0).toNat, by omega⟩
    simp only [Int.toNat_of_nonneg ha.1, Int.toNat_of_nonneg hb.1] at h
    rw [h]
    by_cases e : a.getD 1 0 < b.getD 1 0
    · rw [decide_eq_true e]; exact decide_eq_true (by omega)
    · rw [decide_eq_false e]; exact decide_eq_false (by omega)
  · rfl
theorem cmp_marks (way : Int) (hw : way = 1 ∨ way = -1) (a b : List Int) (ha : 0 ≤ a.getD 1 0 ∧ a.getD 1 0 < 4) (hb : 0 ≤ b.getD 1 0 ∧ b.getD 1 0 < 4) :
    ∀ ks : List (Nat × Int), (∀ q ∈ ks, q.1 < 3 ∧ (q.2 = 1 ∨ q.2 = -1)) → decide (cmpRes ks (rowOf a) (rowOf b) = way) = ltL (marksOf ks way b) (marksOf ks way a)
  | [], _ => by
    show decide ((0 : Int) = way) = false
    exact decide_eq_false (by omega)
  | (c, d) :: r, h => by
    have ih := cmp_marks way hw a b ha hb r fun q hq => h q (List.mem_cons_of_mem _ hq)
    obtain ⟨hc, hd⟩ := h (c, d) (List.mem_cons_self ..)
    simp only at hc hd
    show decide ((if colLt c (rowOf a) (rowOf b) = true then -d else if colLt c (rowOf b) (rowOf a) = true then d else cmpRes r (rowOf a) (rowOf b)) = way) = ltL (way * d * b.getD c 0 :: marksOf r way b) (way * d * a.getD c 0 :: marksOf r way a)
    rw [colLt_eq c hc a b ha hb, colLt_eq c hc b a hb ha, ltL]
    generalize a.getD c 0 = x
    generalize b.getD c 0 = y
    by_cases h1 : x < y
    · rw [if_pos (by simpa using h1)]
      rcases hw with rfl | rfl <;> rcases hd with rfl | rfl <;> rw [if_neg (by omega)] <;> simp <;> omega
    · rw [if_neg (by simpa using h1)]
      by_cases h2 : y < x
      · rw [if_pos (by simpa using h2)]
        rcases hw with rfl | rfl <;> rcases hd with rfl | rfl <;> rw [if_neg (by omega)] <;> simp <;> omega
      · rw [if_neg (by simpa using h2), if_pos (by rw [show x = y by omega])]
        exact ih
theorem wrong_mem (ks : List (Nat × Int)) (rs : List Row3) (way : Int) (p : Nat × Nat) : p ∈ wrongAll ks rs way 5 ↔ ∃ i j, i < 5 ∧ j < 5 ∧ p = (97 + i, 97 + j) ∧ cmpRes ks (rs.getD i (0, Str.empty, 0)) (rs.getD j (0, Str.empty, 0)) = way := by
  unfold wrongAll wrongOf
  rw [List.mem_flatMap]
  constructor
  · rintro ⟨i, hi, h⟩
    obtain ⟨j, hj, e⟩ := List.mem_filterMap.mp h
    by_cases hc : cmpRes ks (rs.getD i (0, Str.empty, 0)) (rs.getD j (0, Str.empty, 0)) = way
    · rw [if_pos hc] at e; cases e
      exact ⟨i, j, by simpa using hi, by simpa using hj, rfl, hc⟩
    · rw [if_neg hc] at e; cases e
  · rintro ⟨i, j, hi, hj, rfl, hc⟩
    exact ⟨i, by simpa using hi, List.mem_filterMap.mpr ⟨j, by simpa using hj, by rw [if_pos hc]⟩⟩
theorem wrong_len (ks : List (Nat × Int)) (rs : List Row3) (way : Int) : (wrongAll ks rs way 5).length ≤ 50 := by
  have h1 : ∀ i, (wrongOf ks rs way i 5).length ≤ 5 := fun i => by
    unfold wrongOf
    have := List.length_filterMap_le (fun j => if cmpRes ks (rs.getD i (0, Str.empty, 0)) (rs.getD j (0, Str.empty, 0)) = way then some (97 + i, 97 + j) else none) (List.range 5)
    simpa using this
  have h2 : wrongAll ks rs way 5 = wrongOf ks rs way 0 5 ++ (wrongOf ks rs way 1 5 ++ (wrongOf ks rs way 2 5 ++ (wrongOf ks rs way 3 5 ++ (wrongOf ks rs way 4 5 ++ [])))) := rfl
  rw [h2]
  simp only [List.length_append, List.length_nil]
  have a0 := h1 0; have a1 := h1 1; have a2 := h1 2; have a3 := h1 3; have a4 := h1 4
  omega
section
variable (ks : List (Nat × Int)) (hks : ∀ q ∈ ks, q.1 < 3 ∧ (q.2 = 1 ∨ q.2 = -1)) (way : Int) (hw : way = 1 ∨ way = -1) (codes : List (List Int)) (h5 : codes.length = 5) (hcd : ∀ c ∈ codes, 0 ≤ c.getD 1 0 ∧ c.getD 1 0 < 4)
include hks hw h5 hcd
theorem cmp_gt (i j : Nat) (hi : i < 5) (hj : j < 5) : decide (cmpRes ks ((codes.map rowOf).getD i (0, Str.empty, 0)) ((codes.map rowOf).getD j (0, Str.empty, 0)) = way) = gtM (mkOf (codes.map (marksOf ks way))) (97 + i) (97 + j) := by
  have hi' : i < codes.length := by omega
  have hj' : j < codes.length := by omega
  have e1 : (codes.map rowOf).getD i (0, Str.empty, 0) = rowOf codes[i] := by simp [List.getD, hi']
  have e2 : (codes.map rowOf).getD j (0, Str.empty, 0) = rowOf codes[j] := by simp [List.getD, hj']
  have m1 : mkOf (codes.map (marksOf ks way)) (97 + i) = marksOf ks way codes[i] := by unfold mkOf; rw [show 97 + i - 97 = i by omega]; simp [List.getD, hi']
  have m2 : mkOf (codes.map (marksOf ks way)) (97 + j) = marksOf ks way codes[j] := by unfold mkOf; rw [show 97 + j - 97 = j by omega]; simp [List.getD, hj']
  unfold gtM
  rw [e1, e2, m1, m2, decide_eq_true (by omega : 97 + i ≠ 46), decide_eq_true (by omega : 97 + j ≠ 46), Bool.true_and, Bool.true_and]
  exact cmp_marks way hw _ _ (hcd _ (List.getElem_mem hi')) (hcd _ (List.getElem_mem hj')) ks hks
/-- the two sides of the law -/
theorem law_plain (l : List Nat) (hl : ∀ c ∈ l, c = 46 ∨ (97 ≤ c ∧ c < 102)) :
    settle (l.length * l.length / 2 + 1) (wrongAll ks (codes.map rowOf) way 5) l 0 = (dsort (gtM (mkOf (codes.map (marksOf ks way)))) l, inv (gtM (mkOf (codes.map (marksOf ks way)))) l) := by
  have G := gtM_ok (mkOf (codes.map (marksOf ks way)))
  rw [settle_eq G _ ?_ _ l 0 ?_ ?_]
  · rw [Nat.zero_add]
  · intro p hp
    obtain ⟨i, j, hi, hj, rfl, hc⟩ := (wrong_mem ks _ way p).mp hp
    rw [← cmp_gt ks hks way hw codes h5 hcd i j hi hj]
    exact decide_eq_true hc
  · intro a b ha hb hg
    have ⟨na, nb⟩ := gt_ne G hg
    have ra : 97 ≤ a ∧ a < 102 := by
      rcases hl a ha with h | h
      · exact absurd h na
      · exact h
    have rb : 97 ≤ b ∧ b < 102 := by
      rcases hl b hb with h | h
      · exact absurd h nb
      · exact h
    refine (wrong_mem ks _ way (a, b)).mpr ⟨a - 97, b - 97, by omega, by omega, by rw [show 97 + (a - 97) = a by omega, show 97 + (b - 97) = b by omega], ?_⟩
    have := cmp_gt ks hks way hw codes h5 hcd (a - 97) (b - 97) (by omega) (by omega)
    rw [show 97 + (a - 97) = a by omega, show 97 + (b - 97) = b by omega, hg] at this
    exact of_decide_eq_true this
  · have := inv_le (gt := gtM (mkOf (codes.map (marksOf ks way)))) l
    omega
end
theorem keysFrom_ok : ∀ (n : Nat) (left : Int), ∀ q ∈ keysFrom n left, q.1 < 3 ∧ (q.2 = 1 ∨ q.2 = -1)
  | 0, _, q, h => nomatch h
  | n + 1, left, q, h => by
    unfold keysFrom at h
    rcases List.mem_cons.mp h with rfl | h
    · have q0 := Int.fmod_nonneg_of_pos left (b := 3) (by decide)
      have q1 := Int.fmod_lt_of_pos left (b := 3) (by decide)
      have q2 := Int.fmod_nonneg_of_pos (left.fdiv 3) (b := 2) (by decide)
      have q3 := Int.fmod_lt_of_pos (left.fdiv 3) (b := 2) (by decide)
      exact ⟨by show (left.fmod 3).toNat < 3; omega, by show _ - _ = _ ∨ _ - _ = _; omega⟩
    · exact keysFrom_ok n _ q h
theorem keysFrom_len : ∀ (n : Nat) (left : Int), (keysFrom n left).length = n
  | 0, _ => rfl
  | n + 1, left => by unfold keysFrom; simp [keysFrom_len n]
theorem codeOf_ok (x : Int) : (codeOf x).length = 3 ∧ 0 ≤ (codeOf x).getD 1 0 ∧ (codeOf x).getD 1 0 < 4 :=
  ⟨rfl, Int.fmod_nonneg_of_pos (x.fdiv 3) (b := 4) (by decide), Int.fmod_lt_of_pos (x.fdiv 3) (b := 4) (by decide)⟩
theorem signOf_ok (v : Int) : signOf v = 46 ∨ (97 ≤ signOf v ∧ signOf v < 102) := by
  have r0 := Int.fmod_nonneg_of_pos v (b := 6) (by decide)
  have r1 := Int.fmod_lt_of_pos v (b := 6) (by decide)
  have : ∀ n : Fin 6, (Str.ofString "abcde.").cps.getD n.val 0 = 46 ∨ (97 ≤ (Str.ofString "abcde.").cps.getD n.val 0 ∧ (Str.ofString "abcde.").cps.getD n.val 0 < 102) := by decide +kernel
  exact this ⟨(v.fmod 6).toNat, by omega⟩
end Mine
namespace Mine
open PySem PySem.W PyProof.Rows PySem.Calls PySem.Spec PyProof.Rows.LCg
section
variable {prog : Program} {w : World} {A : Around} {s : Shared} {env : Env} {h₀ : Heap}
/-- a for over a tuple, by what holds between the turns -/
theorem for_tuple {Q : Flow → Shared → Prop} {E : Value → Shared → Prop} {target : Expr} {body : List Stmt} {l : Addr} {items : Array Value} {m : Str → Option Value} {news : List (Addr × Obj)}
    (hh : A.handled = none) (hl : s.heap.IsTuple l items) (F : Fr h₀ env.locals s.heap m) (N : News h₀ env.locals s.heap news)
    (J : Nat → (Str → Option Value) → List (Addr × Obj) → Prop) (hJ : J 0 m news)
    (hsrc : (∃ o, h₀.get? l = some o) ∨ ∃ o, ∀ i m nx, J i m nx → (l, o) ∈ nx) (hx : ∀ I v, letOwnedTupleGo target (.ref I) v = pure ())
    (turn : ∀ i v m₁ nx h tk I oI, items[i]? = some v → J i m₁ nx → Fr h₀ env.locals h m₁ → News h₀ env.locals h ((I, oI) :: nx) → (∀ p ∈ nx, p.1 ≠ I) →
      wpAny (model prog w) A (assign target env v) (fun _ s₂ =>
        wpAny (model prog w) A (execs body env) (LEnd h₀ env.locals s I oI (J (i + 1)) Q) (fun _ _ => False) s₂) (fun _ _ => False) { s with heap := h, toks := tk })
    (done : ∀ m₁ nx h tk, J items.size m₁ nx → Fr h₀ env.locals h m₁ → News h₀ env.locals h nx → Q .next { s with heap := h, toks := tk }) :
    wpAny (model prog w) A (pyIter (.ref l)) (fun it s₂ => codeAny (model prog w) A (.forLoop target it body [] env) (fun r s' => match r with | .ok f => Q f s' | .error e => cameBackBy (model prog w) A env E e s') s₂) E s := by
  obtain ⟨ol, hol, _⟩ := id hl
  have hne : l ≠ s.heap.objs.size := Nat.ne_of_lt (Heap.lt_size hol)
  refine wpAny_pyIter_tuple hl ?_
  refine for_walks (h₀ := h₀) (s := { s with heap := s.heap.push { cls := .type "tuple_iterator", data := .fields #[.ref l, .int 0 0] } }) (Walks.tuple hh s.heap.objs.size l hne items) ⟨⟨_, Heap.get?_push_size _ rfl, rfl, rfl⟩, hl.at fun o e => Heap.get?_push_of_some _ e⟩ (fun i h st => by obtain ⟨o, e, _⟩ := st.1; exact ⟨o, e⟩)
    (next_is_new F) (fun e => absurd F.ns.lt (e ▸ Nat.lt_irrefl _)) (F.push _) (fun p hp => ⟨Heap.get?_push_of_some _ (N p hp).1, (N p hp).2⟩) (fun p hp => Nat.ne_of_lt (Heap.lt_size (N p hp).1)) J hJ ?_ ?_ ?_
  · intro b hb
    rcases List.mem_cons.mp hb with e | hb
    · exact .inl e
    · rw [List.mem_singleton.mp hb]; exact .inr hsrc
  · intro i v m₁ nx h tk oI _ hP hJ' F₁ N₁ hn₁ st₁
    rw [hx]
    exact wpAny_pure (turn i v m₁ nx h tk _ oI hP hJ' F₁ N₁ hn₁)
  · intro m₁ nx h tk hJ' F₁ N₁
    exact done m₁ nx h tk hJ' F₁ N₁
end
theorem MarkIn.up {tl tl' : List (Addr × Obj)} {v : Value} {d : List Int} (h : ∀ p ∈ tl, p ∈ tl') (x : MarkIn tl v d) : MarkIn tl' v d := by
  obtain ⟨b, us, n, e, hm, r⟩ := x; exact ⟨b, us, n, e, h _ hm, r⟩
theorem MarkIn.at' {tl : List (Addr × Obj)} {g : Heap} {v : Value} {d : List Int} (h : ∀ p ∈ tl, g.get? p.1 = some p.2) (x : MarkIn tl v d) : MarkAt g v d := by
  obtain ⟨b, us, n, e, hm, r⟩ := x; exact ⟨b, us, n, e, h _ hm, r⟩
theorem KeyIn.up {tl tl' : List (Addr × Obj)} {v : Value} {q : Nat × Int} (h : ∀ p ∈ tl, p ∈ tl') (x : KeyIn tl v q) : KeyIn tl' v q := by
  obtain ⟨a, t1, t2, n, e, hm, r⟩ := x; exact ⟨a, t1, t2, n, e, h _ hm, r⟩
theorem RowIn.at' {tl : List (Addr × Obj)} {g : Heap} {v : Value} {r : Row3} (h : ∀ p ∈ tl, g.get? p.1 = some p.2) (x : RowIn tl v r) : RowAt g v r := by
  obtain ⟨a, t1, t2, t3, n, e, hm⟩ := x; exact ⟨a, t1, t2, t3, e, isTup_of (h _ hm)⟩
theorem RowIn.up {tl tl' : List (Addr × Obj)} {v : Value} {r : Row3} (h : ∀ p ∈ tl, p ∈ tl') (x : RowIn tl v r) : RowIn tl' v r := by
  obtain ⟨a, t1, t2, t3, n, e, hm⟩ := x; exact ⟨a, t1, t2, t3, n, e, h _ hm⟩
/-- a row of codes, out of the numbers -/
theorem codes_in {ns : List Int} {cvs : List Value} {tl tl' : List (Addr × Obj)} (h : ∀ p ∈ tl, p ∈ tl') (hc : ∀ (i : Nat) y x, cvs[i]? = some y → ns[i]? = some x → MarkIn tl y (codeOf x)) :
    ∀ (i : Nat) v code, cvs[i]? = some v → ((ns.take 5).map codeOf)[i]? = some code → MarkIn tl' v code ∧ code.length = 3 ∧ 0 ≤ code.getD 1 0 ∧ code.getD 1 0 < 4 := by
  intro i v code hv hq
  rw [List.getElem?_map] at hq
  cases hx : (ns.take 5)[i]? with
  | none => rw [hx] at hq; cases hq
  | some x =>
    rw [hx] at hq; cases hq
    have hx' : ns[i]? = some x := by
      rw [List.getElem?_take] at hx
      split at hx
      · exact hx
      · cases hx
    exact ⟨(hc i v x hv hx').up h, codeOf_ok x⟩
/-- a ledger without one place -/
def off (c : Addr) (tl : List (Addr × Obj)) : List (Addr × Obj) := tl.filter fun p => decide (p.1 ≠ c)
theorem off_ne {c : Addr} {tl : List (Addr × Obj)} : ∀ p ∈ off c tl, p.1 ≠ c := fun p hp => by
  have := (List.mem_filter.mp hp).2
  exact of_decide_eq_true this
theorem off_sub {c : Addr} {tl : List (Addr × Obj)} : ∀ p ∈ off c tl, p ∈ tl := fun p hp => (List.mem_filter.mp hp).1
theorem off_mem {c a : Addr} {o oc : Obj} {tl : List (Addr × Obj)} {g : Heap} {v : Option Value} {xs : Array Value} {n : Nat} (hm : (a, o) ∈ tl) (hg : ∀ p ∈ tl, g.get? p.1 = some p.2) (hc : g.get? c = some oc) (hd : oc.data = .cell v) (ho : o.data = .seq xs n) : (a, o) ∈ off c tl := by
  refine List.mem_filter.mpr ⟨hm, decide_eq_true fun e => ?_⟩
  have h1 : g.get? a = some o := hg _ hm
  have e' : a = c := e
  rw [e', hc] at h1
  cases h1
  rw [hd] at ho; cases ho
theorem RowIn.off {c : Addr} {oc : Obj} {tl : List (Addr × Obj)} {g : Heap} {v : Value} {r : Row3} {u : Option Value} (hg : ∀ p ∈ tl, g.get? p.1 = some p.2) (hc : g.get? c = some oc) (hd : oc.data = .cell u) (x : RowIn tl v r) : RowIn (off c tl) v r := by
  obtain ⟨a, t1, t2, t3, n, e, hm⟩ := x; exact ⟨a, t1, t2, t3, n, e, off_mem hm hg hc hd rfl⟩
theorem MarkIn.off {c : Addr} {oc : Obj} {tl : List (Addr × Obj)} {g : Heap} {v : Value} {d : List Int} {u : Option Value} (hg : ∀ p ∈ tl, g.get? p.1 = some p.2) (hc : g.get? c = some oc) (hd : oc.data = .cell u) (x : MarkIn tl v d) : MarkIn (off c tl) v d := by
  obtain ⟨b, us, n, e, hm, r⟩ := x; exact ⟨b, us, n, e, off_mem hm hg hc hd rfl, r⟩
theorem insL_mem {gt : Nat → Nat → Bool} {a c : Nat} : ∀ {l : List Nat}, c ∈ insL gt a l → c = a ∨ c ∈ l
  | [], h => .inl (List.mem_singleton.mp h)
  | x :: xs, h => by
    unfold insL at h
    split at h
    · rcases List.mem_cons.mp h with h | h
      · exact .inr (h ▸ List.mem_cons_self ..)
      · rcases insL_mem h with h | h
        · exact .inl h
        · exact .inr (List.mem_cons_of_mem _ h)
    · rcases List.mem_cons.mp h with h | h
      · exact .inl h
      · exact .inr h
theorem dsort_mem {gt : Nat → Nat → Bool} {c : Nat} : ∀ {l : List Nat}, c ∈ dsort gt l → c ∈ l
  | [], h => h
  | a :: t, h => by
    rcases insL_mem (show c ∈ insL gt a (dsort gt t) from h) with h | h
    · exact h ▸ List.mem_cons_self ..
    · exact List.mem_cons_of_mem _ (dsort_mem h)
theorem strOk_of {x : Str} (h : ∀ c ∈ x.cps.toList, c < 1114112) : PyData.strOk x = true := by
  unfold PyData.strOk
  rw [← Array.all_toList]
  exact List.all_eq_true.mpr fun c hc => decide_eq_true (h c hc)
/-- two made tuples of a text and a number, alike -/
theorem ne_two {prog : Program} {w : World} {A : Around} {E : Value → Shared → Prop} {s : Shared} {Q : Value → Shared → Prop} {a b : Addr} {x : Str} {k : Int} {t1 t2 t3 t4 : Tok} {n1 n2 : Nat}
    (ha : s.heap.get? a = some { cls := .type "tuple", data := .seq [Value.str x t1, Value.int k t2].toArray n1 }) (hb : s.heap.get? b = some { cls := .type "tuple", data := .seq [Value.str x t3, Value.int k t4].toArray n2 })
    (hx : PyData.strOk x = true) (hu : A.units + 64 < cLine) (h : Q (.bool false) s) : wpAny (model prog w) A (compareOp .NotEq (.ref a) (.ref b)) Q E s := by
  have hs : SeqAt.shaped (.tuple [.str x, .int k]) = true := by simp [SeqAt.shaped, PyData.canLay0, PyData.canLayAll0, PyData.depth, PyData.depthAll, hx]
  have he : PyData.eqv (.tuple [.str x, .int k]) (.tuple [.str x, .int k]) = true := by simp [PyData.eqv, PyData.eqvAll]
  refine ne_dataH (reads_tuple_at ha rfl rfl (.cons (.str _ _) (.cons (.int _ _) .nil))) (reads_tuple_at hb rfl rfl (.cons (.str _ _) (.cons (.int _ _) .nil))) hs hs hu ?_
  rw [he]; exact h
end Mine
namespace Mine
open PySem PySem.W PyProof.Rows PySem.Calls PySem.Spec PyProof.Rows.LCg
/-- how the law ends -/
def LawEnd (s₁ : Shared) (h₀ : Heap) (L : Addr) (f : Flow) (s' : Shared) : Prop := f = .ret (.bool true) ∧ ∃ h tk m, s' = { s₁ with heap := h, toks := tk } ∧ Fr h₀ L h m
theorem flat_single (f : Nat → Nat) : ∀ l : List Nat, (l.map ((fun x : Str => x.cps.toList) ∘ fun i => (⟨#[f i]⟩ : Str))).flatten = l.map f
  | [] => rfl
  | k :: l => by
    rw [List.map_cons, List.map_cons, List.flatten_cons, flat_single f l]; rfl
theorem t : PySem.Challenge.rw_mq0052_01.Holds := hd (by
  w_on
  k_go0
  rename_i w s₀ s₁ mg mb G Y fa o pm doc ho hg KX X V GL T B TE TW a1 a2 M a3 a4 hcd ns hs hlay0 hL' hr hl2 b1 b2 sa svs b3 hL ra w1 r0 hI hr' hcond hcond' K0 hD h₁ tk₁ F o1 o2 o3 d1 d2 d3 N0 X0
  refine wpAny_mono (Q := LawEnd s₁ s₁.heap s₁.heap.objs.size) (E := fun _ _ => False) ?_ (fun f s' hq => ?_) (fun _ _ e => e.elim)
  rotate_left
  · obtain ⟨rfl, h, tk, m, rfl, Fz⟩ := hq
    exact goodW_bool (s' := { s₁ with heap := h, toks := tk }) Fz hg (fun _ => rfl) (by wrow_post)
  have hlen : ns.length ≤ 63 := by have := hcond; omega
  have hsv := hI.length
  have hidB : True ∧ Below callerA s₁.heap [] s₁.heap := And.intro trivial K0
  clear G Y X V GL B TE TW M hcd hs hlay0 hL' hr hl2 ra w1 r0 hr' hcond hcond' K0 hD X0 ho
  have d1' : o1.data = .cell none := d1
  have d2' : o2.data = .cell none := d2
  have d3' : o3.data = .cell none := d3
  clear d1 d2 d3
  generalize hh0 : s₁.heap = h₀ at *
  generalize hL0 : h₀.objs.size = L at *
  dsimp only
  iterate 13 walk1
  walk1
  walk1
  walk1
  iterate 15 walk1
  dsimp only
  rename_i D w₂ h₂ F₂ N₂ hI₂ l2
  have hsp : ∃ ns' : List Int, ns' = List.take 8 ns ++ [4, 2, 10, 15, 7] := ⟨_, rfl⟩
  obtain ⟨ns', hns'⟩ := hsp
  rw [← hns'] at hI₂
  have hlt : L + 1 + 1 + 1 < D ∧ L + 1 + 1 < D ∧ L + 1 < D := l2.2.2.2
  have N₃ : News h₀ L h₂ [(D, W.listOf w₂.toArray 0), (L + 1 + 1 + 1, o1), (L + 1 + 1, o2), (L + 1, o3)] := fun p hp => N₂ p (by
    rcases List.mem_cons.mp hp with rfl | hp
    · exact List.mem_cons_self ..
    · exact List.mem_cons_of_mem _ (List.mem_cons_of_mem _ (List.mem_cons_of_mem _ (List.mem_cons_of_mem _ hp))))
  have n1 : D ≠ L + 1 := Nat.ne_of_gt hlt.2.2
  have n31 : (L + 1 + 1 + 1) ≠ L + 1 := (by omega : @Ne Nat (L + 1 + 1 + 1) (L + 1))
  have n21 : (L + 1 + 1) ≠ L + 1 := (by omega : @Ne Nat (L + 1 + 1) (L + 1))
  clear N₂ l2
  refine storeX_C F₂ N₃ (c := L + 1) rfl (.tail n1 (.tail n31 (.tail n21 (.head (fun _ hp => (nomatch hp)))))) d3' fun h₃ o3' F₃ N₄ d3 => ?_
  dsimp only
  clear F₂ N₃
  iterate 8 walk1
  iterate 3 walk1
  refine nameX_C N₄ rfl (by simp) d3 ?_
  walk1
  walk1
  rename_i h₄ tk₄ t₄ F₄ N₅
  clear F₃ N₄
  walk1
  refine ⟨KX.keeps F₄.keep, wpAny_call (keys_spec (KX.keeps F₄.keep) (T.keeps F₄.keep) ?_)⟩
  intro h₅ tk₅ kl kc kvs ktl K₅ M₅ hkl hkn hkin
  have F₅ := frKeeps K₅ F₄
  have N₆ := newsKeeps K₅ N₅
  have NK := Made.news F₄ K₅ M₅
  have hdis : ∀ p ∈ (kl, W.listOf kvs.toArray kc) :: ktl, ∀ q ∈ [(D, W.listOf w₂.toArray 0), (L + 1 + 1 + 1, o1), (L + 1 + 1, o2), (L + 1, o3')], p.1 ≠ q.1 := fun p hp q hq e => by
    have a := (M₅ p hp).2
    rw [e] at a
    have b := (N₅ q hq).1
    exact absurd (a.symm.trans b) (fun z => nomatch z)
  clear F₄ N₅ K₅ M₅
  have n2 : D ≠ L + 1 + 1 := Nat.ne_of_gt hlt.2.1
  have n3 : D ≠ L + 1 + 1 + 1 := Nat.ne_of_gt hlt.1
  have n32 : (L + 1 + 1 + 1) ≠ L + 1 + 1 := (by omega : @Ne Nat (L + 1 + 1 + 1) (L + 1 + 1))
  generalize hkt : (kl, W.listOf kvs.toArray kc) :: ktl = kt at *
  have N₇ : News h₀ L h₅ ((L + 1 + 1, o2) :: (L + 1 + 1 + 1, o1) :: (L + 1, o3') :: (D, W.listOf w₂.toArray 0) :: kt) := fun p hp => by
    rcases List.mem_cons.mp hp with rfl | hp
    · exact N₆ _ (by simp)
    rcases List.mem_cons.mp hp with rfl | hp
    · exact N₆ _ (by simp)
    rcases List.mem_cons.mp hp with rfl | hp
    · exact N₆ _ (by simp)
    rcases List.mem_cons.mp hp with rfl | hp
    · exact N₆ _ (by simp)
    · exact NK _ hp
  clear N₆ NK
  dsimp only
  refine storeX_C F₅ N₇ (c := L + 1 + 1) rfl (.head (fun p hp => by
    rcases List.mem_cons.mp hp with rfl | hp
    · exact n32
    rcases List.mem_cons.mp hp with rfl | hp
    · exact Ne.symm n21
    rcases List.mem_cons.mp hp with rfl | hp
    · exact n2
    · exact hdis p hp (L + 1 + 1, o2) (by simp))) d2' fun h₆ o2' F₆ N₈ d2 => ?_
  clear F₅ N₇
  iterate 8 walk1
  have hn5 : 5 ≤ ns'.length := by rw [hns', List.length_append]; show 5 ≤ _ + 5; omega
  have hns5 : ns'.length ≤ 13 := by rw [hns', List.length_append, List.length_take]; show _ + 5 ≤ 13; omega
  refine text_comp KX T F₆ N₈ (by simp) d3 (nl := D) (nn := 0) (by simp) hI₂ (by omega) fun E h₇ tk₇ ys₇ F₇ N₉ neE hys₇ => ?_
  clear F₆ N₈
  walk1
  obtain ⟨lD, eD1, eD2⟩ := strs_vals hys₇
  subst eD1
  refine SC.join (l := lD) ⟨_, (N₉ _ (List.mem_cons_self ..)).1, rfl, _, rfl⟩ eD2 (joinOk_of 1 (fun y hy => ?_) ?_) (fun tJ kJ => ?_)
  · obtain ⟨k, _, rfl⟩ := List.mem_map.mp hy; exact Nat.le_refl _
  · rw [List.length_map, List.length_range]; show _ + _ * 0 ≤ _; omega
  have hjoin : (Txt.join (Str.ofString "") (List.map (fun i => (⟨#[signOf (ns'.getD i 0 + (i : Int))]⟩ : Str)) (List.range ns'.length))).cps.toList = (List.range ns'.length).map fun i => signOf (ns'.getD i 0 + (i : Int)) := by
    rw [join_none, List.map_map]
    exact flat_single _ _
  generalize Txt.join (Str.ofString "") (List.map (fun i => (⟨#[signOf (ns'.getD i 0 + (i : Int))]⟩ : Str)) (List.range ns'.length)) = xT at hjoin ⊢
  have NA : News h₀ L h₇ ((L + 1 + 1, o2') :: (L + 1 + 1 + 1, o1) :: (L + 1, o3') :: (D, W.listOf w₂.toArray 0) :: kt) := fun p hp => N₉ p (List.mem_cons_of_mem _ hp)
  clear N₉ neE hys₇ eD2 lD
  dsimp only
  refine storeX_L F₇ NA fun h₈ F₈ N₈ => ?_
  clear F₇ NA
  refine wpAny_execs_cons ?_
  refine codes_assign KX T F₈ N₈ (by simp) d3 (nl := D) (nn := 0) (by simp) hI₂ (by omega) ?_ fun C h₉ tk₉ cvs ctl F₉ N₉ neC hcl hcin => ?_
  · exact hn5
  dsimp only
  refine wpAny_execs_cons ?_
  refine rows_assign (codes := (ns'.take 5).map codeOf) KX T F₉ N₉ rfl (List.mem_cons_self ..) ?_ ?_ ?_ fun R hA tkA rvs rtl FA NA neR hrl hrin => ?_
  · rw [hcl, List.length_map, List.length_take]; omega
  · rw [List.length_map, List.length_take]; exact Nat.min_le_left ..
  · exact codes_in (fun p hp => List.mem_cons_of_mem _ (List.mem_append_left _ hp)) hcin
  dsimp only
  clear F₉ N₈ F₈
  have gN : ∀ p ∈ (R, lst rvs) :: (rtl ++ (C, lst cvs) :: (ctl ++ (L + 1 + 1, o2') :: (L + 1 + 1 + 1, o1) :: (L + 1, o3') :: (D, W.listOf w₂.toArray 0) :: kt)), hA.get? p.1 = some p.2 := fun p hp => (NA p hp).1
  have g3 : hA.get? (L + 1 + 1 + 1) = some o1 := gN (L + 1 + 1 + 1, o1) (by simp)
  have gR : ∀ p ∈ rtl, hA.get? p.1 = some p.2 := fun p hp => gN p (List.mem_cons_of_mem _ (List.mem_append_left _ hp))
  have gC : ∀ p ∈ ctl, hA.get? p.1 = some p.2 := fun p hp => gN p (List.mem_cons_of_mem _ (List.mem_append_right _ (List.mem_cons_of_mem _ (List.mem_append_left _ hp))))
  obtain ⟨rest, hrest⟩ : ∃ rest, rest = (R, lst rvs) :: (off (L + 1 + 1 + 1) rtl ++ (C, lst cvs) :: (off (L + 1 + 1 + 1) ctl ++ (L + 1 + 1, o2') :: (L + 1, o3') :: (D, W.listOf w₂.toArray 0) :: kt)) := ⟨_, rfl⟩
  have NB : News h₀ L hA ((L + 1 + 1 + 1, o1) :: rest) := fun p hp => NA p (by
    rw [hrest] at hp
    simp only [List.mem_cons, List.mem_append] at hp
    rcases hp with rfl | rfl | hp | rfl | hp | rfl | rfl | rfl | hp
    · simp
    · simp
    · have := off_sub p hp; simp [this]
    · simp
    · have := off_sub p hp; simp [this]
    · simp
    · simp
    · simp
    · simp [hp])
  have m2 : (L + 1 + 1, o2') ∈ rest := by rw [hrest]; simp
  have mC : (C, lst cvs) ∈ rest := by rw [hrest]; simp
  have mR : (R, lst rvs) ∈ rest := by rw [hrest]; simp
  have mK : ∀ p ∈ kt, p ∈ rest := fun p hp => by rw [hrest]; simp [hp]
  have mk : (kl, W.listOf kvs.toArray kc) ∈ rest := mK _ (by rw [← hkt]; exact List.mem_cons_self ..)
  have hkin' := fun k v q a b => KeyIn.up (tl' := rest) (fun p hp => mK p (by rw [← hkt]; exact List.mem_cons_of_mem _ hp)) (hkin k v q a b)
  have hcin' := codes_in (ns := ns') (cvs := cvs) (tl := off (L + 1 + 1 + 1) ctl) (tl' := rest) (fun p hp => by rw [hrest]; simp [hp]) fun i y x a b => (hcin i y x a b).off gC g3 d1'
  have hrin' : ∀ (i : Nat) y code, rvs[i]? = some y → (List.map codeOf (List.take 5 ns'))[i]? = some code → RowIn rest y (rowOf code) := fun i y c a b => RowIn.up (fun p hp => by rw [hrest]; simp [hp]) ((hrin i y c a b).off gR g3 d1')
  have ne3 : ∀ p ∈ rest, p.1 ≠ L + 1 + 1 + 1 := fun p hp => by
    rw [hrest] at hp
    simp only [List.mem_cons, List.mem_append] at hp
    rcases hp with rfl | hp | rfl | hp | rfl | rfl | rfl | hp
    · exact Ne.symm (neR (L + 1 + 1 + 1, o1) (by simp))
    · exact off_ne p hp
    · exact Ne.symm (neC (L + 1 + 1 + 1, o1) (by simp))
    · exact off_ne p hp
    · exact Ne.symm n32
    · exact Ne.symm n31
    · exact n3
    · exact hdis p hp (L + 1 + 1 + 1, o1) (by simp)
  have FB := frPins [(Str.ofString "text", .str xT tJ), (Str.ofString "codes", .ref C), (Str.ofString "rows", .ref R)] FA (by
    intro p hp
    rcases List.mem_cons.mp hp with rfl | hp
    · rfl
    rcases List.mem_cons.mp hp with rfl | hp
    · rfl
    rw [List.mem_singleton.mp hp]; rfl)
  clear FA NA gN gR gC neR neC hrin hcin hkin hdis g3 hrest hkt hkl mK
  clear n1 n2 n3 n31 n21 n32 hlt hI₂ d3
  refine wpAny_execs_cons ?_
  refine wpAny_For ?_
  iterate 8 walk1
  have ltT : ∀ p ∈ (L + 1 + 1 + 1, o1) :: rest, p.1 ≠ hA.objs.size := fun p hp => Nat.ne_of_lt (Heap.lt_size (NB p hp).1)
  refine newTuple_N FB NB (fun gT FT NT => ?_) (by rw [sizeLine_eq]; show 2 ≤ _; omega)
  dsimp only at NT ⊢
  generalize hA.objs.size = Tp at NT ltT ⊢
  generalize hob : ({ cls := .type "tuple", data := .seq (List.toArray [Value.int 1 tkA, Value.int (-1) (tkA + 1 + 1)]) } : Obj) = ob at NT
  clear FB NB
  have NT' : News h₀ L gT ((L + 1 + 1 + 1, o1) :: (Tp, ob) :: rest) := fun p hp => NT p (by
    rcases List.mem_cons.mp hp with rfl | hp
    · exact List.mem_cons_of_mem _ (List.mem_cons_self ..)
    rcases List.mem_cons.mp hp with rfl | hp
    · exact List.mem_cons_self ..
    · exact List.mem_cons_of_mem _ (List.mem_cons_of_mem _ hp))
  have neT3 : Tp ≠ L + 1 + 1 + 1 := Ne.symm (ltT (L + 1 + 1 + 1, o1) (List.mem_cons_self ..))
  have hTp : gT.IsTuple Tp #[Value.int 1 tkA, Value.int (-1) (tkA + 1 + 1)] := ⟨ob, (NT _ (List.mem_cons_self ..)).1, by rw [← hob], 0, by rw [← hob]⟩
  clear NT
  refine' for_tuple (h₀ := h₀) (items := #[Value.int 1 tkA, Value.int (-1) (tkA + 1 + 1)]) rfl hTp FT NT' (fun i m nx => ∃ (ow : Obj) (vW : Option Value), nx = (L + 1 + 1 + 1, ow) :: (Tp, ob) :: rest ∧ ow.data = .cell vW ∧ m (Str.ofString "text") = some (.str xT tJ) ∧ m (Str.ofString "codes") = some (.ref C) ∧ m (Str.ofString "rows") = some (.ref R)) ?hJ ?hs (fun _ _ => rfl) ?ht ?hd
  case hJ => exact ⟨o1, _, rfl, d1', rfl, rfl, rfl⟩
  case hs => refine .inr ⟨ob, ?_⟩; rintro i m nx ⟨_, _, rfl, _⟩; exact List.mem_cons_of_mem _ (List.mem_cons_self ..)
  case ht =>
    rintro i v m₁ nx g tk I oI hv ⟨ow, vW, rfl, dW, e1, e2, e3⟩ F₂ N₂ hn₂
    obtain ⟨way, tw, rfl, hwy⟩ : ∃ way tw, v = .int way tw ∧ (way = 1 ∨ way = -1) := by
      match i, hv with
      | 0, hv => cases hv; exact ⟨1, _, rfl, .inl rfl⟩
      | 1, hv => cases hv; exact ⟨-1, _, rfl, .inr rfl⟩
      | n + 2, hv => simp at hv
    have neI : ∀ p ∈ (L + 1 + 1 + 1, ow) :: (Tp, ob) :: rest, p.1 ≠ I := hn₂
    have nI3 : I ≠ L + 1 + 1 + 1 := Ne.symm (neI (L + 1 + 1 + 1, ow) (List.mem_cons_self ..))
    refine wpAny_assign_Name ?_
    have F₃ := frPins [(Str.ofString "text", .str xT tJ), (Str.ofString "codes", .ref C), (Str.ofString "rows", .ref R)] F₂ (by simp [e1, e2, e3])
    refine storeX_C F₃ N₂ (c := L + 1 + 1 + 1) rfl (.tail nI3 (.head (fun p hp => by
      rcases List.mem_cons.mp hp with rfl | hp
      · exact neT3
      · exact ne3 p hp))) dW fun h₃ ow' F₄ N₄ dW' => ?_
    have N₄' : News h₀ L h₃ ((I, oI) :: (L + 1 + 1 + 1, ow') :: (Tp, ob) :: rest) := N₄
    clear F₂ F₃ N₂ N₄ FT NT'
    have up : ∀ p ∈ rest, p ∈ (I, oI) :: (L + 1 + 1 + 1, ow') :: (Tp, ob) :: rest := fun p h => List.mem_cons_of_mem _ (List.mem_cons_of_mem _ (List.mem_cons_of_mem _ h))
    have hfm0 := Int.fmod_nonneg_of_pos ns'.sum (b := 4) (by decide)
    have hfm1 := Int.fmod_lt_of_pos ns'.sum (b := 4) (by decide)
    have hks3 : (keysFrom (ns'.sum.fmod 4).toNat (ns'.sum.fdiv 4)).length ≤ 3 := by rw [keysFrom_len]; omega
    have hc5 : ((ns'.take 5).map codeOf).length = 5 := by rw [List.length_map, List.length_take]; omega
    refine wpAny_execs_cons ?_
    refine marks_assign (ks := keysFrom (ns'.sum.fmod 4).toNat (ns'.sum.fdiv 4)) (codes := (ns'.take 5).map codeOf) (kl := kl) F₄ N₄' rfl (up _ mC) (up _ m2) d2 (by simp) dW' (up _ mk) hkn hks3 (fun k v q a b => KeyIn.up up (hkin' k v q a b)) (by rw [hcl, hc5]) (by rw [hc5]; exact Nat.le_refl _) (fun i v c a b => ⟨MarkIn.up up (hcin' i v c a b).1, (hcin' i v c a b).2.1⟩) hwy fun M h₅ tk₅ mvs mtl F₅ N₅ neM hml hmin => ?_
    clear F₄ N₄'
    dsimp only
    refine wpAny_execs_cons ?_
    iterate 18 walk1
    have up5 : ∀ p ∈ rest, p ∈ (M, lst mvs) :: (mtl ++ (I, oI) :: (L + 1 + 1 + 1, ow') :: (Tp, ob) :: rest) := fun p h => List.mem_cons_of_mem _ (List.mem_append_right _ (up p h))
    refine nameX_C N₅ rfl (up5 _ m2) d2 ?_
    walk1
    have B := hidB.2
    walk1
    walk1
    iterate 5 walk1
    walk1
    walk1
    k_unfold
    try dsimp only
    walk1
    clear B hidB
    rename_i x dx z2 z3 z4 z5 z6 z7 z8 z9 z10 z11 z12 z13 h₆' z15 z16 F₆ N₆ z19 z20
    dsimp only at F₆ N₆
    clear z20 z19 z16 z15 z13 z12 z11 z10 z9 z6 z5 z4 z3 z2 lifted qk ek z7 z8
    have hxC : CompAt h₆' x kl := ⟨dx, _, _, (N₆ _ (List.mem_cons_self ..)).1, (N₆ _ (List.mem_cons_of_mem _ (List.mem_cons_self ..))).1, rfl, rfl⟩
    have N₇ : News h₀ L h₆' ((M, lst mvs) :: (mtl ++ (I, oI) :: (L + 1 + 1 + 1, ow') :: (Tp, ob) :: rest)) := fun p hp => N₆ p (List.mem_cons_of_mem _ (List.mem_cons_of_mem _ hp))
    clear N₆
    have gr : ∀ p ∈ rest, h₆'.get? p.1 = some p.2 := fun p hp => (N₇ p (up5 p hp)).1
    walk1
    refine nameX_C N₇ rfl (List.mem_cons_of_mem _ (List.mem_append_right _ (List.mem_cons_of_mem _ (List.mem_cons_self ..)))) dW' ?_
    walk1
    have hkA : KeysAt h₆' kl (keysFrom (ns'.sum.fmod 4).toNat (ns'.sum.fdiv 4)) := keysAt_of (gr _ mk) gr hkn hkin'
    have hrA : RowsAt h₆' R (((ns'.take 5).map codeOf).map rowOf) := ⟨rvs, ⟨_, gr _ mR, rfl, _, rfl⟩, by rw [hrl]; simp, fun i v r hv hr => by
      rw [List.getElem?_map] at hr
      cases hc : ((ns'.take 5).map codeOf)[i]? with
      | none => rw [hc] at hr; cases hr
      | some c => rw [hc] at hr; cases hr; exact (hrin' i v c hv hc).at' gr⟩
    refine ⟨KX.keeps F₆.keep, wpAny_call (wrong_spec (KX.keeps F₆.keep) (T.keeps F₆.keep) hxC hkA hrA (by rw [List.length_map, hc5]) ?_)⟩
    intro h₇ tk₇ wl wvs wn K₇ hw0 hw1 hwS
    have F₇ := frKeeps K₇ F₆
    have N₈ := newsKeeps K₇ N₇
    clear F₆ N₇ hxC hkA hrA gr
    dsimp only
    walk1
    have hW : ∀ p ∈ wrongAll (keysFrom (ns'.sum.fmod 4).toNat (ns'.sum.fdiv 4)) (((ns'.take 5).map codeOf).map rowOf) way 5, p.1 < 256 ∧ p.2 < 256 := fun p hp => by
      obtain ⟨i, j, hi, hj, rfl, _⟩ := (wrong_mem _ _ _ p).mp hp
      exact ⟨by show 97 + i < 256; omega, by show 97 + j < 256; omega⟩
    have hxl : xT.length = ns'.length := by
      have h1 := congrArg List.length hjoin
      rw [List.length_map, List.length_range] at h1
      rw [← h1]; simp [Str.length]
    refine ⟨KX.keeps F₇.keep, wpAny_call (settled_spec (KX.keeps F₇.keep) (T.keeps F₇.keep) ⟨_, hw1, rfl, _, rfl⟩ hwS hW (wrong_len _ _ _) (by omega) ?_)⟩
    intro h₈ tk₈ sr xS ts1 ts2 sn K₈ hs0 hs1 hsx
    have F₈ := frKeeps K₈ F₇
    have N₉ := newsKeeps K₈ N₈
    clear F₇ N₈ hW hw0 hw1 hwS K₇
    dsimp only
    obtain ⟨ms, hmsd⟩ : ∃ ms, ms = ((ns'.take 5).map codeOf).map (marksOf (keysFrom (ns'.sum.fmod 4).toNat (ns'.sum.fdiv 4)) way) := ⟨_, rfl⟩
    have hcode : ∀ c ∈ (ns'.take 5).map codeOf, 0 ≤ c.getD 1 0 ∧ c.getD 1 0 < 4 := fun c hc => by
      obtain ⟨y, _, rfl⟩ := List.mem_map.mp hc
      exact (codeOf_ok y).2
    have htx : ∀ c ∈ xT.cps.toList, c = 46 ∨ (97 ≤ c ∧ c < 102) := fun c hc => by
      rw [hjoin] at hc
      obtain ⟨k, _, rfl⟩ := List.mem_map.mp hc
      exact signOf_ok _
    have hset := law_plain (keysFrom (ns'.sum.fmod 4).toNat (ns'.sum.fdiv 4)) (keysFrom_ok _ _) way hwy _ hc5 hcode xT.cps.toList htx
    rw [show xT.cps.toList.length = xT.length by simp [Str.length], ← hmsd] at hset
    rw [hset] at hs1 hsx
    dsimp only at hs1 hsx
    clear hset hcode
    have hms5 : ms.length = 5 := by rw [hmsd, List.length_map, hc5]
    have hmsk : ∀ d ∈ ms, d.length = (keysFrom (ns'.sum.fmod 4).toNat (ns'.sum.fdiv 4)).length := fun d hd => by
      rw [hmsd] at hd
      obtain ⟨c, _, rfl⟩ := List.mem_map.mp hd
      unfold marksOf; rw [List.length_map]
    have gm : ∀ p ∈ mtl, h₈.get? p.1 = some p.2 := fun p hp => (N₉ p (List.mem_cons_of_mem _ (List.mem_append_left _ hp))).1
    have hmk : ∀ (i : Nat) v d, mvs[i]? = some v → ms[i]? = some d → MarkAt h₈ v d := fun i v d hv hd => by
      rw [hmsd, List.getElem?_map] at hd
      cases hc : ((ns'.take 5).map codeOf)[i]? with
      | none => rw [hc] at hd; cases hd
      | some c => rw [hc] at hd; cases hd; exact (hmin i v c hv hc).at' gm
    iterate 8 walk1
    refine ⟨KX.keeps F₈.keep, wpAny_call (due_spec2 (KX.keeps F₈.keep) (T.keeps F₈.keep) (by omega) htx ⟨_, (N₉ _ (List.mem_cons_self ..)).1, rfl, _, rfl⟩ (by rw [hml, hc5]) hms5 hmk hmsk hks3 ?_)⟩
    intro h₉' tk₉' dr xD td1 td2 dn K₉ hd0 hd1 hdx
    have F₉' := frKeeps K₉ F₈
    have NA' := newsKeeps K₉ N₉
    have hs1' := K₉ _ _ hs1
    have hxx : xD = xS := Str.ext' (Array.toList_inj.mp (hdx.trans hsx.symm))
    subst hxx
    have hok : PyData.strOk xD = true := strOk_of fun c hc => by
      rw [hdx] at hc
      rcases htx c (dsort_mem hc) with rfl | h
      · decide
      · omega
    clear F₈ N₉ gm hmk hmsk hms5 hs1 K₈ K₉ hdx hsx
    dsimp only
    refine ne_two hs1' hd1 hok (Nat.le_of_ble_eq_true rfl) ?_
    iterate 3 walk1
    refine wpAny_execs_nil ?_
    refine ⟨_, _, _, (L + 1 + 1 + 1, ow') :: (Tp, ob) :: rest, rfl, F₉', fun p hp => NA' p (List.mem_cons_of_mem _ (List.mem_append_right _ hp)), fun p hp => ?_, ow', _, rfl, dW', rfl, rfl, rfl⟩
    rcases List.mem_cons.mp hp with rfl | hp
    · exact Ne.symm nI3
    · exact neI p (List.mem_cons_of_mem _ hp)
  case hd =>
    rintro m₁ nx g tk ⟨ow, vW, rfl, dW, e1, e2, e3⟩ F₂ N₂
    clear FT NT'
    dsimp only
    iterate 3 walk1
    exact ⟨rfl, _, _, _, rfl, F₂⟩)
end Mine
theorem PySem.Challenge.cw_mq0052_01_holds : PySem.Challenge.rw_mq0052_01.Holds := by
  exact Mine.t
