import PyProof.Rows.All
import Wide.All
import OpenK.AllK
import Wide.FinOn
import PySem.Challenge.RW_st0002_01
set_option Elab.async false
set_option linter.unusedVariables false
set_option maxRecDepth 10000

-- part P1
section
namespace Mine
/-- the greatest k ≤ n of which p, or 0 -/
def topOf (p : Nat → Bool) : Nat → Nat
  | 0 => 0
  | n + 1 => if p (n + 1) then n + 1 else topOf p n
theorem topOf_le (p : Nat → Bool) : ∀ n, topOf p n ≤ n
  | 0 => Nat.le_refl _
  | n + 1 => by
    unfold topOf
    split
    · exact Nat.le_refl _
    · exact Nat.le_succ_of_le (topOf_le p n)
theorem topOf_is (p : Nat → Bool) (h0 : p 0 = true) : ∀ n, p (topOf p n) = true
  | 0 => h0
  | n + 1 => by
    unfold topOf
    split
    · assumption
    · exact topOf_is p h0 n
theorem topOf_max (p : Nat → Bool) : ∀ n k, k ≤ n → p k = true → k ≤ topOf p n
  | 0, k, hk, _ => hk
  | n + 1, k, hk, hp => by
    unfold topOf
    split
    · exact hk
    · rename_i hn
      rcases Nat.lt_or_ge n k with h | h
      · have : k = n + 1 := by omega
        rw [this] at hp; exact absurd hp hn
      · exact topOf_max p n k h hp
theorem topOf_eq (p : Nat → Bool) {n k : Nat} (hk : k ≤ n) (hp : p k = true ∨ k = 0) (hm : ∀ j, j ≤ n → k < j → p j = false) : topOf p n = k := by
  induction n with
  | zero => unfold topOf; omega
  | succ n ih =>
    unfold topOf
    split
    · rename_i h
      rcases Nat.lt_or_ge k (n + 1) with hlt | hge
      · rw [hm (n + 1) (Nat.le_refl _) hlt] at h; cases h
      · omega
    · rename_i h
      rcases Nat.lt_or_ge k (n + 1) with hlt | hge
      · exact ih (by omega) fun j hj hkj => hm j (by omega) hkj
      · have : k = n + 1 := by omega
        subst this
        rcases hp with hp | hp
        · exact absurd hp h
        · omega

/-- the first k letters of f's first n are the last k -/
def isB (f : Nat → Int) (n k : Nat) : Prop := k < n ∧ ∀ j, j < k → f j = f (n - k + j)
def isBb (f : Nat → Int) (n k : Nat) : Bool := decide (k < n) && (List.range k).all fun j => f j == f (n - k + j)
theorem isBb_iff {f : Nat → Int} {n k : Nat} : isBb f n k = true ↔ isB f n k := by
  unfold isBb isB
  simp
/-- the longest border of f's first n, short of the whole -/
def bord (f : Nat → Int) (n : Nat) : Nat := topOf (isBb f n) (n - 1)
theorem isB_zero {f : Nat → Int} {n : Nat} (h : 0 < n) : isB f n 0 := ⟨h, fun j hj => by omega⟩
theorem bord_lt {f : Nat → Int} {n : Nat} (h : 0 < n) : bord f n < n := by
  have := topOf_le (isBb f n) (n - 1)
  unfold bord; omega
theorem bord_is {f : Nat → Int} {n : Nat} (h : 0 < n) : isB f n (bord f n) := isBb_iff.mp (topOf_is _ (isBb_iff.mpr (isB_zero h)) _)
theorem bord_max {f : Nat → Int} {n k : Nat} (h : isB f n k) : k ≤ bord f n := topOf_max _ _ _ (by have := h.1; omega) (isBb_iff.mpr h)
theorem bord_eq {f : Nat → Int} {n k : Nat} (h : isB f n k) (hm : ∀ j, k < j → isB f n j → False) : bord f n = k := by
  have h1 := bord_max h
  have h2 := bord_is (f := f) (n := n) (by have := h.1; omega)
  rcases Nat.lt_or_ge k (bord f n) with hlt | hge
  · exact (hm _ hlt h2).elim
  · omega

theorem isB_succ {f : Nat → Int} {i k : Nat} : isB f (i + 1) (k + 1) ↔ isB f i k ∧ f k = f i := by
  constructor
  · rintro ⟨h1, h2⟩
    refine ⟨⟨by omega, fun j hj => ?_⟩, ?_⟩
    · have := h2 j (by omega)
      rw [this]; congr 1; omega
    · have := h2 k (by omega)
      rw [this]; congr 1; omega
  · rintro ⟨⟨h1, h2⟩, h3⟩
    refine ⟨by omega, fun j hj => ?_⟩
    rcases Nat.lt_or_ge j k with h | h
    · rw [h2 j h]; congr 1; omega
    · have : j = k := by omega
      subst this
      rw [h3]; congr 1; omega
/-- the borders of a border -/
theorem isB_inner {f : Nat → Int} {i m k : Nat} (hm : isB f i m) (hk : isB f i k) (h : k < m) : isB f m k := by
  refine ⟨h, fun j hj => ?_⟩
  have h1 := hk.2 j hj
  have h2 := hm.2 (m - k + j) (by omega)
  rw [h1, h2]; congr 1
  have := hm.1; have := hk.1; omega
theorem isB_outer {f : Nat → Int} {i m k : Nat} (hm : isB f i m) (hk : isB f m k) : isB f i k := by
  refine ⟨by have := hm.1; have := hk.1; omega, fun j hj => ?_⟩
  have h1 := hk.2 j hj
  have h2 := hm.2 (m - k + j) (by have := hk.1; omega)
  rw [h1, h2]; congr 1
  have := hm.1; have := hk.1; omega
/-- from a border that won't do to the next one -/
theorem bord_next {f : Nat → Int} {i m : Nat} (hm : isB f i m) (h0 : 0 < m) (hno : ∀ k, isB f i k → m ≤ k → f k ≠ f i) : isB f i (bord f m) ∧ bord f m < m ∧ ∀ k, isB f i k → bord f m < k → f k ≠ f i := by
  have hb := bord_is (f := f) h0
  refine ⟨isB_outer hm hb, hb.1, fun k hk hlt => ?_⟩
  rcases Nat.lt_or_ge k m with h | h
  · exact absurd (bord_max (isB_inner hm hk h)) (by omega)
  · exact hno k hk h
theorem bord_step {f : Nat → Int} {i m : Nat} (hm : isB f i m) (he : f m = f i) (hno : ∀ k, isB f i k → m < k → f k ≠ f i) : bord f (i + 1) = m + 1 := by
  refine bord_eq (isB_succ.mpr ⟨hm, he⟩) fun j hj hb => ?_
  cases j with
  | zero => omega
  | succ j =>
    obtain ⟨h1, h2⟩ := isB_succ.mp hb
    exact hno j h1 (by omega) h2
theorem bord_none {f : Nat → Int} {i : Nat} (hi : 0 < i) (hno : ∀ k, isB f i k → f k ≠ f i) : bord f (i + 1) = 0 := by
  refine bord_eq (isB_zero (by omega)) fun j hj hb => ?_
  cases j with
  | zero => omega
  | succ j =>
    obtain ⟨h1, h2⟩ := isB_succ.mp hb
    exact hno j h1 h2
theorem bord_one (f : Nat → Int) : bord f 1 = 0 := rfl
end Mine
end

-- part P2
section
namespace Mine
/-- a number's word: letters A to P -/
def word (n : Nat) : List Int := if h : n = 0 then [] else word (n / 16) ++ [65 + ((n % 16 : Nat) : Int)]
termination_by n
decreasing_by omega
theorem word_zero : word 0 = [] := by rw [word]; simp
theorem word_pos {n : Nat} (h : 0 < n) : word n = word (n / 16) ++ [65 + ((n % 16 : Nat) : Int)] := by
  rw [word, dif_neg (by omega)]
theorem word_len : ∀ (k n : Nat), n < 16 ^ k → (word n).length ≤ k
  | 0, n, h => by
    have : n = 0 := by simp at h; exact h
    subst this; rw [word_zero]; exact Nat.le_refl _
  | k + 1, n, h => by
    rcases Nat.eq_zero_or_pos n with h0 | h0
    · subst h0; rw [word_zero]; exact Nat.zero_le _
    · rw [word_pos h0, List.length_append]
      have := word_len k (n / 16) (by rw [Nat.pow_succ] at h; omega)
      simp only [List.length_cons, List.length_nil]; omega
theorem word_range {n : Nat} : ∀ c ∈ word n, 65 ≤ c ∧ c < 81 := by
  induction n using Nat.strongRecOn with
  | ind n ih =>
    intro c hc
    rcases Nat.eq_zero_or_pos n with h0 | h0
    · subst h0; rw [word_zero] at hc; cases hc
    · rw [word_pos h0] at hc
      rcases List.mem_append.mp hc with hc | hc
      · exact ih (n / 16) (by omega) c hc
      · rw [List.mem_singleton.mp hc]; omega
end Mine
end

-- part P3
section
namespace Mine
/-- how much of a word is kept -/
def keptOf (w : List Int) : Nat → Nat
  | 0 => 0
  | k + 1 => if w.getD k 0 = 80 then keptOf w k else k + 1
def nextW (w : List Int) : List Int :=
  if keptOf w w.length = 0 then [66] ++ List.replicate w.length 65
  else w.take (keptOf w w.length - 1) ++ [w.getD (keptOf w w.length - 1) 0 + 1] ++ List.replicate (w.length - keptOf w w.length) 65
theorem keptOf_le (w : List Int) : ∀ k, keptOf w k ≤ k
  | 0 => Nat.le_refl _
  | k + 1 => by
    unfold keptOf
    split
    · exact Nat.le_succ_of_le (keptOf_le w k)
    · exact Nat.le_refl _
/-- leading noughts -/
def lead : List Int → Nat
  | [] => 0
  | x :: r => if x = 0 then lead r + 1 else 0
/-- the noughts at the end -/
def noughts (fs : List Int) : Nat := lead fs.reverse
theorem lead_eq : ∀ (l : List Int) (c : Nat), c ≤ l.length → (∀ j, j < c → l[j]? = some 0) → (c = l.length ∨ l[c]? ≠ some 0) → lead l = c
  | [], c, h, _, _ => by
    have : c = 0 := by simpa using h
    subst this; rfl
  | x :: r, 0, _, _, h => by
    rcases h with h | h
    · simp at h
    · simp at h
      unfold lead; rw [if_neg h]
  | x :: r, c + 1, hl, ha, hb => by
    have h0 := ha 0 (by omega)
    simp at h0
    unfold lead
    rw [if_pos h0, lead_eq r c (by simpa using hl) (fun j hj => by simpa using ha (j + 1) (by omega)) (by simpa using hb)]
theorem noughts_eq (fs : List Int) (c : Nat) (hc : c ≤ fs.length) (ha : ∀ j, j < c → fs.getD (fs.length - 1 - j) 0 = 0) (hb : c = fs.length ∨ fs.getD (fs.length - 1 - c) 0 ≠ 0) : noughts fs = c := by
  have hg : ∀ j, j < fs.length → fs.reverse[j]? = some (fs.getD (fs.length - 1 - j) 0) := fun j hj => by
    rw [List.getElem?_reverse hj, List.getD_eq_getElem?_getD, List.getElem?_eq_getElem (by omega)]
    rfl
  refine lead_eq _ c (by simpa using hc) (fun j hj => ?_) ?_
  · rw [hg j (by omega), ha j hj]
  · rcases hb with hb | hb
    · exact .inl (by simpa using hb)
    · rcases Nat.lt_or_ge c fs.length with h | h
      · right
        rw [hg c h]
        simpa using hb
      · left; simp; omega
/-- the first place that doesn't keep step -/
def farBad (zs : List Int) (own base divisor : Int) (p : Nat) : Bool := decide (zs.getD p 0 > own) && decide ((base - 1) * (zs.getD p 0 - own) % divisor ≠ 0)
def farFrom (zs : List Int) (own base divisor : Int) : Nat → Nat → Nat
  | p, 0 => p
  | p, k + 1 => if farBad zs own base divisor p then p else farFrom zs own base divisor (p + 1) k
def farOf (zs : List Int) (own base divisor : Int) : Nat := farFrom zs own base divisor 1 (zs.length - 1)
theorem farFrom_skip (zs : List Int) (own base divisor : Int) : ∀ (i k p : Nat), (∀ q, p ≤ q → q < p + i → farBad zs own base divisor q = false) → farFrom zs own base divisor p (i + k) = farFrom zs own base divisor (p + i) k
  | 0, k, p, _ => by simp
  | i + 1, k, p, h => by
    have e : i + 1 + k = (i + k) + 1 := by omega
    rw [e, farFrom, h p (Nat.le_refl _) (by omega)]
    simp only [Bool.false_eq_true, if_false]
    rw [farFrom_skip zs own base divisor i k (p + 1) fun q h1 h2 => h q (by omega) (by omega)]
    congr 1; omega

theorem list_border (hs : List Int) (size step : Nat) (h1 : step ≤ size) (h0 : 1 ≤ step) (h2 : size ≤ hs.length) : (hs.drop step).take (size - step) = hs.take (size - step) ↔ isB (fun i => hs.getD i 0) size (size - step) := by
  have g : ∀ i, i < hs.length → hs[i]? = some (hs.getD i 0) := fun i hi => by
    rw [List.getD_eq_getElem?_getD, List.getElem?_eq_getElem hi]; rfl
  constructor
  · intro e
    refine ⟨by omega, fun j hj => ?_⟩
    have := congrArg (·[j]?) e
    simp only [List.getElem?_take, hj, if_true, List.getElem?_drop] at this
    rw [g _ (by omega), g _ (by omega)] at this
    have := Option.some.inj this
    show hs.getD j 0 = hs.getD (size - (size - step) + j) 0
    rw [← this]; congr 1; omega
  · rintro ⟨_, h⟩
    refine List.ext_getElem? fun j => ?_
    simp only [List.getElem?_take, List.getElem?_drop]
    by_cases hj : j < size - step
    · simp only [hj, if_true]
      rw [g _ (by omega), g _ (by omega)]
      have := h j hj
      simp only at this
      rw [this]; congr 2; omega
    · simp [hj]
end Mine
end

-- part B1
section
namespace Mine
open PySem PySem.Calls PyProof.Rows

inductive PV where
  | none
  | int (i : Int)
  | bool (b : Bool)
  | bytes (ks : List Int)
  | list (ps : List PV)

abbrev Grow (h h' : Heap) : Prop := ∀ b o, h.get? b = some o → h'.get? b = some o
theorem Grow.refl (h : Heap) : Grow h h := fun _ _ e => e
theorem Grow.trans {a b c : Heap} (x : Grow a b) (y : Grow b c) : Grow a c := fun _ _ e => y _ _ (x _ _ e)
theorem Grow.push (h : Heap) (o : Obj) : Grow h (h.push o) := fun _ _ e => Heap.get?_push_of_some _ e

mutual
def Rep (X : Addr → Prop) (h : Heap) : PV → Value → Prop
  | .none, v => v = .none
  | .int i, v => ∃ t, v = .int i t
  | .bool b, v => v = .bool b
  | .bytes ks, v => ∃ b t, v = .bytes b t ∧ PySem.W.KBw.bInts b = ks
  | .list ps, v => ∃ a vs, v = .ref a ∧ ¬ X a ∧ h.IsList a vs.toArray ∧ RepL X h ps vs
def RepL (X : Addr → Prop) (h : Heap) : List PV → List Value → Prop
  | [], vs => vs = []
  | p :: ps, vs => ∃ v us, vs = v :: us ∧ Rep X h p v ∧ RepL X h ps us
end

mutual
theorem Rep.mono {X Y : Addr → Prop} {h h' : Heap} (hk : ∀ b o, ¬ X b → h.get? b = some o → (∃ xs n, o.data = .seq xs n) → h'.get? b = some o) (hX : ∀ b o, h.get? b = some o → Y b → X b) :
    ∀ {p : PV} {v : Value}, Rep X h p v → Rep Y h' p v
  | .none, _, r => by simpa only [Rep] using r
  | .int _, _, r => by simpa only [Rep] using r
  | .bool _, _, r => by simpa only [Rep] using r
  | .bytes _, _, r => by simpa only [Rep] using r
  | .list ps, v, r => by
    simp only [Rep] at r ⊢
    obtain ⟨a, vs, rfl, hx, hl, hr⟩ := r
    obtain ⟨o, ho, hc, n, hd⟩ := hl
    exact ⟨a, vs, rfl, fun y => hx (hX a o ho y), ⟨o, hk a o hx ho ⟨_, n, hd⟩, hc, n, hd⟩, RepL.mono hk hX hr⟩
theorem RepL.mono {X Y : Addr → Prop} {h h' : Heap} (hk : ∀ b o, ¬ X b → h.get? b = some o → (∃ xs n, o.data = .seq xs n) → h'.get? b = some o) (hX : ∀ b o, h.get? b = some o → Y b → X b) :
    ∀ {ps : List PV} {vs : List Value}, RepL X h ps vs → RepL Y h' ps vs
  | [], _, r => by simpa only [RepL] using r
  | p :: ps, vs, r => by
    simp only [RepL] at r ⊢
    obtain ⟨v, us, rfl, r1, r2⟩ := r
    exact ⟨v, us, rfl, Rep.mono hk hX r1, RepL.mono hk hX r2⟩
end

theorem Rep.keep {X : Addr → Prop} {h h' : Heap} (hk : Grow h h') {p : PV} {v : Value} (r : Rep X h p v) : Rep X h' p v := r.mono (fun b o _ e _ => hk b o e) fun _ _ _ y => y
theorem RepL.keep {X : Addr → Prop} {h h' : Heap} (hk : Grow h h') {p : List PV} {v : List Value} (r : RepL X h p v) : RepL X h' p v := r.mono (fun b o _ e _ => hk b o e) fun _ _ _ y => y

theorem RepL.length {X : Addr → Prop} {h : Heap} : ∀ {ps : List PV} {vs : List Value}, RepL X h ps vs → vs.length = ps.length
  | [], _, r => by simp only [RepL] at r; subst r; rfl
  | p :: ps, vs, r => by
    simp only [RepL] at r
    obtain ⟨v, us, rfl, _, r2⟩ := r
    simp [RepL.length r2]
theorem RepL.get {X : Addr → Prop} {h : Heap} : ∀ {ps : List PV} {vs : List Value} {i : Nat} {p : PV}, RepL X h ps vs → ps[i]? = some p → ∃ v, vs[i]? = some v ∧ Rep X h p v
  | [], _, _, _, _, e => by simp at e
  | q :: ps, vs, i, p, r, e => by
    simp only [RepL] at r
    obtain ⟨v, us, rfl, r1, r2⟩ := r
    cases i with
    | zero => simp at e; subst e; exact ⟨v, rfl, r1⟩
    | succ i => simpa using RepL.get r2 (by simpa using e)
theorem RepL.get' {X : Addr → Prop} {h : Heap} : ∀ {ps : List PV} {vs : List Value} {i : Nat} {v : Value}, RepL X h ps vs → vs[i]? = some v → ∃ p, ps[i]? = some p ∧ Rep X h p v
  | [], _, _, _, r, e => by simp only [RepL] at r; subst r; simp at e
  | q :: ps, vs, i, w, r, e => by
    simp only [RepL] at r
    obtain ⟨v, us, rfl, r1, r2⟩ := r
    cases i with
    | zero => simp at e; subst e; exact ⟨q, rfl, r1⟩
    | succ i => simpa using RepL.get' r2 (by simpa using e)
theorem RepL.append {X : Addr → Prop} {h : Heap} : ∀ {ps qs : List PV} {vs us : List Value}, RepL X h ps vs → RepL X h qs us → RepL X h (ps ++ qs) (vs ++ us)
  | [], _, _, _, r, r' => by simp only [RepL] at r; subst r; simpa using r'
  | p :: ps, qs, vs, us, r, r' => by
    simp only [RepL] at r
    obtain ⟨v, ws, rfl, r1, r2⟩ := r
    simp only [List.cons_append, RepL]
    exact ⟨v, _, rfl, r1, RepL.append r2 r'⟩
theorem RepL.snoc {X : Addr → Prop} {h : Heap} {ps : List PV} {vs : List Value} {p : PV} {v : Value} (r : RepL X h ps vs) (r' : Rep X h p v) : RepL X h (ps ++ [p]) (vs ++ [v]) :=
  r.append (by simp only [RepL]; exact ⟨v, [], rfl, r', rfl⟩)
theorem RepL.drop {X : Addr → Prop} {h : Heap} : ∀ {ps : List PV} {vs : List Value} (n : Nat), RepL X h ps vs → RepL X h (ps.drop n) (vs.drop n)
  | [], _, _, r => by simp only [RepL] at r; subst r; simp [RepL]
  | p :: ps, vs, n, r => by
    cases n with
    | zero => simpa using r
    | succ n =>
      simp only [RepL] at r
      obtain ⟨v, us, rfl, _, r2⟩ := r
      simpa using RepL.drop n r2
theorem RepL.take {X : Addr → Prop} {h : Heap} : ∀ {ps : List PV} {vs : List Value} (n : Nat), RepL X h ps vs → RepL X h (ps.take n) (vs.take n)
  | [], _, _, r => by simp only [RepL] at r; subst r; simp [RepL]
  | p :: ps, vs, n, r => by
    cases n with
    | zero => simp [RepL]
    | succ n =>
      simp only [RepL] at r
      obtain ⟨v, us, rfl, r1, r2⟩ := r
      simp only [List.take_succ_cons, RepL]
      exact ⟨v, _, rfl, r1, RepL.take n r2⟩
theorem RepL.set {X : Addr → Prop} {h : Heap} : ∀ {ps : List PV} {vs : List Value} (n : Nat) {p : PV} {v : Value}, RepL X h ps vs → Rep X h p v → RepL X h (ps.set n p) (vs.set n v)
  | [], _, _, _, _, r, _ => by simp only [RepL] at r; subst r; simp [RepL]
  | p :: ps, vs, n, q, u, r, r' => by
    simp only [RepL] at r
    obtain ⟨v, us, rfl, r1, r2⟩ := r
    cases n with
    | zero => simp only [List.set_cons_zero, RepL]; exact ⟨u, us, rfl, r', r2⟩
    | succ n => simp only [List.set_cons_succ, RepL]; exact ⟨v, _, rfl, r1, RepL.set n r2 r'⟩
/-- ints of a list -/
def pvI (ns : List Int) : PV := .list (ns.map .int)
theorem RepL.toInts {X : Addr → Prop} {h : Heap} : ∀ {ns : List Int} {vs : List Value}, RepL X h (ns.map .int) vs → IntsAre vs ns
  | [], _, r => by simp only [List.map_nil, RepL] at r; subst r; exact .nil
  | n :: ns, vs, r => by
    simp only [List.map_cons, RepL, Rep] at r
    obtain ⟨v, us, rfl, ⟨t, rfl⟩, r2⟩ := r
    exact .cons n t (RepL.toInts r2)
theorem RepL.ofInts {X : Addr → Prop} {h : Heap} : ∀ {ns : List Int} {vs : List Value}, IntsAre vs ns → RepL X h (ns.map .int) vs
  | _, _, .nil => by simp [RepL]
  | _, _, .cons n t r => by simp only [List.map_cons, RepL, Rep]; exact ⟨_, _, rfl, ⟨t, rfl⟩, RepL.ofInts r⟩

theorem keeps_refl (s : Shared) : Keeps s s := ⟨s.heap, s.toks, rfl, fun _ _ e => e⟩
theorem keeps_tok (s : Shared) (k : Nat) : Keeps s { s with toks := k } := ⟨s.heap, k, rfl, fun _ _ e => e⟩
theorem keeps_of (s : Shared) (h' : Heap) (k : Nat) (hk : Grow s.heap h') : Keeps s { s with heap := h', toks := k } := ⟨h', k, rfl, hk⟩
theorem keeps_trans {a b c : Shared} (x : Keeps a b) (y : Keeps b c) : Keeps a c := by
  obtain ⟨h, k, rfl, x⟩ := x
  obtain ⟨h', k', rfl, y⟩ := y
  exact ⟨h', k', rfl, fun _ _ e => y _ _ (x _ _ e)⟩
theorem keeps_grow {a b : Shared} (x : Keeps a b) : Grow a.heap b.heap := by
  obtain ⟨h, k, rfl, x⟩ := x
  exact x

section
variable (prog : Program) (w : World) (A : Around) (env : Env) (g : Shared) (X : Addr → Prop)

/-- e is reckoned to p, from every state that keeps g; nothing that stood is changed -/
def Ev (e : Expr) (p : PV) : Prop :=
  ∀ (s : Shared) (E : Value → Shared → Prop) (Q : Value → Shared → Prop), Keeps g s → (∀ v s', Keeps s s' → Rep X s'.heap p v → Q v s') → wpAny (model prog w) A (eval e env) Q E s
/-- e is reckoned to a list, that may be the call's own, of ps -/
def EvO (e : Expr) (ps : List PV) : Prop :=
  ∀ (s : Shared) (E : Value → Shared → Prop) (Q : Value → Shared → Prop), Keeps g s → (∀ a vs s', Keeps s s' → s'.heap.IsList a vs.toArray → RepL X s'.heap ps vs → Q (.ref a) s') → wpAny (model prog w) A (eval e env) Q E s
/-- the test c is decided: b -/
def Tst (c : Expr) (b : Bool) : Prop :=
  ∀ (s : Shared) (E : Value → Shared → Prop) (Q : Bool → Shared → Prop), Keeps g s → (∀ s', Keeps s s' → Q b s') → wpAny (model prog w) A (isTrue c env (eval c env)) Q E s
end

section
variable {prog : Program} {w : World} {A : Around} {env : Env} {g : Shared} {X : Addr → Prop}

theorem Ev.o {e : Expr} {ps : List PV} (h : Ev prog w A env g X e (.list ps)) : EvO prog w A env g X e ps := fun s E Q hg hQ =>
  h s E Q hg fun v s' k r => by
    simp only [Rep] at r
    obtain ⟨a, vs, rfl, _, hl, hr⟩ := r
    exact hQ a vs s' k hl hr
theorem Ev.up {e : Expr} {p : PV} {g' : Shared} (h : Ev prog w A env g X e p) (hg : Keeps g g') : Ev prog w A env g' X e p := fun s E Q hs hQ => h s E Q (keeps_trans hg hs) hQ

theorem ev_int (i : Int) (k : Nat) (pos : Pos) : Ev prog w A env g X (.Constant (.int i) k pos) (.int i) := fun s E Q _ hQ =>
  wpAny_Constant_int (hQ _ _ (keeps_tok s _) (by simp only [Rep]; exact ⟨_, rfl⟩))

theorem ev_bin {l r : Expr} {op : Operator} {pos : Pos} {p q res : PV} (h1 : Ev prog w A env g X l p) (h2 : Ev prog w A env g X r q)
    (hop : ∀ (s : Shared) (v u : Value) (E : Value → Shared → Prop) (Q : Value → Shared → Prop), Keeps g s → Rep X s.heap p v → Rep X s.heap q u → (∀ v' s', Keeps s s' → Rep X s'.heap res v' → Q v' s') → wpAny (model prog w) A (binaryOp op v u) Q E s) :
    Ev prog w A env g X (.BinOp l op r pos) res := fun s E Q hg hQ =>
  wpAny_BinOp (h1 s E _ hg fun v s' k r => h2 s' E _ (keeps_trans hg k) fun u s'' k' r' => hop s'' v u E Q (keeps_trans hg (keeps_trans k k')) (r.keep (keeps_grow k')) r'
    fun v' s3 k3 r3 => hQ v' s3 (keeps_trans (keeps_trans k k') k3) r3)

theorem ev_add {l r : Expr} {pos : Pos} {a b : Int} (h1 : Ev prog w A env g X l (.int a)) (h2 : Ev prog w A env g X r (.int b)) : Ev prog w A env g X (.BinOp l .Add r pos) (.int (a + b)) :=
  ev_bin h1 h2 fun s v u E Q _ r r' hQ => by
    simp only [Rep] at r r'
    obtain ⟨t, rfl⟩ := r
    obtain ⟨t', rfl⟩ := r'
    exact wpAny_add_int (hQ _ _ (keeps_tok s _) (by simp only [Rep]; exact ⟨_, rfl⟩))
end
end Mine
end

-- part B2
section
namespace Mine
open PySem PySem.Calls PyProof.Rows
section
variable {prog : Program} {w : World} {A : Around} {env : Env} {g : Shared} {X : Addr → Prop}

theorem ibeq (a b : Int) : (a == b) = decide (a = b) := by by_cases h : a = b <;> simp [h]
theorem rep_int (X : Addr → Prop) (h : Heap) (i : Int) (t : Tok) : Rep X h (.int i) (.int i t) := by simp only [Rep]; exact ⟨t, rfl⟩
theorem rep_bool (X : Addr → Prop) (h : Heap) (b : Bool) : Rep X h (.bool b) (.bool b) := by simp only [Rep]

/-- an int operation -/
theorem ev_bin_int {l r : Expr} {op : Operator} {pos : Pos} {a b c : Int} (h1 : Ev prog w A env g X l (.int a)) (h2 : Ev prog w A env g X r (.int b))
    (hop : ∀ (s : Shared) (t u : Tok) (E : Value → Shared → Prop) (Q : Value → Shared → Prop), Q (.int c s.toks) { s with toks := s.toks + 1 } → wpAny (model prog w) A (binaryOp op (.int a t) (.int b u)) Q E s) :
    Ev prog w A env g X (.BinOp l op r pos) (.int c) :=
  ev_bin h1 h2 fun s v u E Q _ r r' hQ => by
    simp only [Rep] at r r'
    obtain ⟨t, rfl⟩ := r
    obtain ⟨t', rfl⟩ := r'
    exact hop s t t' E Q (hQ _ _ (keeps_tok s _) (rep_int ..))
theorem ev_sub {l r : Expr} {pos : Pos} {a b : Int} (h1 : Ev prog w A env g X l (.int a)) (h2 : Ev prog w A env g X r (.int b)) : Ev prog w A env g X (.BinOp l .Sub r pos) (.int (a - b)) :=
  ev_bin_int h1 h2 fun _ _ _ _ _ h => P.sub_int h
theorem mul_ok {a b : Int} (ha : a.natAbs < 2 ^ 200) (hb : b.natAbs < 2 ^ 200) : IntMulOk a b :=
  IntMulOk.of_bits (Nat.le_trans (PyProof.Rows.intBits_le ha) (by decide)) (Nat.le_trans (PyProof.Rows.intBits_le hb) (by decide))
theorem ev_mul {l r : Expr} {pos : Pos} {a b : Int} (h1 : Ev prog w A env g X l (.int a)) (h2 : Ev prog w A env g X r (.int b)) (ha : a.natAbs < 2 ^ 200) (hb : b.natAbs < 2 ^ 200) :
    Ev prog w A env g X (.BinOp l .Mult r pos) (.int (a * b)) :=
  ev_bin_int h1 h2 fun _ _ _ _ _ h => P.mul_int h (mul_ok ha hb)
theorem ev_mod {l r : Expr} {pos : Pos} {a b : Int} (h1 : Ev prog w A env g X l (.int a)) (h2 : Ev prog w A env g X r (.int b)) (hb : 0 < b) :
    Ev prog w A env g X (.BinOp l .Mod r pos) (.int (a % b)) :=
  ev_bin_int h1 h2 fun _ _ _ _ _ h => mod_int' (by omega) (by rw [Int.fmod_eq_emod_of_nonneg _ (by omega)]; exact h)
theorem div_ok {a b : Int} (hb : 0 < b) (h : b < 2 ^ 200) : Builtin.divisionGoesByPylong a b = false := by
  refine PyProof.noPylong_of_log2 ?_
  have : b.natAbs.log2 < 200 := (Nat.log2_lt (by omega)).mpr (by omega)
  omega
theorem ev_div {l r : Expr} {pos : Pos} {a b : Int} (h1 : Ev prog w A env g X l (.int a)) (h2 : Ev prog w A env g X r (.int b)) (hb : 0 < b) (h : b < 2 ^ 200) :
    Ev prog w A env g X (.BinOp l .FloorDiv r pos) (.int (a / b)) :=
  ev_bin_int h1 h2 fun _ _ _ _ _ hQ => PyProof.Rows.floordiv_int (by omega) (by rw [Int.fdiv_eq_ediv_of_nonneg _ (by omega)]; exact hQ) (.inl (div_ok hb h))
theorem ev_pow {l r : Expr} {pos : Pos} {a : Int} {n : Nat} (h1 : Ev prog w A env g X l (.int a)) (h2 : Ev prog w A env g X r (.int n)) (ha : a.natAbs < 2 ^ 20) (hn : n < 1000) :
    Ev prog w A env g X (.BinOp l .Pow r pos) (.int (a ^ n)) :=
  ev_bin_int h1 h2 fun s t u E Q h => PyProof.Rows.pow_int (by omega) (by
    have := PyProof.Rows.intBits_le ha
    have h3 : (Builtin.Int.intBits a : Int) * (n : Int) ≤ 20 * 1000 := Int.mul_le_mul (by omega) (by omega) (by omega) (by omega)
    omega) (by simpa using h)

theorem ev_neg {e : Expr} {pos : Pos} {a : Int} (h : Ev prog w A env g X e (.int a)) : Ev prog w A env g X (.UnaryOp .USub e pos) (.int (-a)) := fun s E Q hg hQ => by
  rw [arm_eval_UnaryOp]
  refine wpAny_bind (h s E _ hg fun v s' k r => ?_)
  simp only [Rep] at r
  obtain ⟨t, rfl⟩ := r
  exact wpAny_bind (wpAny_standAt (wpAny_holding (P.neg_int (hQ _ _ (keeps_trans k (keeps_tok s' _)) (rep_int ..)))))

/-- a comparison of what stands for p and q -/
def Cmp (prog : Program) (w : World) (A : Around) (X : Addr → Prop) (op : CmpOp) (p q : PV) (b : Bool) : Prop :=
  ∀ (s : Shared) (v u : Value) (E : Value → Shared → Prop) (Q : Value → Shared → Prop), Rep X s.heap p v → Rep X s.heap q u → (∀ s', Keeps s s' → Q (.bool b) s') → wpAny (model prog w) A (compareOp op v u) Q E s

theorem ev_cmp {l r : Expr} {op : CmpOp} {pos : Pos} {p q : PV} {b : Bool} (h1 : Ev prog w A env g X l p) (h2 : Ev prog w A env g X r q) (hc : Cmp prog w A X op p q b)
    (hm : behindInMarks op r = false := by with_unfolding_all rfl) : Ev prog w A env g X (.Compare l [op] [r] pos) (.bool b) := fun s E Q hg hQ =>
  wpAny_Compare1 (h1 s E _ hg fun v s' k r => h2 s' E _ (keeps_trans hg k) fun u s'' k' r' => hc s'' v u E Q (r.keep (keeps_grow k')) r' fun s3 k3 => hQ _ s3 (keeps_trans (keeps_trans k k') k3) (rep_bool ..)) hm
theorem tst_cmp {l r : Expr} {op : CmpOp} {pos : Pos} {p q : PV} {b : Bool} (h1 : Ev prog w A env g X l p) (h2 : Ev prog w A env g X r q) (hc : Cmp prog w A X op p q b)
    (hm : behindInMarks op r = false := by with_unfolding_all rfl) : Tst prog w A env g (.Compare l [op] [r] pos) b := fun s E Q hg hQ =>
  wpAny_isTrue_Compare1 (h1 s E _ hg fun v s' k r => h2 s' E _ (keeps_trans hg k) fun u s'' k' r' => hc s'' v u E _ (r.keep (keeps_grow k')) r' fun s3 k3 => wpAny_truthy_bool (hQ s3 (keeps_trans (keeps_trans k k') k3))) hm

theorem cmp_int {op : CmpOp} {a b : Int} {c : Bool} (hop : ∀ (s : Shared) (t u : Tok) (E : Value → Shared → Prop) (Q : Value → Shared → Prop), Q (.bool c) s → wpAny (model prog w) A (compareOp op (.int a t) (.int b u)) Q E s) :
    Cmp prog w A X op (.int a) (.int b) c := fun s v u E Q r r' hQ => by
  simp only [Rep] at r r'
  obtain ⟨t, rfl⟩ := r
  obtain ⟨t', rfl⟩ := r'
  exact hop s t t' E Q (hQ s (keeps_refl s))
theorem cmp_eq {a b : Int} : Cmp prog w A X .Eq (.int a) (.int b) (decide (a = b)) := cmp_int fun _ _ _ _ _ h => P.eq_int (by rw [ibeq]; exact h)
theorem cmp_ne {a b : Int} : Cmp prog w A X .NotEq (.int a) (.int b) (decide (a ≠ b)) := cmp_int fun _ _ _ _ _ h => P.ne_int (by
  have e : (a != b) = decide (a ≠ b) := by
    show (!(a == b)) = _
    rw [ibeq]; simp
  rw [e]; exact h)
theorem cmp_lt {a b : Int} : Cmp prog w A X .Lt (.int a) (.int b) (decide (a < b)) := cmp_int fun _ _ _ _ _ h => P.lt_int h
theorem cmp_le {a b : Int} : Cmp prog w A X .LtE (.int a) (.int b) (decide (a ≤ b)) := cmp_int fun _ _ _ _ _ h => P.le_int h
theorem cmp_gt {a b : Int} : Cmp prog w A X .Gt (.int a) (.int b) (decide (a > b)) := cmp_int fun _ _ _ _ _ h => P.gt_int h
theorem cmp_ge {a b : Int} : Cmp prog w A X .GtE (.int a) (.int b) (decide (a ≥ b)) := cmp_int fun _ _ _ _ _ h => P.ge_int h

/-- the truth of an expression that is no test of its own form -/
theorem tst_bool {e : Expr} {b : Bool} (h : Ev prog w A env g X e (.bool b)) (he : isTrue e env (eval e env) = (do let v ← eval e env; standAt e.pos; holding [v] (truthy v)) := by rfl) : Tst prog w A env g e b := fun s E Q hg hQ =>
  isTrue_plain (h s E _ hg fun v s' k r => by
    simp only [Rep] at r
    subst r
    exact wpAny_truthy_bool (hQ s' k)) he
theorem tst_int {e : Expr} {a : Int} (h : Ev prog w A env g X e (.int a)) (he : isTrue e env (eval e env) = (do let v ← eval e env; standAt e.pos; holding [v] (truthy v)) := by rfl) : Tst prog w A env g e (decide (a ≠ 0)) := fun s E Q hg hQ =>
  isTrue_plain (h s E _ hg fun v s' k r => by
    simp only [Rep] at r
    obtain ⟨t, rfl⟩ := r
    refine P.truthy_int ?_
    have e : (a != 0) = decide (a ≠ 0) := by
      show (!(a == 0)) = _
      rw [ibeq]; simp
    rw [e]
    exact hQ s' k) he
theorem tst_not {e : Expr} {pos : Pos} {b : Bool} (h : Tst prog w A env g e b) : Tst prog w A env g (.UnaryOp .Not e pos) (!b) := fun s E Q hg hQ =>
  isTrue_not (h s E _ hg hQ)
theorem tst_and {x y : Expr} {pos : Pos} {b c : Bool} (h1 : Tst prog w A env g x b) (h2 : b = true → Tst prog w A env g y c) : Tst prog w A env g (.BoolOp .And [x, y] pos) (b && c) := fun s E Q hg hQ => by
  rw [arm_isTrue_BoolOp, arm_allTrue_cons]
  refine wpAny_bind (h1 s E _ hg fun s' k => ?_)
  cases b with
  | false => exact wpAny_pure (hQ s' k)
  | true =>
    dsimp only
    rw [arm_allTrue_cons]
    refine wpAny_bind (h2 rfl s' E _ (keeps_trans hg k) fun s'' k' => ?_)
    cases c with
    | false => exact wpAny_pure (hQ s'' (keeps_trans k k'))
    | true => exact wpAny_pure (hQ s'' (keeps_trans k k'))
theorem tst_or {x y : Expr} {pos : Pos} {b c : Bool} (h1 : Tst prog w A env g x b) (h2 : b = false → Tst prog w A env g y c) : Tst prog w A env g (.BoolOp .Or [x, y] pos) (b || c) := fun s E Q hg hQ => by
  rw [arm_isTrue_BoolOp, arm_allTrue_cons]
  refine wpAny_bind (h1 s E _ hg fun s' k => ?_)
  cases b with
  | true => exact wpAny_pure (hQ s' k)
  | false =>
    dsimp only
    rw [arm_allTrue_cons]
    refine wpAny_bind (h2 rfl s' E _ (keeps_trans hg k) fun s'' k' => ?_)
    cases c with
    | false => exact wpAny_pure (hQ s'' (keeps_trans k k'))
    | true => exact wpAny_pure (hQ s'' (keeps_trans k k'))
/-- a and b, both bools, as a value -/
theorem ev_and {x y : Expr} {pos : Pos} {b c : Bool} (h1 : Ev prog w A env g X x (.bool b)) (h2 : b = true → Ev prog w A env g X y (.bool c)) : Ev prog w A env g X (.BoolOp .And [x, y] pos) (.bool (b && c)) := fun s E Q hg hQ => by
  rw [arm_eval_BoolOp, arm_evalEach_cons, arm_evalEach_cons, arm_evalEach_nil]
  show wpAny _ A (do
    let v ← eval x env
    standAt pos
    let t ← holding [v] (truthy v)
    match BoolOp.And, t with
    | .And, false | .Or, true => pure v
    | _, _ => boolOp pos .And [eval y env]) Q E s
  refine wpAny_bind (h1 s E _ hg fun v s' k r => wpAny_bind (wpAny_standAt (wpAny_bind (wpAny_holding ?_))))
  simp only [Rep] at r
  subst r
  refine wpAny_truthy_bool ?_
  cases b with
  | false => exact wpAny_pure (hQ _ s' k (rep_bool ..))
  | true => exact h2 rfl s' E _ (keeps_trans hg k) fun v s'' k' r' => hQ v s'' (keeps_trans k k') r'
theorem ev_ite {c x y : Expr} {pos : Pos} {b : Bool} {p : PV} (hc : Tst prog w A env g c b) (h1 : b = true → Ev prog w A env g X x p) (h2 : b = false → Ev prog w A env g X y p) : Ev prog w A env g X (.IfExp c x y pos) p := fun s E Q hg hQ =>
  wpAny_IfExp (hc s E _ hg fun s' k => by
    cases b with
    | true => exact h1 rfl s' E Q (keeps_trans hg k) fun v s'' k' r' => hQ v s'' (keeps_trans k k') r'
    | false => exact h2 rfl s' E Q (keeps_trans hg k) fun v s'' k' r' => hQ v s'' (keeps_trans k k') r')
theorem Tst.of {c : Expr} {b b' : Bool} (h : Tst prog w A env g c b) (e : b = b') : Tst prog w A env g c b' := e ▸ h
theorem Ev.of {e : Expr} {p p' : PV} (h : Ev prog w A env g X e p) (q : p = p') : Ev prog w A env g X e p' := q ▸ h
end
end Mine
end

-- part B3
section
namespace Mine
open PySem PySem.Calls PyProof.Rows

def VarOf (env : Env) (m cm : Str → Option Value) (x : Str) : Option Value := match env.kindOf x with
  | some .local => m x
  | some .cell => if (env.cells.lookup x).isSome then cm x else none
  | _ => none

/-- a frame: what stood (B) is kept, the names are m, the cells cm -/
structure Frm (s₀ : Shared) (B : Addr → Option Obj) (L : Addr) (m : Str → Option Value) (cs : List (Str × Addr)) (cm : Str → Option Value) (s : Shared) : Prop where
  same : ∃ h tk, s = { s₀ with heap := h, toks := tk }
  base : ∀ b o, s₀.heap.get? b = some o → B b = some o
  keep : ∀ b o, B b = some o → s.heap.get? b = some o
  ns : s.heap.Ns L m
  freshL : B L = none
  cell : ∀ n c, cs.lookup n = some c → s.heap.IsCell c (cm n)
  apart : ∀ n n' c, cs.lookup n = some c → cs.lookup n' = some c → n = n'
  freshC : ∀ n c, cs.lookup n = some c → B c = none ∧ c ≠ L

/-- the frame of a call: its names σ, its own list -/
structure In (s₀ : Shared) (B : Addr → Option Obj) (env : Env) (X : Addr → Prop) (σ : List (Str × PV)) (own : Option (Str × Addr × List PV)) (s : Shared) : Prop where
  fn : env.scope.kind = .function
  frame : ∃ m cm, Frm s₀ B env.locals m env.cells cm s ∧ (∀ x p, σ.lookup x = some p → ∃ v, VarOf env m cm x = some v ∧ Rep X s.heap p v) ∧
    ∀ y a ps, own = some (y, a, ps) → X a ∧ B a = none ∧ VarOf env m cm y = some (.ref a) ∧ ∃ vs : List Value, s.heap.PlainList a vs.toArray ∧ RepL X s.heap ps vs

section
variable {prog : Program} {w : World} {A : Around} {env : Env} {X : Addr → Prop} {s₀ s : Shared} {B : Addr → Option Obj} {σ : List (Str × PV)} {own : Option (Str × Addr × List PV)}

theorem Frm.done {L : Addr} {m cm : Str → Option Value} {cs : List (Str × Addr)} (x : Frm s₀ B L m cs cm s) : Keeps s₀ s := by
  obtain ⟨h, tk, rfl⟩ := x.same
  exact ⟨h, tk, rfl, fun b o e => x.keep b o (x.base b o e)⟩
theorem Frm.up {s' : Shared} {L : Addr} {m cm : Str → Option Value} {cs : List (Str × Addr)} (x : Frm s₀ B L m cs cm s) (k : Keeps s s') : Frm s₀ B L m cs cm s' := by
  obtain ⟨h', tk, rfl, hk⟩ := k
  obtain ⟨h, tk₀, rfl⟩ := x.same
  exact ⟨⟨h', tk, rfl⟩, x.base, fun b o e => hk b o (x.keep b o e), x.ns.keeps hk, x.freshL, fun n c hc => (x.cell n c hc).keeps hk, x.apart, x.freshC⟩
theorem In.keep {s' : Shared} (I : In s₀ B env X σ own s) (k : Keeps s s') : In s₀ B env X σ own s' := by
  obtain ⟨fn, m, cm, x, hv, ho⟩ := I
  refine ⟨fn, m, cm, x.up k, fun y p e => ?_, fun y a ps e => ?_⟩
  · obtain ⟨v, h1, h2⟩ := hv y p e
    exact ⟨v, h1, h2.keep (keeps_grow k)⟩
  · obtain ⟨h1, h2, h3, vs, h4, h5⟩ := ho y a ps e
    exact ⟨h1, h2, h3, vs, h4.at fun o e => keeps_grow k a o e, h5.keep (keeps_grow k)⟩
theorem In.keeps (I : In s₀ B env X σ own s) : Keeps s₀ s := by
  obtain ⟨_, m, cm, c, _⟩ := I
  exact c.done

theorem wpAny_name_var {M : Model} {E : Value → Shared → Prop} {Q : Value → Shared → Prop} {m cm : Str → Option Value} {x : Str} {pos : Pos} {v : Value} (fn : env.scope.kind = .function) (I : Frm s₀ B env.locals m env.cells cm s)
    (hv : VarOf env m cm x = some v) (h : Q v s) (hd : (x == ("__debug__" : Str)) = false) : wpAny M A (eval (.Name x pos) env) Q E s := by
  unfold VarOf at hv
  split at hv
  · rename_i hk
    exact wpAny_Name (wpAny_loadName_local fn hk I.ns hv h) hd
  · rename_i hk
    split at hv
    · rename_i hc
      obtain ⟨c, hc⟩ := Option.isSome_iff_exists.mp hc
      exact wpAny_Name (wpAny_loadName_cell fn hk hc (hv ▸ I.cell x c hc) h) hd
    · cases hv
  · cases hv
theorem In.ev {x : Str} {p : PV} (I : In s₀ B env X σ own s) (hx : σ.lookup x = some p) {pos : Pos} (hd : (x == ("__debug__" : Str)) = false := by decide) : Ev prog w A env s X (.Name x pos) p := fun s' E Q hg hQ => by
  obtain ⟨fn, m, cm, c, hv, _⟩ := I
  obtain ⟨v, h1, h2⟩ := hv x p hx
  exact wpAny_name_var fn (c.up hg) h1 (hQ v s' (keeps_refl s') (h2.keep (keeps_grow hg))) hd
theorem In.evO {y : Str} {a : Addr} {ps : List PV} (I : In s₀ B env X σ (some (y, a, ps)) s) {pos : Pos} (hd : (y == ("__debug__" : Str)) = false := by decide) : EvO prog w A env s X (.Name y pos) ps := fun s' E Q hg hQ => by
  obtain ⟨fn, m, cm, c, _, ho⟩ := I
  obtain ⟨_, _, h3, vs, h4, h5⟩ := ho y a ps rfl
  exact wpAny_name_var fn (c.up hg) h3 (hQ a vs s' (keeps_refl s') (h4.at fun o e => keeps_grow hg a o e).isList (h5.keep (keeps_grow hg))) hd

theorem list_ne_dict {h : Heap} {b L : Addr} {o o' : Obj} (h1 : h.get? b = some o) (h2 : ∃ xs n, o.data = .seq xs n) (h3 : h.get? L = some o') (h4 : ∀ xs n, o'.data ≠ .seq xs n) : b ≠ L := fun e => by
  subst e
  rw [h1] at h3
  cases h3
  obtain ⟨xs, n, h2⟩ := h2
  exact h4 xs n h2
theorem ns_noseq {h : Heap} {L : Addr} {m : Str → Option Value} (n : h.Ns L m) : ∃ o, h.get? L = some o ∧ ∀ xs n, o.data ≠ .seq xs n := by
  obtain ⟨o, es, ep, ho, hd, _⟩ := n
  exact ⟨o, ho, fun xs n e => by rw [hd] at e; cases e⟩
theorem cell_noseq {h : Heap} {c : Addr} {v : Option Value} (n : h.IsCell c v) : ∃ o, h.get? c = some o ∧ ∀ xs n, o.data ≠ .seq xs n := by
  obtain ⟨o, ho, hd⟩ := n
  exact ⟨o, ho, fun xs n e => by rw [hd] at e; cases e⟩
theorem Rep.same {X : Addr → Prop} {h h' : Heap} {L : Addr} (hn : ∃ o, h.get? L = some o ∧ ∀ xs n, o.data ≠ .seq xs n) (hs : Heap.SameBut L h h') {p : PV} {v : Value} (r : Rep X h p v) : Rep X h' p v :=
  r.mono (fun b o _ e hd => by
    obtain ⟨o', h1, h2⟩ := hn
    exact (hs.2 b (list_ne_dict e hd h1 h2)).trans e) fun _ _ _ y => y
theorem RepL.same {X : Addr → Prop} {h h' : Heap} {L : Addr} (hn : ∃ o, h.get? L = some o ∧ ∀ xs n, o.data ≠ .seq xs n) (hs : Heap.SameBut L h h') {p : List PV} {v : List Value} (r : RepL X h p v) : RepL X h' p v :=
  r.mono (fun b o _ e hd => by
    obtain ⟨o', h1, h2⟩ := hn
    exact (hs.2 b (list_ne_dict e hd h1 h2)).trans e) fun _ _ _ y => y
theorem plain_same {h h' : Heap} {L a : Addr} {its : Array Value} (hn : ∃ o, h.get? L = some o ∧ ∀ xs n, o.data ≠ .seq xs n) (hs : Heap.SameBut L h h') (r : h.PlainList a its) : h'.PlainList a its := by
  obtain ⟨n, e⟩ := r
  obtain ⟨o', h1, h2⟩ := hn
  exact ⟨n, (hs.2 a (list_ne_dict e ⟨_, _, rfl⟩ h1 h2)).trans e⟩

theorem lookup_cons_of {x y : Str} {p q : PV} {σ : List (Str × PV)} (h : ((x, p) :: σ).lookup y = some q) : (y = x ∧ q = p) ∨ (y ≠ x ∧ σ.lookup y = some q) := by
  rw [List.lookup_cons] at h
  cases hb : y == x with
  | true => rw [hb] at h; cases h; exact .inl ⟨beq_iff_eq.mp hb, rfl⟩
  | false => rw [hb] at h; exact .inr ⟨fun e => by simp [e] at hb, h⟩

/-- a store into the frame -/
theorem Frm.store {M : Model} {E : Value → Shared → Prop} {Q : Unit → Shared → Prop} {m cm : Str → Option Value} {x : Str} {v : Value} (fn : env.scope.kind = .function) (c : Frm s₀ B env.locals m env.cells cm s)
    (hx : env.kindOf x = some .local ∨ (env.kindOf x = some .cell ∧ (env.cells.lookup x).isSome = true))
    (h : ∀ s' m' cm', Frm s₀ B env.locals m' env.cells cm' s' → VarOf env m' cm' x = some v → (∀ y, y ≠ x → VarOf env m' cm' y = VarOf env m cm y) →
      (∀ {Y : Addr → Prop} {p : PV} {u : Value}, Rep Y s.heap p u → Rep Y s'.heap p u) → (∀ {Y : Addr → Prop} {p : List PV} {u : List Value}, RepL Y s.heap p u → RepL Y s'.heap p u) →
      (∀ {a : Addr} {its : Array Value}, s.heap.PlainList a its → s'.heap.PlainList a its) → Q () s') : wpAny M A (storeName env x v) Q E s := by
  obtain ⟨h₀, tk₀, hsame⟩ := c.same
  rcases hx with hx | ⟨hx, hc⟩
  · have hn := ns_noseq c.ns
    refine wpAny_storeName_local hx c.ns (fun h' hn' hs' => ?_) (by rw [fn]; rfl)
    have c' : Frm s₀ B env.locals (fun y => if y = x then some v else m y) env.cells cm { s with heap := h', toks := s.toks + 1 } :=
      ⟨⟨h', _, by rw [hsame]⟩, c.base, fun b o e => hs'.extBut b o (fun q => by rw [q, c.freshL] at e; cases e) (c.keep b o e), hn', c.freshL,
        fun k a hk => (c.cell k a hk).sameBut hs' (c.freshC k a hk).2, c.apart, c.freshC⟩
    exact h _ _ _ c' (by unfold VarOf; rw [hx]; simp) (fun y hy => by unfold VarOf; split <;> simp [hy]) (fun r => r.same hn hs') (fun r => r.same hn hs') fun r => plain_same hn hs' r
  · obtain ⟨ca, hca⟩ := Option.isSome_iff_exists.mp hc
    have hcell := c.cell x ca hca
    have hn := cell_noseq hcell
    have hLc := c.freshC x ca hca
    refine wpAny_storeName_cell fn hx hca hcell fun h' hc' hs' => ?_
    have c' : Frm s₀ B env.locals m env.cells (fun y => if y = x then some v else cm y) { s with heap := h' } := by
      refine ⟨⟨h', tk₀, by rw [hsame]⟩, c.base, fun b o e => hs'.extBut b o (fun q => by rw [q, hLc.1] at e; cases e) (c.keep b o e), c.ns.sameBut hs' (Ne.symm hLc.2), c.freshL, fun k a hk => ?_, c.apart, c.freshC⟩
      by_cases hkx : k = x
      · subst hkx
        rw [hca] at hk; cases hk
        simpa using hc'
      · rw [if_neg hkx]
        exact (c.cell k a hk).sameBut hs' fun e => hkx (c.apart k x a hk (e ▸ hca))
    exact h _ _ _ c' (by unfold VarOf; rw [hx]; simp [hc]) (fun y hy => by unfold VarOf; split <;> simp [hy]) (fun r => r.same hn hs') (fun r => r.same hn hs') fun r => plain_same hn hs' r

/-- a name of the frame's is stored -/
theorem In.store {M : Model} {E : Value → Shared → Prop} {Q : Unit → Shared → Prop} {x : Str} {p : PV} {v : Value} (I : In s₀ B env X σ own s) (hr : Rep X s.heap p v)
    (hx : env.kindOf x = some .local ∨ (env.kindOf x = some .cell ∧ (env.cells.lookup x).isSome = true))
    (hno : ∀ y a ps, own = some (y, a, ps) → y ≠ x) (h : ∀ s', In s₀ B env X ((x, p) :: σ) own s' → Q () s') : wpAny M A (storeName env x v) Q E s := by
  obtain ⟨fn, m, cm, c, hv, ho⟩ := I
  refine c.store fn hx fun s' m' cm' c' hxv hvar up upL upP => h _ ⟨fn, m', cm', c', fun y q e => ?_, fun y a ps e => ?_⟩
  · rcases lookup_cons_of e with ⟨rfl, rfl⟩ | ⟨hy, e⟩
    · exact ⟨v, hxv, up hr⟩
    · obtain ⟨u, h1, h2⟩ := hv y q e
      exact ⟨u, by rw [hvar y hy]; exact h1, up h2⟩
  · obtain ⟨h1, h2, h3, vs, h4, h5⟩ := ho y a ps e
    exact ⟨h1, h2, by rw [hvar y (hno y a ps e)]; exact h3, vs, upP h4, upL h5⟩
/-- a new list is stored: the frame's own from now on -/
theorem In.storeOwn {M : Model} {E : Value → Shared → Prop} {Q : Unit → Shared → Prop} {x : Str} {ps : List PV} {a : Addr} {vs : List Value} {s' : Shared} (I : In s₀ B env X σ none s) (k : Keeps s s') (ha : s.heap.get? a = none) (hp : s'.heap.PlainList a vs.toArray)
    (hx : env.kindOf x = some .local ∨ (env.kindOf x = some .cell ∧ (env.cells.lookup x).isSome = true)) (hσ : σ.lookup x = none) (hX : RepL (fun b => X b ∨ b = a) s'.heap ps vs)
    (h : ∀ s'', In s₀ B env (fun b => X b ∨ b = a) σ (some (x, a, ps)) s'' → Q () s'') : wpAny M A (storeName env x (.ref a)) Q E s' := by
  obtain ⟨fn, m, cm, c, hv, ho⟩ := I
  have hBa : B a = none := by
    cases e : B a with
    | none => rfl
    | some o => rw [c.keep a o e] at ha; cases ha
  refine (c.up k).store fn hx fun s'' m' cm' c' hxv hvar up upL upP => h _ ⟨fn, m', cm', c', fun y q e => ?_, fun y a' ps' e => ?_⟩
  · obtain ⟨u, h1, h2⟩ := hv y q e
    refine ⟨u, by rw [hvar y fun q => by rw [q, hσ] at e; cases e]; exact h1, up (h2.mono (fun b o _ e _ => keeps_grow k b o e) fun b o e' hb => ?_)⟩
    rcases hb with hb | rfl
    · exact hb
    · rw [ha] at e'; cases e'
  · cases e
    exact ⟨.inr rfl, hBa, hxv, vs, upP hp, upL hX⟩
/-- the own list is changed -/
theorem In.ownSet {y : Str} {a : Addr} {ps ps' : List PV} {vs' : List Value} {h' : Heap} {tk : Nat} (I : In s₀ B env X σ (some (y, a, ps)) s) (hs : Heap.SameBut a s.heap h') (hp : h'.PlainList a vs'.toArray) (hr : RepL X s.heap ps' vs') :
    In s₀ B env X σ (some (y, a, ps')) { s with heap := h', toks := tk } := by
  obtain ⟨fn, m, cm, c, hv, ho⟩ := I
  obtain ⟨h1, h2, h3, vs, ⟨n, h4⟩, h5⟩ := ho y a ps rfl
  obtain ⟨h₀, tk₀, hsame⟩ := c.same
  have up : ∀ {p : PV} {v : Value}, Rep X s.heap p v → Rep X h' p v := fun r => r.mono (fun b o' hb e _ => hs.extBut b o' (fun q => hb (q ▸ h1)) e) fun _ _ _ y => y
  have upL : ∀ {p : List PV} {v : List Value}, RepL X s.heap p v → RepL X h' p v := fun r => r.mono (fun b o' hb e _ => hs.extBut b o' (fun q => hb (q ▸ h1)) e) fun _ _ _ y => y
  have hL : env.locals ≠ a := fun e => by
    obtain ⟨o', es, ep, g1, g2, _⟩ := c.ns
    rw [e, h4] at g1; cases g1; cases g2
  refine ⟨fn, m, cm, ⟨⟨h', tk, by rw [hsame]⟩, c.base, fun b o' e => hs.extBut b o' (fun q => by rw [q, h2] at e; cases e) (c.keep b o' e), c.ns.sameBut hs hL, c.freshL, fun n a' h => ?_, c.apart, c.freshC⟩, fun z p e => ?_, fun z a' ps'' e => ?_⟩
  · refine (c.cell n a' h).sameBut hs fun e => ?_
    obtain ⟨o', g1, g2⟩ := c.cell n a' h
    rw [e, h4] at g1; cases g1; cases g2
  · obtain ⟨v, g1, g2⟩ := hv z p e
    exact ⟨v, g1, up g2⟩
  · cases e
    exact ⟨h1, h2, h3, vs', hp, upL hr⟩

/-- more, or less, is held to stand -/
theorem In.weak {B' : Addr → Option Obj} (I : In s₀ B' env X σ own s) (hb : ∀ b o, B b = some o → B' b = some o) (h0 : ∀ b o, s₀.heap.get? b = some o → B b = some o) : In s₀ B env X σ own s := by
  obtain ⟨fn, m, cm, c, hv, ho⟩ := I
  have no : ∀ a, B' a = none → B a = none := fun a e => by
    cases q : B a with
    | none => rfl
    | some o => rw [hb a o q] at e; cases e
  exact ⟨fn, m, cm, ⟨c.same, h0, fun b o e => c.keep b o (hb b o e), c.ns, no _ c.freshL, c.cell, c.apart, fun n a h => ⟨no _ (c.freshC n a h).1, (c.freshC n a h).2⟩⟩, hv,
    fun y a ps e => let ⟨h1, h2, h3⟩ := ho y a ps e; ⟨h1, no a h2, h3⟩⟩
theorem In.base (I : In s₀ B env X σ own s) : ∀ b o, s₀.heap.get? b = some o → B b = some o := by
  obtain ⟨fn, m, cm, c, hv, ho⟩ := I
  exact c.base
def bUpd (B : Addr → Option Obj) (it : Addr) (o : Obj) : Addr → Option Obj := fun b => if b = it then some o else B b
/-- an iterator is held to stand -/
theorem In.ext {it : Addr} {o : Obj} (I : In s₀ B env X σ own s) (ho : s.heap.get? it = some o) (hd : ∃ fs, o.data = .fields fs) (hB : B it = none) : In s₀ (bUpd B it o) env X σ own s := by
  obtain ⟨fn, m, cm, c, hv, hw⟩ := I
  obtain ⟨fs, hd⟩ := hd
  have hL : env.locals ≠ it := fun e => by
    obtain ⟨o', es, ep, h1, h2, _⟩ := c.ns
    rw [e, ho] at h1; cases h1
    rw [hd] at h2; cases h2
  have hC : ∀ n a, env.cells.lookup n = some a → a ≠ it := fun n a h e => by
    obtain ⟨o', h1, h2⟩ := c.cell n a h
    rw [e, ho] at h1; cases h1
    rw [hd] at h2; cases h2
  refine ⟨fn, m, cm, ⟨c.same, fun b o' e => ?_, fun b o' e => ?_, c.ns, ?_, c.cell, c.apart, fun n a h => ⟨?_, (c.freshC n a h).2⟩⟩, hv, fun y a ps e => ?_⟩
  · unfold bUpd
    by_cases q : b = it
    · rw [q] at e
      have := c.base it o' e
      rw [hB] at this; cases this
    · rw [if_neg q]; exact c.base b o' e
  · unfold bUpd at e
    by_cases q : b = it
    · rw [if_pos q] at e; cases e; rw [q]; exact ho
    · rw [if_neg q] at e; exact c.keep b o' e
  · unfold bUpd; rw [if_neg hL]; exact c.freshL
  · unfold bUpd; rw [if_neg (hC n a h)]; exact (c.freshC n a h).1
  · obtain ⟨h1, h2, h3, vs, h4, h5⟩ := hw y a ps e
    refine ⟨h1, ?_, h3, vs, h4, h5⟩
    have : a ≠ it := fun q => by
      obtain ⟨n, h4⟩ := h4
      rw [q, ho] at h4; cases h4
      cases hd
    unfold bUpd; rw [if_neg this]; exact h2

/-- the frame through a change elsewhere -/
theorem In.elsewhere {it : Addr} {o : Obj} {h' : Heap} {tk : Nat} (I : In s₀ B env X σ own s) (ho : s.heap.get? it = some o) (hds : ∀ xs n, o.data ≠ .seq xs n) (hdc : ∀ v, o.data ≠ .cell v) (hL : env.locals ≠ it) (hB : B it = none)
    (hk : ∀ b o, b ≠ it → s.heap.get? b = some o → h'.get? b = some o) : In s₀ B env X σ own { s with heap := h', toks := tk } := by
  obtain ⟨fn, m, cm, c, hv, hw⟩ := I
  obtain ⟨h₀, tk₀, hsame⟩ := c.same
  have seq : ∀ b o', s.heap.get? b = some o' → (∃ xs n, o'.data = .seq xs n) → b ≠ it := fun b o' e ⟨xs, n, q⟩ h => by
    rw [h, ho] at e; cases e
    exact hds _ _ q
  have up : ∀ {p : PV} {v : Value}, Rep X s.heap p v → Rep X h' p v := fun r => r.mono (fun b o' _ e q => hk b o' (seq b o' e q) e) fun _ _ _ y => y
  have upL : ∀ {p : List PV} {v : List Value}, RepL X s.heap p v → RepL X h' p v := fun r => r.mono (fun b o' _ e q => hk b o' (seq b o' e q) e) fun _ _ _ y => y
  refine ⟨fn, m, cm, ⟨⟨h', tk, by rw [hsame]⟩, c.base, fun b o' e => hk b o' (fun q => by rw [q, hB] at e; cases e) (c.keep b o' e), c.ns.at' fun o' e => hk _ o' hL e, c.freshL, fun n a h => ?_, c.apart, c.freshC⟩, fun y p e => ?_, fun y a ps e => ?_⟩
  · obtain ⟨o', h1, h2⟩ := c.cell n a h
    exact ⟨o', hk a o' (fun q => by rw [q, ho] at h1; cases h1; exact hdc _ h2) h1, h2⟩
  · obtain ⟨v, h1, h2⟩ := hv y p e
    exact ⟨v, h1, up h2⟩
  · obtain ⟨h1, h2, h3, vs, ⟨n, h4⟩, h5⟩ := hw y a ps e
    exact ⟨h1, h2, h3, vs, ⟨n, hk a _ (seq a _ h4 ⟨_, _, rfl⟩) h4⟩, upL h5⟩
/-- the frame through a change at an iterator -/
theorem In.but {it : Addr} {o : Obj} {h' : Heap} {tk : Nat} (I : In s₀ B env X σ own s) (ho : s.heap.get? it = some o) (hd : ∃ fs, o.data = .fields fs) (hB : B it = none)
    (hk : ∀ b o, b ≠ it → s.heap.get? b = some o → h'.get? b = some o) : In s₀ B env X σ own { s with heap := h', toks := tk } := by
  obtain ⟨fs, hd⟩ := hd
  refine I.elsewhere ho (fun xs n e => by rw [hd] at e; cases e) (fun v e => by rw [hd] at e; cases e) (fun e => ?_) hB hk
  obtain ⟨fn, m, cm, c, hv, hw⟩ := I
  obtain ⟨o', es, ep, h1, h2, _⟩ := c.ns
  rw [e, ho] at h1; cases h1
  rw [hd] at h2; cases h2

/-- fewer names are known -/
theorem In.sub {τ : List (Str × PV)} (I : In s₀ B env X σ own s) (h : ∀ x p, τ.lookup x = some p → σ.lookup x = some p) : In s₀ B env X τ own s := by
  obtain ⟨fn, m, cm, c, hv, ho⟩ := I
  exact ⟨fn, m, cm, c, fun x p e => hv x p (h x p e), ho⟩
def SubOf (σ : List (Str × PV)) : List (Str × PV) → Prop
  | [] => True
  | (x, p) :: τ => σ.lookup x = some p ∧ SubOf σ τ
theorem SubOf.all {σ : List (Str × PV)} : ∀ {τ : List (Str × PV)}, SubOf σ τ → ∀ x p, τ.lookup x = some p → σ.lookup x = some p
  | [], _, _, _, e => by simp at e
  | (y, q) :: τ, h, x, p, e => by
    rcases lookup_cons_of e with ⟨rfl, rfl⟩ | ⟨_, e⟩
    · exact h.1
    · exact SubOf.all h.2 x p e
theorem In.to {τ : List (Str × PV)} (I : In s₀ B env X σ own s) (h : SubOf σ τ) : In s₀ B env X τ own s := I.sub h.all

abbrev StoreOk (env : Env) (x : Str) : Prop := env.kindOf x = some .local ∨ (env.kindOf x = some .cell ∧ (env.cells.lookup x).isSome = true)
def OwnNe (own : Option (Str × Addr × List PV)) (x : Str) : Prop := ∀ y a ps, own = some (y, a, ps) → y ≠ x
theorem OwnNe.none (x : Str) : OwnNe none x := fun _ _ _ e => nomatch e
theorem OwnNe.some {y x : Str} {a : Addr} {ps : List PV} (h : y ≠ x) : OwnNe (some (y, a, ps)) x := fun _ _ _ e => by cases e; exact h

section
variable {E : Value → Shared → Prop} {Q : Flow → Shared → Prop} {rest : List Stmt}
theorem ex_assign {x : Str} {px pos : Pos} {e : Expr} {p : PV} (I : In s₀ B env X σ own s) (he : Ev prog w A env s X e p) (hx : StoreOk env x) (hno : OwnNe own x)
    (h : ∀ s', In s₀ B env X ((x, p) :: σ) own s' → wpAny (model prog w) A (execs rest env) Q E s')
    (hs : swapsWith e (some (.Name x px)) pos.line env = pure false := by rfl) :
    wpAny (model prog w) A (execs (.Assign [.Name x px] e pos :: rest) env) Q E s :=
  wpAny_execs_cons (wpAny_Assign_Name (he s E _ (keeps_refl s) fun v s' k r => (I.keep k).store r hx hno fun s'' I' => h s'' I') hs)
theorem ex_return {pos : Pos} {e : Expr} {p : PV} (he : Ev prog w A env s X e p) (h : ∀ v s', Keeps s s' → Rep X s'.heap p v → Q (.ret v) s') : wpAny (model prog w) A (execs (.Return (some e) pos :: rest) env) Q E s :=
  wpAny_execs_cons (wpAny_Return_some (he s E _ (keeps_refl s) fun v s' k r => h v s' k r))
theorem ex_if {c : Expr} {b : Bool} {x y : List Stmt} {pos : Pos} (hc : Tst prog w A env s c b)
    (h : ∀ s', Keeps s s' → wpAny (model prog w) A (execs (if b then x else y) env) (fun f s'' => match f with | .next => wpAny (model prog w) A (execs rest env) Q E s'' | f => Q f s'') E s') :
    wpAny (model prog w) A (execs (.If c x y pos :: rest) env) Q E s :=
  wpAny_execs_cons (wpAny_If (hc s E _ (keeps_refl s) fun s' k => by
    cases b with
    | true => exact h s' k
    | false => exact h s' k))
end
end
end Mine
end

-- part B4
section
namespace Mine
open PySem PySem.Calls PyProof.Rows

/-- a def of the program's top, by its place -/
def fnParts (p : Program) (i : Nat) : Option (Str × Arguments × List Stmt × Scope) := match p.main.body[i]? with
  | some (.FunctionDef n a b _ _ _ sc _ _ _) => some (n, a, b, sc)
  | _ => none
def fnName (p : Program) (i : Nat) : Str := match fnParts p i with | some x => x.1 | none => Str.empty
def fnParams (p : Program) (i : Nat) : Arguments := match fnParts p i with | some x => x.2.1 | none => ⟨[], [], none, [], [], none, []⟩
def fnBody (p : Program) (i : Nat) : List Stmt := match fnParts p i with | some x => x.2.2.1 | none => []
def fnScope (p : Program) (i : Nat) : Scope := match fnParts p i with | some x => x.2.2.2 | none => ⟨.function, [], false, false, []⟩

/-- def i stands at its name -/
def FnAt (p : Program) (mg : Str → Option Value) (h : Heap) (i : Nat) : Prop :=
  ∃ f c' o pm doc, mg (fnName p i) = some (.ref f) ∧ h.get? f = some o ∧ o.data = .func (docDef (fnName p i) (fnParams p i) (fnBody p i) (fnScope p i) pm (.ref c') doc) ∧ h.CodeRec (.ref c') (fnName p i)

def builtinsUsed : List Str := ["len", "range", "sum", "enumerate", "abs", "int", "divmod", "bytes"]

/-- the module's names, as they stand -/
structure Gl (p : Program) (fns : List Nat) (h : Heap) : Prop where
  ex : ∃ mg mb, h.Ns mainGlobals mg ∧ h.Ns builtinsNs mb ∧ h.NoLimit ∧ (∀ x ∈ builtinsUsed, mg x = none ∧ mb x = bootBuiltins x) ∧ ∀ i ∈ fns, FnAt p mg h i

theorem Gl.keep {p : Program} {fns : List Nat} {h h' : Heap} (G : Gl p fns h) (k : Grow h h') : Gl p fns h' := by
  obtain ⟨mg, mb, h1, h2, h3, h4, h5⟩ := G.ex
  refine ⟨mg, mb, h1.keeps k, h2.keeps k, h3.keeps k, h4, fun i hi => ?_⟩
  obtain ⟨f, c', o, pm, doc, e1, e2, e3, e4⟩ := h5 i hi
  exact ⟨f, c', o, pm, doc, e1, k _ _ e2, e3, e4.keeps k⟩

/-- room for k calls within each other -/
structure AOk (k : Nat) (A : Around) : Prop where
  handled : A.handled = none
  depth : A.depth + k < 900
  units : A.units + 10 * k < 9000
theorem AOk.deeper {k : Nat} {A : Around} (h : AOk (k + 1) A) (env : Env) : AOk k (A.deeper env) :=
  ⟨h.handled, by have := h.depth; show A.depth + 1 + k < 900; omega, by have := h.units; show A.units + 3 + 10 * k < 9000; omega⟩
theorem AOk.less {k j : Nat} {A : Around} (h : AOk k A) (hj : j ≤ k) : AOk j A := ⟨h.handled, by have := h.depth; omega, by have := h.units; omega⟩
theorem AOk.room {k : Nat} {A : Around} (h : AOk k A) : A.depth < recursionLimit := by have := h.depth; unfold recursionLimit; omega
theorem AOk.units' {k : Nat} {A : Around} (h : AOk k A) : A.units + 64 < cLine := by have := h.units; unfold cLine; omega

section
variable (prog : Program) (w : World) (A : Around) (env : Env) (b : Shared) (X : Addr → Prop)
/-- arguments, one after the other -/
def EvArgs (es : List Expr) (ps : List PV) : Prop :=
  ∀ (pos : Pos) (s : Shared) (E : Value → Shared → Prop) (Q : List Value → Shared → Prop), Keeps b s → (∀ vs s', Keeps s s' → RepL X s'.heap ps vs → Q vs s') → wpAny (model prog w) A (spliced (backTo pos (starEach es env))) Q E s
/-- the callee, what stands for ps given: what stands for r is handed back -/
def CallTo (f : Value) (ps : List PV) (r : PV) : Prop :=
  ∀ (s : Shared) (vs : List Value) (E : Value → Shared → Prop) (Q : Value → Shared → Prop), Keeps b s → RepL X s.heap ps vs → (∀ v s', Keeps s s' → Rep X s'.heap r v → Q v s') → wpAny (model prog w) A (call f vs) Q E s
end

section
variable {prog : Program} {w : World} {A : Around} {env : Env} {b : Shared} {X : Addr → Prop} {fns : List Nat}
theorem se_Constant {x0 x1 x2} {rest : List Expr} {env : Env} : starEach (Expr.Constant x0 x1 x2 :: rest) env = (false, eval (Expr.Constant x0 x1 x2) env) :: starEach rest env := rfl
theorem se_Name {x0 x1} {rest : List Expr} {env : Env} : starEach (Expr.Name x0 x1 :: rest) env = (false, eval (Expr.Name x0 x1) env) :: starEach rest env := rfl
theorem se_ListComp {x0 x1 x2 x3} {rest : List Expr} {env : Env} : starEach (Expr.ListComp x0 x1 x2 x3 :: rest) env = (false, eval (Expr.ListComp x0 x1 x2 x3) env) :: starEach rest env := rfl
theorem se_BinOp {x0 x1 x2 x3} {rest : List Expr} {env : Env} : starEach (Expr.BinOp x0 x1 x2 x3 :: rest) env = (false, eval (Expr.BinOp x0 x1 x2 x3) env) :: starEach rest env := rfl
theorem se_Call {x0 x1 x2 x3} {rest : List Expr} {env : Env} : starEach (Expr.Call x0 x1 x2 x3 :: rest) env = (false, eval (Expr.Call x0 x1 x2 x3) env) :: starEach rest env := rfl
theorem se_Subscript {x0 x1 x2} {rest : List Expr} {env : Env} : starEach (Expr.Subscript x0 x1 x2 :: rest) env = (false, eval (Expr.Subscript x0 x1 x2) env) :: starEach rest env := rfl
theorem se_UnaryOp {x0 x1 x2} {rest : List Expr} {env : Env} : starEach (Expr.UnaryOp x0 x1 x2 :: rest) env = (false, eval (Expr.UnaryOp x0 x1 x2) env) :: starEach rest env := rfl
theorem se_List {x0 x1} {rest : List Expr} {env : Env} : starEach (Expr.List x0 x1 :: rest) env = (false, eval (Expr.List x0 x1) env) :: starEach rest env := rfl
theorem se_Compare {x0 x1 x2 x3} {rest : List Expr} {env : Env} : starEach (Expr.Compare x0 x1 x2 x3 :: rest) env = (false, eval (Expr.Compare x0 x1 x2 x3) env) :: starEach rest env := rfl
theorem se_BoolOp {x0 x1 x2} {rest : List Expr} {env : Env} : starEach (Expr.BoolOp x0 x1 x2 :: rest) env = (false, eval (Expr.BoolOp x0 x1 x2) env) :: starEach rest env := rfl
theorem se_IfExp {x0 x1 x2 x3} {rest : List Expr} {env : Env} : starEach (Expr.IfExp x0 x1 x2 x3 :: rest) env = (false, eval (Expr.IfExp x0 x1 x2 x3) env) :: starEach rest env := rfl
theorem evArgs_nil : EvArgs prog w A env b X [] [] := fun pos s E Q _ hQ => args_nil (hQ [] s (keeps_refl s) (by simp only [RepL]))
theorem evArgs_cons {e : Expr} {es : List Expr} {p : PV} {ps : List PV} (h1 : Ev prog w A env b X e p) (h2 : EvArgs prog w A env b X es ps)
    (he : starEach (e :: es) env = (false, eval e env) :: starEach es env := by first | exact se_Constant | exact se_Name | exact se_ListComp | exact se_BinOp | exact se_Call | exact se_Subscript | exact se_UnaryOp | exact se_List | exact se_Compare | exact se_BoolOp | exact se_IfExp | rfl) : EvArgs prog w A env b X (e :: es) (p :: ps) := fun pos s E Q hb hQ =>
  args_cons (h1 s E _ hb fun v s' k r => h2 pos s' E _ (keeps_trans hb k) fun vs s'' k' r' => hQ _ s'' (keeps_trans k k') (by simp only [RepL]; exact ⟨v, vs, rfl, r.keep (keeps_grow k'), r'⟩)) he

theorem name_global {M : Model} {mg : Str → Option Value} {E : Value → Shared → Prop} {s : Shared} {Q : Value → Shared → Prop} {x : Str} {pos : Pos} {v : Value} (hg : s.heap.Ns mainGlobals mg) (hv : mg x = some v) (h : Q v s)
    (hk : env.scope.kind = .function) (hx : env.kindOf x = some .globalImplicit) (hm : env.globals = mainGlobals) (hd : (x == ("__debug__" : Str)) = false) : wpAny M A (eval (.Name x pos) env) Q E s :=
  Name_function_global hk hx (loadGlobal_global (hm ▸ hg) hv h) hd
theorem name_builtin {M : Model} {E : Value → Shared → Prop} {s : Shared} {Q : Value → Shared → Prop} {x : Str} {pos : Pos} {v : Value} (G : Gl prog fns s.heap) (hin : x ∈ builtinsUsed) (hv : bootBuiltins x = some v) (h : Q v s)
    (hk : env.scope.kind = .function) (hx : env.kindOf x = some .globalImplicit) (hm : env.globals = mainGlobals) (hb : env.builtins = builtinsNs) (hd : (x == ("__debug__" : Str)) = false) : wpAny M A (eval (.Name x pos) env) Q E s := by
  obtain ⟨mg, mb, h1, h2, _, h4, _⟩ := G.ex
  obtain ⟨e1, e2⟩ := h4 x hin
  exact Name_function_global hk hx (loadGlobal_builtin (hm ▸ h1) e1 (hb ▸ h2) (e2.trans hv) h) hd

/-- a call of a built-in function -/
theorem ev_builtin {x : Str} {id : String} {px pos : Pos} {e : Expr} {es : List Expr} {ps : List PV} {r : PV} (G : Gl prog fns b.heap) (hin : x ∈ builtinsUsed) (hv : bootBuiltins x = some (.builtin id))
    (ha : EvArgs prog w A env b X (e :: es) ps) (hc : CallTo prog w A b X (.builtin id) ps r)
    (hk : env.scope.kind = .function := by rfl) (hx : env.kindOf x = some .globalImplicit := by rfl) (hm : env.globals = mainGlobals := by rfl) (hbn : env.builtins = builtinsNs := by rfl) (hd : (x == ("__debug__" : Str)) = false := by decide)
    (he : starEach (e :: es) env = (false, eval e env) :: starEach es env := by first | exact se_Constant | exact se_Name | exact se_ListComp | exact se_BinOp | exact se_Call | exact se_Subscript | exact se_UnaryOp | exact se_List | exact se_Compare | exact se_BoolOp | exact se_IfExp | rfl) (hplain : ∀ pos, (backTo pos (starEach es env)).any (·.1) = false := by intro _; rfl) :
    Ev prog w A env b X (.Call (.Name x px) (e :: es) [] pos) r := fun s E Q hb hQ =>
  Call_ (name_builtin (G.keep (keeps_grow hb)) hin hv (callWith_builtin1 (ha pos s E _ hb fun vs s' k rs => hc s' vs E Q (keeps_trans hb k) rs fun v s'' k' r' => hQ v s'' (keeps_trans k k') r') he (hplain pos)) hk hx hm hbn hd) (by rfl)

theorem callWith_type1 {M : Model} {E : Value → Shared → Prop} {s : Shared} {pos : Pos} {T : String} {e : Expr} {rest : List Expr} {Q : Value → Shared → Prop}
    (h : wpAny M A (spliced (backTo pos (starEach (e :: rest) env))) (fun vs s₁ => wpAny M A (call (.type T) vs) Q E s₁) E s)
    (he : starEach (e :: rest) env = (false, eval e env) :: starEach rest env) (hplain : (backTo pos (starEach rest env)).any (·.1) = false) :
    wpAny M A (callWith pos (.type T) [] (backTo pos (starEach (e :: rest) env)) []) Q E s := by
  rw [he] at h ⊢
  exact PySem.callWith_type (by show (false || (backTo pos (starEach rest env)).any (·.1)) = false; rw [hplain]; rfl) (evalArgs_plain h)
/-- a call of a built-in type -/
theorem ev_type {x : Str} {T : String} {px pos : Pos} {e : Expr} {es : List Expr} {ps : List PV} {r : PV} (G : Gl prog fns b.heap) (hin : x ∈ builtinsUsed) (hv : bootBuiltins x = some (.type T))
    (ha : EvArgs prog w A env b X (e :: es) ps) (hc : CallTo prog w A b X (.type T) ps r)
    (hk : env.scope.kind = .function := by rfl) (hx : env.kindOf x = some .globalImplicit := by rfl) (hm : env.globals = mainGlobals := by rfl) (hbn : env.builtins = builtinsNs := by rfl) (hd : (x == ("__debug__" : Str)) = false := by decide)
    (he : starEach (e :: es) env = (false, eval e env) :: starEach es env := by first | exact se_Constant | exact se_Name | exact se_ListComp | exact se_BinOp | exact se_Call | exact se_Subscript | exact se_UnaryOp | exact se_List | exact se_Compare | exact se_BoolOp | exact se_IfExp | rfl) (hplain : ∀ pos, (backTo pos (starEach es env)).any (·.1) = false := by intro _; rfl) :
    Ev prog w A env b X (.Call (.Name x px) (e :: es) [] pos) r := fun s E Q hb hQ =>
  Call_ (name_builtin (G.keep (keeps_grow hb)) hin hv (callWith_type1 (ha pos s E _ hb fun vs s' k rs => hc s' vs E Q (keeps_trans hb k) rs fun v s'' k' r' => hQ v s'' (keeps_trans k k') r') he (hplain pos)) hk hx hm hbn hd) (by rfl)

/-- def i of the program, ps given, hands back r -/
def Fn (prog : Program) (w : World) (fns : List Nat) (k i : Nat) (ps : List PV) (r : PV) : Prop :=
  ∀ (A : Around) (X : Addr → Prop) (s : Shared) (vs : List Value) (f c' : Addr) (o : Obj) (pm doc : Value) (E : Value → Shared → Prop) (Q : Value → Shared → Prop), AOk k A → Gl prog fns s.heap → (∀ a, X a → ∃ o, s.heap.get? a = some o) →
    s.heap.get? f = some o → o.data = .func (docDef (fnName prog i) (fnParams prog i) (fnBody prog i) (fnScope prog i) pm (.ref c') doc) → s.heap.CodeRec (.ref c') (fnName prog i) → RepL X s.heap ps vs →
    (∀ v s', Keeps s s' → Rep X s'.heap r v → Q v s') → wpAny (model prog w) A (call (.ref f) vs) Q E s


/-- a call of a def -/
theorem ev_call {i k : Nat} {px pos : Pos} {e : Expr} {es : List Expr} {ps : List PV} {r : PV} {x : Str} (hF : Fn prog w fns k i ps r) (G : Gl prog fns b.heap) (hi : i ∈ fns) (hA : AOk k A) (hX : ∀ a, X a → ∃ o, b.heap.get? a = some o)
    (ha : EvArgs prog w A env b X (e :: es) ps) (hxn : x = fnName prog i := by rfl)
    (hk : env.scope.kind = .function := by rfl) (hx : env.kindOf x = some .globalImplicit := by rfl) (hm : env.globals = mainGlobals := by rfl) (hd : (x == ("__debug__" : Str)) = false := by decide)
    (he : starEach (e :: es) env = (false, eval e env) :: starEach es env := by first | exact se_Constant | exact se_Name | exact se_ListComp | exact se_BinOp | exact se_Call | exact se_Subscript | exact se_UnaryOp | exact se_List | exact se_Compare | exact se_BoolOp | exact se_IfExp | rfl) :
    Ev prog w A env b X (.Call (.Name x px) (e :: es) [] pos) r := fun s E Q hb hQ => by
  have G' := G.keep (keeps_grow hb)
  obtain ⟨mg, mb, h1, _, _, _, h5⟩ := G'.ex
  obtain ⟨f, c', o, pm, doc, e1, e2, e3, e4⟩ := h5 i hi
  refine Call_ (name_global h1 (hxn ▸ e1) ?_ hk hx hm hd) (by rfl)
  refine callWith_def e3 (ha pos s E _ hb fun vs s' k' rs => ?_) he
  have e2' := keeps_grow k' _ _ e2
  exact ⟨e2', hF A X s' vs f c' o pm doc E Q hA (G'.keep (keeps_grow k')) (fun a xa => by
    obtain ⟨o', ho⟩ := hX a xa
    exact ⟨o', keeps_grow (keeps_trans hb k') _ _ ho⟩) e2' e3 (e4.keeps (keeps_grow k')) rs fun v s'' k'' r' => hQ v s'' (keeps_trans k' k'') r'⟩

/-- the frame's end: what is handed back -/
def Ret (s₀ : Shared) (X : Addr → Prop) (r : PV) (f : Flow) (s' : Shared) : Prop := ∃ v, f = .ret v ∧ Keeps s₀ s' ∧ Rep X s'.heap r v

theorem bindL_off (kind : Str → Option NameKind) : ∀ (binds : List (Str × Value)) (m : Str → Option Value) (x : Str), (∀ y ∈ binds, y.1 ≠ x) → bindL kind binds m x = m x
  | [], _, _, _ => rfl
  | (n, v) :: r, m, x, h => by
    unfold bindL
    rw [bindL_off kind r _ x fun y hy => h y (.tail _ hy)]
    have hn : ¬ x = n := fun e => h (n, v) (.head _) e.symm
    split <;> simp [hn]
theorem bindC_off (kind : Str → Option NameKind) : ∀ (binds : List (Str × Value)) (m : Str → Option Value) (x : Str), (∀ y ∈ binds, y.1 ≠ x) → bindC kind binds m x = m x
  | [], _, _, _ => rfl
  | (n, v) :: r, m, x, h => by
    unfold bindC
    rw [bindC_off kind r _ x fun y hy => h y (.tail _ hy)]
    have hn : ¬ x = n := fun e => h (n, v) (.head _) e.symm
    split <;> simp [hn]
theorem var_bind : ∀ (names : List Str) (vs : List Value) (m cm : Str → Option Value) (h : Heap) (ps : List PV), RepL X h ps vs → names.length = ps.length → names.Nodup →
    (∀ x ∈ names, env.kindOf x = some .local ∨ (env.kindOf x = some .cell ∧ (env.cells.lookup x).isSome = true)) → ∀ x p, (names.zip ps).lookup x = some p →
    ∃ v, VarOf env (bindL env.kindOf (names.zip vs) m) (bindC env.kindOf (names.zip vs) cm) x = some v ∧ Rep X h p v
  | [], _, _, _, _, _, _, _, _, _, x, p, e => by simp at e
  | n :: names, vs, m, cm, h, [], _, hl, _, _, _, _, _ => by simp at hl
  | n :: names, vs, m, cm, h, q :: ps, hr, hl, hnd, hk, x, p, e => by
    simp only [RepL] at hr
    obtain ⟨v, us, rfl, r1, r2⟩ := hr
    have hnd' := List.nodup_cons.mp hnd
    simp only [List.zip_cons_cons] at e ⊢
    rcases lookup_cons_of e with ⟨rfl, rfl⟩ | ⟨hx, e⟩
    · refine ⟨v, ?_, r1⟩
      have off : ∀ y ∈ names.zip us, y.1 ≠ x := fun y hy hyx => hnd'.1 (hyx ▸ (List.of_mem_zip (a := y.1) (b := y.2) hy).1)
      unfold VarOf
      rcases hk x (.head _) with hx | ⟨hx, hc⟩
      · rw [hx]
        simp only
        unfold bindL
        rw [bindL_off _ _ _ _ off, if_pos hx]
        simp
      · rw [hx]
        simp only [hc, if_true]
        unfold bindC
        rw [bindC_off _ _ _ _ off, if_neg (by rw [hx]; decide)]
        simp
    · unfold bindL bindC
      exact var_bind names us _ _ h ps r2 (by simpa using hl) hnd'.2 (fun y hy => hk y (.tail _ hy)) x p e

/-- the same, whatever is asked of the call's end -/
def FnK (prog : Program) (w : World) (fns : List Nat) (k i : Nat) (ps : List PV) (r : PV) : Prop :=
  ∀ (A : Around) (X : Addr → Prop) (s : Shared) (vs : List Value) (f c' : Addr) (o : Obj) (pm doc : Value) (R : Result → Shared → Prop), AOk k A → Gl prog fns s.heap → (∀ a, X a → ∃ o, s.heap.get? a = some o) →
    s.heap.get? f = some o → o.data = .func (docDef (fnName prog i) (fnParams prog i) (fnBody prog i) (fnScope prog i) pm (.ref c') doc) → s.heap.CodeRec (.ref c') (fnName prog i) → RepL X s.heap ps vs →
    (∀ v s', Keeps s s' → Rep X s'.heap r v → R (.ok (.ret v)) s') → codeAny (model prog w) A (.call (.ref f) ⟨vs, []⟩) R s
theorem FnK.fn {k i : Nat} {ps : List PV} {r : PV} (h : FnK prog w fns k i ps r) : Fn prog w fns k i ps r := fun A X s vs f c' o pm doc E Q hA G hX ho hd hcd hrs hQ =>
  wpAny_call (h A X s vs f c' o pm doc _ hA G hX ho hd hcd hrs hQ)
/-- a def does what it does if its body does -/
theorem fnK_of {i k : Nat} {names : List Str} {ps : List PV} {r : PV}
    (hbind : ∀ (pm cd doc : Value) (vs : List Value), vs.length = names.length → bindArgs (docDef (fnName prog i) (fnParams prog i) (fnBody prog i) (fnScope prog i) pm cd doc) ⟨vs, []⟩ = pure (names.zip vs))
    (hnd : names.Nodup) (hlen : names.length = ps.length)
    (hkind : ∀ n, ∀ x ∈ names, (fnScope prog i).names.lookup x = some .local ∨ ((fnScope prog i).names.lookup x = some .cell ∧ ((cellsFrom n (fnScope prog i).names []).lookup x).isSome = true))
    (h : ∀ (A : Around) (X : Addr → Prop) (s s₁ : Shared) (f c' : Addr) (pm doc : Value), AOk k A → Gl prog fns s.heap → (∀ a, X a → ∃ o, s.heap.get? a = some o) →
      In s s.heap.get? (callEnvC (docDef (fnName prog i) (fnParams prog i) (fnBody prog i) (fnScope prog i) pm (.ref c') doc) s.heap.objs.size f) X (names.zip ps) none s₁ →
      wpAny (model prog w) A (execs (fnBody prog i) (callEnvC (docDef (fnName prog i) (fnParams prog i) (fnBody prog i) (fnScope prog i) pm (.ref c') doc) s.heap.objs.size f)) (Ret s X r) (fun _ _ => False) s₁)
    (hco : (fnScope prog i).isCoroutine = false := by rfl) (hgen : (fnScope prog i).isGenerator = false := by rfl) (hk : (fnScope prog i).kind = .function := by rfl) :
    FnK prog w fns (k + 1) i ps r := fun A X s vs f c' o pm doc R hA G hX ho hd hcd hrs hQ => by
  have hvl : vs.length = names.length := by rw [hrs.length, hlen]
  obtain ⟨_, _, _, _, hlim, _⟩ := G.ex
  have hkinds : ∀ n, ∀ x ∈ names.zip vs, (fnScope prog i).names.lookup x.1 = some .local ∨ ((fnScope prog i).names.lookup x.1 = some .cell ∧ ((cellsFrom n (fnScope prog i).names []).lookup x.1).isSome = true) := fun n x hx =>
    hkind n x.1 (List.of_mem_zip (a := x.1) (b := x.2) hx).1
  refine codeAny_call_cells (fd := docDef (fnName prog i) (fnParams prog i) (fnBody prog i) (fnScope prog i) pm (.ref c') doc) (body := fnBody prog i) (binds := names.zip vs) hA.room ho hd hlim hcd rfl (hbind _ _ _ vs hvl) rfl
    (hkinds _) (fun s₁ x => ?_) hco hgen hk
  have k₁ : Keeps s s₁ := by
    obtain ⟨h', tk, e, hk⟩ := x.done
    exact ⟨h', tk, e, hk⟩
  have none_of : ∀ a, s.heap.objs.size ≤ a → s.heap.get? a = none := fun a ha => by
    cases e : s.heap.get? a with
    | none => rfl
    | some o => exact absurd (Heap.lt_size e) (Nat.not_lt.mpr ha)
  have hL := none_of _ x.toInCall.fresh
  refine wpAny_mono (h (A.deeper _) X s s₁ f c' pm doc (hA.deeper _) G hX ⟨hk, _, _, ⟨x.toInCall.same, fun _ _ e => e, x.toInCall.keep, x.toInCall.ns, hL, x.cell, fun n n' c h1 h2 => name_of_addr x.apart (mem_of_lookup h1) (mem_of_lookup h2),
    fun n c h1 => ⟨none_of c (Nat.le_of_lt (Nat.lt_of_le_of_lt x.toInCall.fresh (x.above n c (mem_of_lookup h1)))), Nat.ne_of_gt (x.above n c (mem_of_lookup h1))⟩⟩, fun y p e => ?_, fun _ _ _ e => nomatch e⟩) (fun fl s' hr => ?_) fun _ _ e => e.elim
  · exact var_bind (env := callEnvC (docDef (fnName prog i) (fnParams prog i) (fnBody prog i) (fnScope prog i) pm (.ref c') doc) s.heap.objs.size f) names vs _ _ s₁.heap ps (hrs.keep (keeps_grow k₁)) hlen hnd (fun y hy => hkind _ y hy) y p e
  · obtain ⟨v, rfl, kk, rr⟩ := hr
    exact hQ v s' kk rr

theorem fn_of {i k : Nat} {names : List Str} {ps : List PV} {r : PV}
    (hbind : ∀ (pm cd doc : Value) (vs : List Value), vs.length = names.length → bindArgs (docDef (fnName prog i) (fnParams prog i) (fnBody prog i) (fnScope prog i) pm cd doc) ⟨vs, []⟩ = pure (names.zip vs))
    (hnd : names.Nodup) (hlen : names.length = ps.length)
    (hkind : ∀ n, ∀ x ∈ names, (fnScope prog i).names.lookup x = some .local ∨ ((fnScope prog i).names.lookup x = some .cell ∧ ((cellsFrom n (fnScope prog i).names []).lookup x).isSome = true))
    (h : ∀ (A : Around) (X : Addr → Prop) (s s₁ : Shared) (f c' : Addr) (pm doc : Value), AOk k A → Gl prog fns s.heap → (∀ a, X a → ∃ o, s.heap.get? a = some o) →
      In s s.heap.get? (callEnvC (docDef (fnName prog i) (fnParams prog i) (fnBody prog i) (fnScope prog i) pm (.ref c') doc) s.heap.objs.size f) X (names.zip ps) none s₁ →
      wpAny (model prog w) A (execs (fnBody prog i) (callEnvC (docDef (fnName prog i) (fnParams prog i) (fnBody prog i) (fnScope prog i) pm (.ref c') doc) s.heap.objs.size f)) (Ret s X r) (fun _ _ => False) s₁)
    (hco : (fnScope prog i).isCoroutine = false := by rfl) (hgen : (fnScope prog i).isGenerator = false := by rfl) (hk : (fnScope prog i).kind = .function := by rfl) :
    Fn prog w fns (k + 1) i ps r := (fnK_of hbind hnd hlen hkind h hco hgen hk).fn

theorem ex_ret {s₀ s : Shared} {B : Addr → Option Obj} {Y : Addr → Prop} {σ : List (Str × PV)} {own : Option (Str × Addr × List PV)} {E : Value → Shared → Prop} {rest : List Stmt} {pos : Pos} {e : Expr} {p : PV} (I : In s₀ B env Y σ own s) (he : Ev prog w A env s Y e p)
    (hXY : ∀ a, X a → Y a) : wpAny (model prog w) A (execs (.Return (some e) pos :: rest) env) (Ret s₀ X p) E s :=
  ex_return he fun v s' k r => ⟨v, rfl, keeps_trans I.keeps k, r.mono (fun _ _ _ e _ => e) fun a _ _ x => hXY a x⟩
/-- the own list is handed back -/
theorem ex_ret_own {s₀ s : Shared} {B : Addr → Option Obj} {Y : Addr → Prop} {σ : List (Str × PV)} {y : Str} {a : Addr} {ps : List PV} {E : Value → Shared → Prop} {rest : List Stmt} {pos px : Pos} (I : In s₀ B env Y σ (some (y, a, ps)) s)
    (hXY : ∀ a, X a → Y a) (hX : ∀ a, X a → ∃ o, s₀.heap.get? a = some o) (hd : (y == ("__debug__" : Str)) = false := by decide) : wpAny (model prog w) A (execs (.Return (some (.Name y px)) pos :: rest) env) (Ret s₀ X (.list ps)) E s :=
  wpAny_execs_cons (wpAny_Return_some (by
    obtain ⟨fn, m, cm, c, hv, ho⟩ := id I
    obtain ⟨h1, h2, h3, vs, h4, h5⟩ := ho y a ps rfl
    refine wpAny_name_var fn c h3 ⟨_, rfl, I.keeps, ?_⟩ hd
    simp only [Rep]
    exact ⟨a, vs, rfl, fun x => (by obtain ⟨o, e⟩ := hX a x; rw [c.base a o e] at h2; cases h2), h4.isList, h5.mono (fun _ _ _ e _ => e) fun b _ _ x => hXY b x⟩))
end
end Mine
end

-- part B5
section
namespace Mine
open PySem PySem.Calls PyProof.Rows

/-- the addresses X are taken -/
abbrev XOk (X : Addr → Prop) (b : Shared) : Prop := ∀ a, X a → ∃ o, b.heap.get? a = some o
theorem XOk.keep {X : Addr → Prop} {b s : Shared} (h : XOk X b) (k : Keeps b s) : XOk X s := fun a x => let ⟨o, e⟩ := h a x; ⟨o, keeps_grow k a o e⟩
theorem XOk.off {X : Addr → Prop} {b : Shared} (h : XOk X b) {a : Addr} (ha : b.heap.get? a = none) : ¬ X a := fun x => by
  obtain ⟨o, e⟩ := h a x
  rw [ha] at e; cases e
theorem fresh_size {s s' : Shared} (k : Keeps s s') : s.heap.get? s'.heap.objs.size = none := by
  cases e : s.heap.get? s'.heap.objs.size with
  | none => rfl
  | some o => exact absurd (Heap.lt_size (keeps_grow k _ _ e)) (Nat.lt_irrefl _)
theorem fresh_back {s s' : Shared} (k : Keeps s s') {a : Addr} (h : s'.heap.get? a = none) : s.heap.get? a = none := by
  cases e : s.heap.get? a with
  | none => rfl
  | some o => rw [keeps_grow k _ _ e] at h; cases h

theorem RepL.newer {X : Addr → Prop} {h h' : Heap} {a : Addr} {ps : List PV} {vs : List Value} (r : RepL X h ps vs) (ha : h.get? a = none) (hk : Grow h h') : RepL (fun b => X b ∨ b = a) h' ps vs :=
  r.mono (fun b o _ e _ => hk b o e) fun b o e hb => by
    rcases hb with hb | rfl
    · exact hb
    · rw [ha] at e; cases e
theorem RepL.older {X : Addr → Prop} {h : Heap} {a : Addr} {ps : List PV} {vs : List Value} (r : RepL (fun b => X b ∨ b = a) h ps vs) : RepL X h ps vs := r.mono (fun _ _ _ e _ => e) fun _ _ _ x => .inl x
theorem none_size (h : Heap) : h.get? h.objs.size = none := by
  cases e : h.get? h.objs.size with
  | none => rfl
  | some o => exact absurd (Heap.lt_size e) (Nat.lt_irrefl _)
section
variable (prog : Program) (w : World) (A : Around) (env : Env) (b : Shared) (X : Addr → Prop)
/-- e makes a new list of ps -/
def EvNew (e : Expr) (ps : List PV) : Prop :=
  ∀ (s : Shared) (E : Value → Shared → Prop) (Q : Value → Shared → Prop), Keeps b s → (∀ a vs s', Keeps s s' → s.heap.get? a = none → s'.heap.PlainList a vs.toArray → RepL (fun b => X b ∨ b = a) s'.heap ps vs → Q (.ref a) s') → wpAny (model prog w) A (eval e env) Q E s
/-- a bound of a slice -/
def EvPart (e : Option Expr) (i : Option Int) : Prop :=
  ∀ (s : Shared) (E : Value → Shared → Prop) (Q : Value → Shared → Prop), Keeps b s → (∀ v s', Keeps s s' → IsPart v i → Q v s') → wpAny (model prog w) A (evalPart e env) Q E s
end

def pick {α : Type} (xs : List α) (lo hi st : Option Int) : List α := (sliceRange (sliceBounds lo hi st xs.length).1 (sliceBounds lo hi st xs.length).2.1 (sliceBounds lo hi st xs.length).2.2).filterMap (xs[·]?)
theorem slicePick_list (vs : List Value) (lo hi st : Option Int) : slicePick vs.toArray lo hi st = (pick vs lo hi st).toArray := by
  unfold slicePick pick
  simp
theorem RepL.filterMap {X : Addr → Prop} {h : Heap} {ps : List PV} {vs : List Value} (r : RepL X h ps vs) : ∀ is : List Nat, RepL X h (is.filterMap (ps[·]?)) (is.filterMap (vs[·]?))
  | [] => by simp [RepL]
  | i :: is => by
    have ih := RepL.filterMap r is
    cases e : ps[i]? with
    | none =>
      have e' : vs[i]? = none := by
        rw [List.getElem?_eq_none_iff] at e ⊢
        rw [r.length]; exact e
      rw [List.filterMap_cons_none e, List.filterMap_cons_none e']
      exact ih
    | some p =>
      obtain ⟨v, e', rv⟩ := r.get e
      rw [List.filterMap_cons_some e, List.filterMap_cons_some e']
      simp only [RepL]
      exact ⟨v, _, rfl, rv, ih⟩
theorem RepL.pick {X : Addr → Prop} {h : Heap} {ps : List PV} {vs : List Value} (r : RepL X h ps vs) (lo hi st : Option Int) : RepL X h (pick ps lo hi st) (pick vs lo hi st) := by
  unfold Mine.pick
  rw [r.length]
  exact r.filterMap _

section
variable {prog : Program} {w : World} {A : Around} {env : Env} {b : Shared} {X : Addr → Prop} {fns : List Nat}

theorem keeps_push (s : Shared) (o : Obj) (k : Nat) : Keeps s { s with heap := s.heap.push o, toks := k } := keeps_of s _ _ (Grow.push _ _)
theorem keeps_push' (s : Shared) (o : Obj) : Keeps s { s with heap := s.heap.push o } := keeps_of s _ s.toks (Grow.push _ _)

theorem EvNew.ev {e : Expr} {ps : List PV} (h : EvNew prog w A env b X e ps) (hX : XOk X b) : Ev prog w A env b X e (.list ps) := fun s E Q hb hQ =>
  h s E Q hb fun a vs s' k ha hp hr => hQ _ s' k (by
    simp only [Rep]
    exact ⟨a, vs, rfl, (hX.keep hb).off ha, hp.isList, hr.older⟩)
theorem evNew_list {es : List Expr} {pos : Pos} {ps : List PV} (h : EvArgs prog w A env b X es ps) (hsz : ps.length ≤ 16777216) : EvNew prog w A env b X (.List es pos) ps := fun s E Q hb hQ =>
  List_ (h pos s E _ hb fun vs s' k r => wpAny_newList (hQ _ vs _ (keeps_trans k (keeps_push' s' _)) (fresh_size k) ⟨0, Heap.get?_push_size _ rfl⟩ (r.newer (none_size _) (Grow.push _ _))) (by rw [r.length, sizeLine_eq]; exact hsz))
theorem ev_list {es : List Expr} {pos : Pos} {ps : List PV} (h : EvArgs prog w A env b X es ps) (hX : XOk X b) (hsz : ps.length ≤ 16777216) : Ev prog w A env b X (.List es pos) (.list ps) := (evNew_list h hsz).ev hX

theorem ev_bytes {l : List UInt8} {k : Nat} {pos : Pos} : Ev prog w A env b X (.Constant (.bytes l) k pos) (.bytes (l.map fun c => (c.toNat : Int))) := fun s E Q hb hQ => by
  rw [arm_eval_Constant]
  show wpAny _ A (mkTextBytes l.toArray) Q E s
  unfold mkTextBytes
  first
    | exact wpAny_bind (wpAny_fresh (wpAny_pure (hQ _ _ (keeps_tok s _) (by simp only [Rep]; exact ⟨_, _, rfl, rfl⟩))))
    | exact wpAny_map (wpAny_fresh (hQ _ _ (keeps_tok s _) (by simp only [Rep]; exact ⟨_, _, rfl, rfl⟩)))
theorem ev_true {k : Nat} {pos : Pos} {c : Bool} : Ev prog w A env b X (.Constant (.bool c) k pos) (.bool c) := fun s E Q hb hQ => by
  rw [arm_eval_Constant]
  exact wpAny_pure (hQ _ s (keeps_refl s) (rep_bool ..))

theorem evPart_none : EvPart prog w A env b none none := fun s E Q _ hQ => wpAny_pure (hQ _ s (keeps_refl s) .none)
theorem evPart_some {e : Expr} {i : Int} (h : Ev prog w A env b X e (.int i)) : EvPart prog w A env b (some e) (some i) := fun s E Q hb hQ => h s E Q hb fun v s' k r => by
  simp only [Rep] at r
  obtain ⟨t, rfl⟩ := r
  exact hQ _ s' k (.int i t)

theorem sub_ops (slice : Expr) (o i : Value) : ∃ ops, subscripted slice false o i = operate ops (getItem o i) := by
  unfold subscripted
  split
  · exact ⟨_, rfl⟩
  · rename_i h; cases h
  · exact ⟨_, rfl⟩
theorem tail_get {value slice : Expr} {o i : Value} {T id : String} {s : Shared} {E : Value → Shared → Prop} {Q : Value → Shared → Prop} (hT : s.TypeIs o T) (hl : typeLookup (.type T) "__getitem__" = pure (some (.builtin id)))
    (h : wpAny (model prog w) A (getItem o i) Q E s) : wpAny (model prog w) A (subscriptTail value slice o i) Q E s := by
  obtain ⟨ops, hs⟩ := sub_ops slice o i
  unfold subscriptTail
  refine wpAny_bind ?_
  rw [getitemInPython_of_ne hT.not_modules]
  refine wpAny_bind (wpAny_specialOf hT hl ?_)
  refine wpAny_pure (wpAny_bind ?_)
  rw [hs]
  exact wpAny_operating (wpAny_mono h (fun r s₃ h₃ => wpAny_bind (wpAny_letTemporaryGo (wpAny_pure h₃))) fun _ _ x => x)

/-- an item of a list -/
theorem ev_item {e i : Expr} {pos : Pos} {ps : List PV} {k : Int} {p : PV} (h1 : EvO prog w A env b X e ps) (h2 : Ev prog w A env b X i (.int k)) (h0 : 0 ≤ k) (hk : k < 2 ^ 62) (hp : ps[k.toNat]? = some p) :
    Ev prog w A env b X (.Subscript e i pos) p := fun s E Q hb hQ =>
  Subscript_ (h1 s E _ hb fun a vs s' k1 hl hr => h2 s' E _ (keeps_trans hb k1) fun u s'' k2 r2 => by
    simp only [Rep] at r2
    obtain ⟨t, rfl⟩ := r2
    have hl' := hl.at fun o e => keeps_grow k2 a o e
    obtain ⟨v, hv, rv⟩ := (hr.keep (keeps_grow k2)).get hp
    exact tail_get hl'.typeIs slot_list_getitem.lookup (wpAny_getItem_list hl' h0 (by omega) (by simpa using hv) (hQ v s'' (keeps_trans k1 k2) rv)))
/-- an item of a list, from its end -/
theorem ev_item_neg {e i : Expr} {pos : Pos} {ps : List PV} {k : Int} {p : PV} (h1 : EvO prog w A env b X e ps) (h2 : Ev prog w A env b X i (.int k)) (h0 : k < 0) (hk : -(ps.length : Int) ≤ k) (hn : ps.length < 2 ^ 62) (hp : ps[(k + ps.length).toNat]? = some p) :
    Ev prog w A env b X (.Subscript e i pos) p := fun s E Q hb hQ =>
  Subscript_ (h1 s E _ hb fun a vs s' k1 hl hr => h2 s' E _ (keeps_trans hb k1) fun u s'' k2 r2 => by
    simp only [Rep] at r2
    obtain ⟨t, rfl⟩ := r2
    have hl' := hl.at fun o e => keeps_grow k2 a o e
    have hlen : vs.toArray.size = ps.length := by rw [List.size_toArray, hr.length]
    obtain ⟨v, hv, rv⟩ := (hr.keep (keeps_grow k2)).get hp
    exact tail_get hl'.typeIs slot_list_getitem.lookup (wpAny_getItem_list_neg hl' h0 (by rw [hlen]; exact hk) (by omega) (by rw [hlen]; simpa using hv) (hQ v s'' (keeps_trans k1 k2) rv)))

theorem ev_slice_obj {lo hi st : Option Expr} {p : Pos} {l u t : Option Int} (h1 : EvPart prog w A env b lo l) (h2 : EvPart prog w A env b hi u) (h3 : EvPart prog w A env b st t) (s : Shared) (E : Value → Shared → Prop) (Q : Value → Shared → Prop) (hb : Keeps b s)
    (hQ : ∀ a vl vu vt s', Keeps s s' → s'.heap.IsSliceOf a vl vu vt → IsPart vl l → IsPart vu u → IsPart vt t → Q (.ref a) s') : wpAny (model prog w) A (eval (.Slice lo hi st p) env) Q E s :=
  wpAny_Slice (h1 s E _ hb fun vl s1 k1 p1 => h2 s1 E _ (keeps_trans hb k1) fun vu s2 k2 p2 => h3 s2 E _ (keeps_trans hb (keeps_trans k1 k2)) fun vt s3 k3 p3 =>
    hQ _ vl vu vt _ (keeps_trans (keeps_trans (keeps_trans k1 k2) k3) (keeps_push' s3 _)) (Heap.IsSliceOf.new ..) p1 p2 p3)

/-- a slice of a list -/
theorem evNew_slice {e : Expr} {lo hi st : Option Expr} {p pos : Pos} {ps : List PV} {l u t : Option Int} (h0 : EvO prog w A env b X e ps) (h1 : EvPart prog w A env b lo l) (h2 : EvPart prog w A env b hi u) (h3 : EvPart prog w A env b st t) (ht : t ≠ some 0) (hn : ps.length ≤ 16777216) :
    EvNew prog w A env b X (.Subscript e (.Slice lo hi st p) pos) (pick ps l u t) := fun s E Q hb hQ =>
  Subscript_ (h0 s E _ hb fun a vs s' k1 hl hr => ev_slice_obj h1 h2 h3 s' E _ (keeps_trans hb k1) fun sl vl vu vt s2 k2 hs p1 p2 p3 => by
    have hl' := hl.at fun o e => keeps_grow k2 a o e
    have hlen : vs.toArray.size = ps.length := by rw [List.size_toArray, hr.length]
    refine tail_get hl'.typeIs slot_list_getitem.lookup (wpAny_getItem_list_slice hl' hs p1 p2 p3 ht (hQ _ (pick vs l u t) _ (keeps_trans (keeps_trans k1 k2) (keeps_push' s2 _)) (fresh_size (keeps_trans k1 k2)) ⟨0, ?_⟩ ?_) (by rw [hlen, sizeLine_eq]; exact hn))
    · rw [slicePick_list]; exact Heap.get?_push_size _ rfl
    · exact ((hr.keep (keeps_grow k2)).pick l u t).newer (none_size _) (Grow.push _ _))
theorem ev_slice {e : Expr} {lo hi st : Option Expr} {p pos : Pos} {ps : List PV} {l u t : Option Int} (h0 : EvO prog w A env b X e ps) (h1 : EvPart prog w A env b lo l) (h2 : EvPart prog w A env b hi u) (h3 : EvPart prog w A env b st t) (hX : XOk X b) (ht : t ≠ some 0) (hn : ps.length ≤ 16777216) :
    Ev prog w A env b X (.Subscript e (.Slice lo hi st p) pos) (.list (pick ps l u t)) := (evNew_slice h0 h1 h2 h3 ht hn).ev hX

theorem bytes_get {c : Array UInt8} {ks : List Int} {i : Nat} {k : Int} (h : W.KBw.bInts c = ks) (hk : ks[i]? = some k) : i < c.size ∧ ((c.toList.getD i 0).toNat : Int) = k := by
  subst h
  have hlt : i < c.size := by
    have := (List.getElem?_eq_some_iff.mp hk).1
    rwa [W.KBw.ints_length] at this
  have hg : c[i]? = some c[i] := Array.getElem?_eq_getElem hlt
  have := W.KBw.ints_get hg
  rw [hk] at this
  refine ⟨hlt, ?_⟩
  rw [Option.some.inj this]
  simp [hlt]
/-- an octet of bytes -/
theorem ev_octet {e i : Expr} {pos : Pos} {ks : List Int} {k c : Int} (h1 : Ev prog w A env b X e (.bytes ks)) (h2 : Ev prog w A env b X i (.int k)) (h0 : 0 ≤ k) (hn : ks.length ≤ 16777216) (hp : ks[k.toNat]? = some c) :
    Ev prog w A env b X (.Subscript e i pos) (.int c) := fun s E Q hb hQ =>
  Subscript_ (h1 s E _ hb fun v s' k1 r1 => h2 s' E _ (keeps_trans hb k1) fun u s'' k2 r2 => by
    simp only [Rep] at r1 r2
    obtain ⟨by', t1, rfl, hk⟩ := r1
    obtain ⟨t, rfl⟩ := r2
    obtain ⟨hlt, hc⟩ := bytes_get hk hp
    have hsz : by'.size = ks.length := by rw [← hk, W.KBw.ints_length]
    refine tail_get (W.typeIs_bytes s'' by' t1) W.FB.slot_bytes_getitem.lookup ?_
    have e : by' = by'.toList.toArray := by simp
    rw [e]
    refine W.getItem_bytes (by simp; omega) h0 (by simp; omega) ?_
    rw [hc]
    exact hQ _ _ (keeps_trans (keeps_trans k1 k2) (keeps_tok s'' _)) (rep_int ..))
end
end Mine
end

-- part B6
section
namespace Mine
open PySem PySem.Calls PyProof.Rows

theorem bInts_inj {a b : Array UInt8} (h : W.KBw.bInts a = W.KBw.bInts b) : a = b := by
  have key : ∀ l m : List UInt8, l.map (fun c => (c.toNat : Int)) = m.map (fun c => (c.toNat : Int)) → l = m := by
    intro l
    induction l with
    | nil => intro m h; cases m with
      | nil => rfl
      | cons x m => simp at h
    | cons x l ih => intro m h; cases m with
      | nil => simp at h
      | cons y m =>
        simp only [List.map_cons, List.cons.injEq] at h
        have e : x.toNat = y.toNat := by omega
        rw [UInt8.toNat_inj.mp e, ih m h.2]
  have := key a.toList b.toList h
  exact Array.toList_inj.mp this

mutual
theorem Rep.inj {X : Addr → Prop} {h : Heap} : ∀ {p q : PV} {v : Value}, Rep X h p v → Rep X h q v → p = q
  | .none, q, v, r, r' => by
    simp only [Rep] at r; subst r
    cases q <;> simp [Rep] at r' <;> rfl
  | .int i, q, v, r, r' => by
    simp only [Rep] at r; obtain ⟨t, rfl⟩ := r
    cases q <;> simp [Rep] at r'
    rw [r']
  | .bool c, q, v, r, r' => by
    simp only [Rep] at r; subst r
    cases q <;> simp [Rep] at r'
    rw [r']
  | .bytes ks, q, v, r, r' => by
    simp only [Rep] at r; obtain ⟨b, t, rfl, hk⟩ := r
    cases q with
    | bytes ls => simp only [Rep] at r'; obtain ⟨b', t', e, hl⟩ := r'; cases e; rw [← hk, ← hl]
    | _ => simp [Rep] at r'
  | .list ps, q, v, r, r' => by
    simp only [Rep] at r; obtain ⟨a, vs, rfl, _, hl, hr⟩ := r
    cases q with
    | list qs =>
      simp only [Rep] at r'
      obtain ⟨a', vs', e, _, hl', hr'⟩ := r'
      cases e
      have e : vs = vs' := by
        obtain ⟨o, ho, _, n, hd⟩ := hl
        obtain ⟨o', ho', _, n', hd'⟩ := hl'
        rw [ho] at ho'; cases ho'
        rw [hd] at hd'
        have := (Data.seq.inj hd').1
        simpa using this
      subst e
      rw [RepL.inj hr hr']
    | _ => simp [Rep] at r'
theorem RepL.inj {X : Addr → Prop} {h : Heap} : ∀ {ps qs : List PV} {vs : List Value}, RepL X h ps vs → RepL X h qs vs → ps = qs
  | [], qs, vs, r, r' => by
    simp only [RepL] at r; subst r
    cases qs with
    | nil => rfl
    | cons q qs => simp [RepL] at r'
  | p :: ps, qs, vs, r, r' => by
    simp only [RepL] at r; obtain ⟨v, us, rfl, r1, r2⟩ := r
    cases qs with
    | nil => simp [RepL] at r'
    | cons q qs =>
      simp only [RepL] at r'
      obtain ⟨v', us', e, r1', r2'⟩ := r'
      cases e
      rw [Rep.inj r1 r1', RepL.inj r2 r2']
end

/-- kinds of what is compared -/
inductive Ty where
  | int | bytes
  | list (t : Ty)
def Ty.depth : Ty → Nat
  | .list t => t.depth + 1
  | _ => 0
def HasTy : Ty → PV → Prop
  | .int, p => ∃ i, p = .int i
  | .bytes, p => ∃ ks, p = .bytes ks
  | .list t, p => ∃ ps, p = .list ps ∧ ∀ q ∈ ps, HasTy t q
theorem hasTy_ints (ns : List Int) : HasTy (.list .int) (.list (ns.map .int)) := ⟨_, rfl, fun q hq => by
  obtain ⟨n, _, rfl⟩ := List.mem_map.mp hq
  exact ⟨n, rfl⟩⟩

open SeqAt in
theorem eqAt_bytes {A : Around} {s : Shared} (b c : Array UInt8) (t u : Tok) : EqAt A s (.bytes b t) (.bytes c u) (b.toList == c.toList) := fun prog w E Q h => by
  unfold eqBool
  refine wpAny_holding ?_
  refine wpAny_ite_split (fun hab => ?_) (fun _ => ?_)
  · have e : Value.bytes b t = Value.bytes c u := eq_of_beq hab
    cases e
    exact wpAny_bind (wpAny_rule (wpAny_pure (by simpa using h)))
  · exact wpAny_bind (W.eq_bytes (Q := fun v s' => wpAny _ _ (truthOfDropped v) Q E s') (wpAny_truthy_bool h))

section
variable {prog : Program} {w : World} {A : Around} {env : Env} {b : Shared} {X : Addr → Prop} {fns : List Nat}
theorem RepL.array {h : Heap} {ps : List PV} {vs : List Value} (r : RepL X h ps vs) {j : Nat} (hj : j < vs.toArray.size) : ∃ p, ps[j]? = some p ∧ Rep X h p vs.toArray[j] :=
  r.get' (i := j) (by simp at hj ⊢)

open Classical SeqAt in
theorem eqAt_of : ∀ (τ : Ty) (A : Around) (s : Shared) (p q : PV) (v u : Value), HasTy τ p → HasTy τ q → Rep X s.heap p v → Rep X s.heap q u → A.units + τ.depth < cLine → EqAt A s v u (decide (p = q))
  | .int, A, s, p, q, v, u, hp, hq, r, r', _ => by
    obtain ⟨i, rfl⟩ := hp
    obtain ⟨j, rfl⟩ := hq
    simp only [Rep] at r r'
    obtain ⟨t, rfl⟩ := r
    obtain ⟨t', rfl⟩ := r'
    have e : decide (PV.int i = PV.int j) = (i == j) := by rw [ibeq]; simp
    rw [e]
    exact EqAt.int_int i t j t'
  | .bytes, A, s, p, q, v, u, hp, hq, r, r', _ => by
    obtain ⟨i, rfl⟩ := hp
    obtain ⟨j, rfl⟩ := hq
    simp only [Rep] at r r'
    obtain ⟨b, t, rfl, rfl⟩ := r
    obtain ⟨c, t', rfl, rfl⟩ := r'
    have e : decide (PV.bytes (W.KBw.bInts b) = PV.bytes (W.KBw.bInts c)) = (b.toList == c.toList) := by
      rw [Bool.eq_iff_iff]
      simp only [decide_eq_true_eq, PV.bytes.injEq, beq_iff_eq]
      exact ⟨fun h => by rw [bInts_inj h], fun h => by rw [Array.toList_inj.mp h]⟩
    rw [e]
    exact eqAt_bytes b c t t'
  | .list τ, A, s, p, q, v, u, hp, hq, r, r', hu => by
    obtain ⟨ps, rfl, hps⟩ := hp
    obtain ⟨qs, rfl, hqs⟩ := hq
    have rr := r
    have rr' := r'
    simp only [Rep] at r r'
    obtain ⟨a, vs, rfl, _, hl, hr⟩ := r
    obtain ⟨a', vs', rfl, _, hl', hr'⟩ := r'
    have hu' : A.units + τ.depth + 1 < cLine := hu
    by_cases haa : a = a'
    · subst haa
      have e := Rep.inj rr rr'
      rw [decide_eq_true e]
      exact EqAt.same _
    · refine EqAt.of_refs haa ?_
      by_cases hsz : ps.length = qs.length
      · have hz : vs.toArray.size = vs'.toArray.size := by simp [hr.length, hr'.length, hsz]
        have key := RcAt.lists (A := A) (e := fun j => decide (ps[j]? = qs[j]?)) hl hl' hz (by omega) fun j h1 h2 => by
          obtain ⟨p, e1, r1⟩ := hr.array h1
          obtain ⟨q, e2, r2⟩ := hr'.array h2
          have := eqAt_of τ A.in1 s p q _ _ (hps p (List.mem_of_getElem? e1)) (hqs q (List.mem_of_getElem? e2)) r1 r2 (by show A.units + 1 + τ.depth < cLine; omega)
          simp only [e1, e2, Option.some.injEq]
          exact this
        have e : decide (PV.list ps = PV.list qs) = (List.range vs.toArray.size).all fun j => decide (ps[j]? = qs[j]?) := by
          rw [Bool.eq_iff_iff]
          simp only [decide_eq_true_eq, PV.list.injEq, List.all_eq_true, List.mem_range]
          refine ⟨fun h j _ => by rw [h], fun h => List.ext_getElem? fun j => ?_⟩
          by_cases hj : j < vs.toArray.size
          · exact h j hj
          · have : vs.toArray.size = ps.length := by simp [hr.length]
            rw [List.getElem?_eq_none (by omega), List.getElem?_eq_none (by omega)]
        rw [e]
        exact key
      · have e : decide (PV.list ps = PV.list qs) = false := decide_eq_false fun h => hsz (by injection h with h; rw [h])
        rw [e]
        exact RcAt.lists_lengths hl hl' (by simp [hr.length, hr'.length, hsz]) (by omega)

theorem bool_eq_of {c d : Bool} (h : c = true ↔ d = true) : c = d := Bool.eq_iff_iff.mpr h

open Classical SeqAt in
/-- == of two lists -/
theorem cmp_eq_list {τ : Ty} {ps qs : List PV} {c : Bool} (hp : HasTy (.list τ) (.list ps)) (hq : HasTy (.list τ) (.list qs)) (hu : A.units + τ.depth + 1 < cLine) (hc : c = true ↔ ps = qs) : Cmp prog w A X .Eq (.list ps) (.list qs) c := fun s v u E Q r r' hQ => by
  simp only [Rep] at r r'
  obtain ⟨a, vs, rfl, _, hl, hr⟩ := r
  obtain ⟨a', vs', rfl, _, hl', hr'⟩ := r'
  obtain ⟨_, e1, hps⟩ := hp; cases e1
  obtain ⟨_, e1, hqs⟩ := hq; cases e1
  have fin := hQ s (keeps_refl s)
  by_cases hsz : ps.length = qs.length
  · have hz : vs.toArray.size = vs'.toArray.size := by simp [hr.length, hr'.length, hsz]
    refine eq_listAt (e := fun j => decide (ps[j]? = qs[j]?)) hl hl' hz (by omega) (fun j h1 h2 => ?_) ?_
    · obtain ⟨p, e1, r1⟩ := hr.array h1
      obtain ⟨q, e2, r2⟩ := hr'.array h2
      have := eqAt_of τ A.in1 s p q _ _ (hps p (List.mem_of_getElem? e1)) (hqs q (List.mem_of_getElem? e2)) r1 r2 (by show A.units + 1 + τ.depth < cLine; omega)
      simp only [e1, e2, Option.some.injEq]
      exact this
    · have e : ((List.range vs.toArray.size).all fun j => decide (ps[j]? = qs[j]?)) = c := by
        refine bool_eq_of ?_
        rw [hc]
        simp only [decide_eq_true_eq, List.all_eq_true, List.mem_range]
        refine ⟨fun h => List.ext_getElem? fun j => ?_, fun h j _ => by rw [h]⟩
        by_cases hj : j < vs.toArray.size
        · exact h j hj
        · have : vs.toArray.size = ps.length := by simp [hr.length]
          rw [List.getElem?_eq_none (by omega), List.getElem?_eq_none (by omega)]
      rw [e]
      exact fin
  · have e : c = false := Bool.eq_false_iff.mpr fun h => hsz (by rw [hc.mp h])
    subst e
    exact eq_list_lengthsAt hl hl' (by simp [hr.length, hr'.length, hsz]) (by omega) fin
open Classical SeqAt in
/-- != of two lists -/
theorem cmp_ne_list {τ : Ty} {ps qs : List PV} {c : Bool} (hp : HasTy (.list τ) (.list ps)) (hq : HasTy (.list τ) (.list qs)) (hu : A.units + τ.depth + 1 < cLine) (hc : c = true ↔ ps ≠ qs) : Cmp prog w A X .NotEq (.list ps) (.list qs) c := fun s v u E Q r r' hQ => by
  simp only [Rep] at r r'
  obtain ⟨a, vs, rfl, _, hl, hr⟩ := r
  obtain ⟨a', vs', rfl, _, hl', hr'⟩ := r'
  obtain ⟨_, e1, hps⟩ := hp; cases e1
  obtain ⟨_, e1, hqs⟩ := hq; cases e1
  have fin := hQ s (keeps_refl s)
  by_cases hsz : ps.length = qs.length
  · have hz : vs.toArray.size = vs'.toArray.size := by simp [hr.length, hr'.length, hsz]
    refine RcNeAt.lists (e := fun j => decide (ps[j]? = qs[j]?)) hl hl' hz (by omega) (fun j h1 h2 => ?_) prog w E Q ?_
    · obtain ⟨p, e1, r1⟩ := hr.array h1
      obtain ⟨q, e2, r2⟩ := hr'.array h2
      have := eqAt_of τ A.in1 s p q _ _ (hps p (List.mem_of_getElem? e1)) (hqs q (List.mem_of_getElem? e2)) r1 r2 (by show A.units + 1 + τ.depth < cLine; omega)
      simp only [e1, e2, Option.some.injEq]
      exact this
    · have e : (!(List.range vs.toArray.size).all fun j => decide (ps[j]? = qs[j]?)) = c := by
        refine bool_eq_of ?_
        rw [hc, Bool.not_eq_true', Bool.eq_false_iff]
        refine not_congr ?_
        simp only [decide_eq_true_eq, List.all_eq_true, List.mem_range]
        refine ⟨fun h => List.ext_getElem? fun j => ?_, fun h j _ => by rw [h]⟩
        by_cases hj : j < vs.toArray.size
        · exact h j hj
        · have : vs.toArray.size = ps.length := by simp [hr.length]
          rw [List.getElem?_eq_none (by omega), List.getElem?_eq_none (by omega)]
      rw [e]
      exact fin
  · have e : c = true := hc.mpr fun h => hsz (by rw [h])
    subst e
    exact RcNeAt.lists_lengths hl hl' (by simp [hr.length, hr'.length, hsz]) (by omega) prog w E Q fin
theorem ints_mem {h : Heap} {ns : List Int} {vs : List Value} (r : RepL X h (ns.map .int) vs) : ∀ y ∈ vs, ∃ n t, y = .int n t := fun y hy => by
  obtain ⟨i, hi⟩ := List.getElem?_of_mem hy
  obtain ⟨p, hp, rp⟩ := r.get' hi
  rw [List.getElem?_map] at hp
  cases e : ns[i]? with
  | none => rw [e] at hp; cases hp
  | some n =>
    rw [e] at hp; cases hp
    simp only [Rep] at rp
    obtain ⟨t, rfl⟩ := rp
    exact ⟨n, t, rfl⟩
/-- an int in a list of ints -/
theorem any_int {s : Shared} {ns : List Int} {vs : List Value} {k : Int} (hi : IntsAre vs ns) : (vs.toArray.any fun y => match y with | .int n _ => n == k | _ => false) = decide (k ∈ ns) := by
  induction hi with
  | nil => simp
  | cons n t r ih =>
    rw [List.any_toArray] at ih
    rw [List.any_toArray, List.any_cons, ih]
    simp only [List.mem_cons]
    by_cases h : n = k
    · simp [h]
    · have h' : ¬ k = n := fun e => h e.symm
      simp [h, h']
open SeqAt in
theorem cmp_in {k : Int} {ns : List Int} : Cmp prog w A X .In (.int k) (.list (ns.map .int)) (decide (k ∈ ns)) := fun s v u E Q r r' hQ => by
  simp only [Rep] at r r'
  obtain ⟨t, rfl⟩ := r
  obtain ⟨a, vs, rfl, _, hl, hr⟩ := r'
  have hi := hr.toInts
  refine in_listAt (fun y => match y with | .int n _ => n == k | _ => false) hl (fun y hy => ?_) ?_
  · obtain ⟨n, t', rfl⟩ := ints_mem hr y (by simpa using hy)
    exact EqAt.int_int n t' k t
  · rw [any_int (s := s) hi]
    exact hQ s (keeps_refl s)
open SeqAt in
theorem cmp_notIn {k : Int} {ns : List Int} : Cmp prog w A X .NotIn (.int k) (.list (ns.map .int)) (decide (k ∉ ns)) := fun s v u E Q r r' hQ => by
  simp only [Rep] at r r'
  obtain ⟨t, rfl⟩ := r
  obtain ⟨a, vs, rfl, _, hl, hr⟩ := r'
  have hi := hr.toInts
  refine notIn_listAt (fun y => match y with | .int n _ => n == k | _ => false) hl (fun y hy => ?_) ?_
  · obtain ⟨n, t', rfl⟩ := ints_mem hr y (by simpa using hy)
    exact EqAt.int_int n t' k t
  · rw [any_int (s := s) hi]
    have e : (!decide (k ∈ ns)) = decide (k ∉ ns) := by simp
    have fin := hQ s (keeps_refl s)
    rw [← e] at fin
    exact fin
end
end Mine
end

-- part B7
section
namespace Mine
open PySem PySem.Calls PyProof.Rows
section
variable {prog : Program} {w : World} {A : Around} {env : Env} {b : Shared} {X : Addr → Prop} {fns : List Nat}

theorem cmp_eq_bytes {ks ls : List Int} : Cmp prog w A X .Eq (.bytes ks) (.bytes ls) (decide (ks = ls)) := fun s v u E Q r r' hQ => by
  simp only [Rep] at r r'
  obtain ⟨b, t, rfl, rfl⟩ := r
  obtain ⟨c, t', rfl, rfl⟩ := r'
  have e : (b.toList == c.toList) = decide (W.KBw.bInts b = W.KBw.bInts c) := by
    rw [Bool.eq_iff_iff]
    simp only [decide_eq_true_eq, beq_iff_eq]
    exact ⟨fun h => by rw [Array.toList_inj.mp h], fun h => by rw [bInts_inj h]⟩
  exact W.eq_bytes (by rw [e]; exact hQ s (keeps_refl s))
theorem cmp_ne_bytes {ks ls : List Int} : Cmp prog w A X .NotEq (.bytes ks) (.bytes ls) (decide (ks ≠ ls)) := fun s v u E Q r r' hQ => by
  simp only [Rep] at r r'
  obtain ⟨b, t, rfl, rfl⟩ := r
  obtain ⟨c, t', rfl, rfl⟩ := r'
  have e : (b.toList != c.toList) = decide (W.KBw.bInts b ≠ W.KBw.bInts c) := by
    show (!(b.toList == c.toList)) = _
    rw [Bool.eq_iff_iff]
    simp only [decide_eq_true_eq, Bool.not_eq_true', beq_eq_false_iff_ne, ne_eq]
    exact ⟨fun h h' => h (by rw [bInts_inj h']), fun h h' => h (by rw [Array.toList_inj.mp h'])⟩
  exact W.ne_bytes (by rw [e]; exact hQ s (keeps_refl s))
theorem cmp_ne_bool {c d : Bool} : Cmp prog w A X .NotEq (.bool c) (.bool d) (c != d) := fun s v u E Q r r' hQ => by
  simp only [Rep] at r r'
  subst r r'
  exact SeqAt.RcNeAt.bool_bool c d prog w E Q (hQ s (keeps_refl s))

theorem ev_cat_bytes {l r : Expr} {pos : Pos} {ks ls : List Int} (h1 : Ev prog w A env b X l (.bytes ks)) (h2 : Ev prog w A env b X r (.bytes ls)) (hn : ks.length + ls.length ≤ 16777216) :
    Ev prog w A env b X (.BinOp l .Add r pos) (.bytes (ks ++ ls)) :=
  ev_bin h1 h2 fun s v u E Q _ r r' hQ => by
    simp only [Rep] at r r'
    obtain ⟨b, t, rfl, hb⟩ := r
    obtain ⟨c, t', rfl, hc⟩ := r'
    refine W.KBy.add_bytes (by rw [← W.KBw.ints_length b, ← W.KBw.ints_length c, hb, hc]; exact hn) fun t' k => hQ _ _ (keeps_tok s k) ?_
    simp only [Rep]
    exact ⟨_, _, rfl, W.KBw.ints_app hb hc⟩
/-- one octet, n times -/
theorem ev_mul_octet {l r : Expr} {pos : Pos} {c n : Int} (h1 : Ev prog w A env b X l (.bytes [c])) (h2 : Ev prog w A env b X r (.int n)) (hlo : -1000 ≤ n) (hhi : n ≤ 1000) :
    Ev prog w A env b X (.BinOp l .Mult r pos) (.bytes (List.replicate n.toNat c)) :=
  ev_bin h1 h2 fun s v u E Q _ r r' hQ => by
    simp only [Rep] at r r'
    obtain ⟨bb, t, rfl, hb⟩ := r
    obtain ⟨t', rfl⟩ := r'
    have hl : bb.toList.length = 1 := by
      have := W.KBw.ints_length bb
      rw [hb] at this
      simpa using this.symm
    have e : bb = bb.toList.toArray := by simp
    rw [e]
    refine W.bytes_mul_any (by intro h0; rw [h0] at hl; simp at hl) (by omega) (by omega) (by omega) fun t'' k => hQ _ _ (keeps_tok s k) ?_
    simp only [Rep]
    refine ⟨_, _, rfl, ?_⟩
    rw [W.KBw.ints_list]
    have hm : bb.toList.map (fun c => (c.toNat : Int)) = [c] := hb
    rw [List.map_flatten, List.map_replicate, hm]
    generalize n.toNat = j
    induction j with
    | zero => rfl
    | succ j ih => rw [List.replicate_succ, List.flatten_cons, ih, List.replicate_succ]; rfl

theorem picked_ints (c : Array UInt8) (lo hi : Option Int) : W.KBw.bInts (W.KBy.picked c lo hi) = ((W.KBw.bInts c).drop (lo.elim 0 (clipAt (W.KBw.bInts c).length))).take (hi.elim (W.KBw.bInts c).length (clipAt (W.KBw.bInts c).length) - lo.elim 0 (clipAt (W.KBw.bInts c).length)) :=
  W.KBc.ints_picked rfl lo hi
/-- what a plain slice takes -/
def cut {α : Type} (xs : List α) (lo hi : Option Int) : List α := (xs.drop (lo.elim 0 (clipAt xs.length))).take (hi.elim xs.length (clipAt xs.length) - lo.elim 0 (clipAt xs.length))
/-- a slice of bytes -/
theorem ev_cut {e : Expr} {lo hi : Option Expr} {p pos : Pos} {ks : List Int} {l u : Option Int} (h0 : Ev prog w A env b X e (.bytes ks)) (h1 : EvPart prog w A env b lo l) (h2 : EvPart prog w A env b hi u) (hn : ks.length ≤ 16777216) :
    Ev prog w A env b X (.Subscript e (.Slice lo hi none p) pos) (.bytes (cut ks l u)) := fun s E Q hb hQ =>
  Subscript_ (h0 s E _ hb fun v s' k1 r => ev_slice_obj h1 h2 evPart_none s' E _ (keeps_trans hb k1) fun sl vl vu vt s2 k2 hs p1 p2 p3 => by
    simp only [Rep] at r
    obtain ⟨c, t, rfl, hk⟩ := r
    cases p3
    have hsz : c.size = ks.length := by rw [← hk, W.KBw.ints_length]
    refine tail_get (W.typeIs_bytes s2 c t) W.FB.slot_bytes_getitem.lookup (getItem_meets (W.typeIs_bytes _ _ _) (by decide) W.FB.slot_bytes_getitem W.FB.entry_bytes_getitem (W.FB.args_bytes_getitem_2 _ _) (W.KBc.meets_slice2 c t _ p1 p2)
      ⟨hs, Nat.le_trans (W.KBc.size_picked_le c _ _) (by rw [hsz, sizeLine_eq]; exact hn), fun t' k => hQ _ _ (keeps_trans (keeps_trans k1 k2) (keeps_tok s2 k)) ?_⟩)
    simp only [Rep]
    exact ⟨_, _, rfl, by rw [picked_ints, hk]; rfl⟩)

/-- two lists, one behind the other -/
theorem evNew_cat {l r : Expr} {pos : Pos} {ps qs : List PV} (h1 : EvO prog w A env b X l ps) (h2 : EvO prog w A env b X r qs) (hn : ps.length + qs.length ≤ 16777216) : EvNew prog w A env b X (.BinOp l .Add r pos) (ps ++ qs) := fun s E Q hb hQ =>
  wpAny_BinOp (h1 s E _ hb fun a vs s' k1 hl hr => h2 s' E _ (keeps_trans hb k1) fun a' vs' s'' k2 hl' hr' => by
    have hl2 := hl.at fun o e => keeps_grow k2 a o e
    have hr2 := hr.keep (keeps_grow k2)
    obtain ⟨⟨cls, dd, data, sl⟩, ho, hc, n, hd⟩ := id hl2
    obtain ⟨⟨cls2, dd2, data2, sl2⟩, ho2, hc2, n2, hd2⟩ := id hl'
    simp only at hc hd hc2 hd2
    subst hc hd hc2 hd2
    refine concat_meets ⟨_, ho, rfl⟩ ⟨_, ho2, rfl⟩ noFill_list_add seq_list_add F.slot_list_add F.entry_list_add (F.args_list_add_2 _ _) (PyProof.Rows.list_addW a a' vs.toArray vs'.toArray n n2 dd dd2 sl sl2 (by simp [hr.length, hr'.length, sizeLine_eq]; exact hn)) ⟨ho, ho2, ?_⟩
    exact hQ _ (vs ++ vs') _ (keeps_trans (keeps_trans k1 k2) (keeps_push' s'' _)) (fresh_size (keeps_trans k1 k2)) ⟨0, by simpa using Heap.get?_push_size s''.heap (o := { cls := .type "list", data := .seq (vs.toArray ++ vs'.toArray) }) rfl⟩
      ((hr2.append hr').newer (none_size _) (Grow.push _ _)))

theorem RepL.replicate {h : Heap} {p : PV} {v : Value} (r : Rep X h p v) : ∀ j : Nat, RepL X h (List.replicate j p) (List.replicate j v)
  | 0 => by simp [RepL]
  | j + 1 => by rw [List.replicate_succ, List.replicate_succ]; simp only [RepL]; exact ⟨v, _, rfl, r, RepL.replicate r j⟩
/-- a list of one, n times -/
theorem evNew_mul {l r : Expr} {pos : Pos} {p : PV} {n : Int} (h1 : EvNew prog w A env b X l [p]) (h2 : Ev prog w A env b X r (.int n)) (hlo : 0 ≤ n) (hn : n ≤ 1000000) : EvNew prog w A env b X (.BinOp l .Mult r pos) (List.replicate n.toNat p) := fun s E Q hb hQ =>
  wpAny_BinOp (h1 s E _ hb fun a vs s' k1 hf hp hr => h2 s' E _ (keeps_trans hb k1) fun u s'' k2 r2 => by
    simp only [Rep] at r2
    obtain ⟨t, rfl⟩ := r2
    obtain ⟨c, hp⟩ := hp.at fun o e => keeps_grow k2 a o e
    have hr2 := hr.older.keep (keeps_grow k2)
    simp only [RepL] at hr2
    obtain ⟨v, us, rfl, rv, rfl⟩ := hr2
    have hfit : ¬ (!Builtin.List.listFitsIndex n) = true := by simp [Builtin.List.listFitsIndex]; omega
    have hnl : ¬ Builtin.List.listTooLong ([v].toArray.size * n.toNat) = true := by simp [Builtin.List.listTooLong, sizeLine]; omega
    have hnl2 : ¬ [v].toArray.size * n.toNat > (2 ^ 63 - 1) / 8 := by simp; omega
    refine wpAny_binaryOp_repeat_ref (T := "list") (U := "int") (by decide) ⟨_, hp, rfl⟩ (fun s' => typeIs_int s' n t) noFill_list_mul F.fills_int_mul F.slot_int_rmul repeat_list F.slot_int_index.lookup
      (call_meets F.slot_int_rmul (typeIs_int s'' n t) F.entry_int_rmul (F.args_int_rmul_2 _ _) (int___rmul___int_list n t a [v].toArray c) ⟨hp, rfl, ⟨_, hp, rfl⟩, ?_⟩)
    refine call_meets F.slot_list_mul ⟨_, hp, rfl⟩ F.entry_list_mul (F.args_list_mul_2 _ _) (AutoListH.list___mul___list_int_3 a [v].toArray c n t hfit hnl2 hnl) ⟨hp, ?_⟩
    refine hQ _ (List.replicate n.toNat v) _ (keeps_trans (keeps_trans k1 k2) (keeps_push s'' _ _)) (fresh_size (keeps_trans k1 k2)) ⟨0, ?_⟩ ?_
    · rw [PyProof.Rows.listMul_foldl_if]
      have e : (List.replicate n.toNat [v].toArray.toList).flatten = List.replicate n.toNat v := by
        generalize n.toNat = j
        induction j with
        | zero => rfl
        | succ j ih => rw [List.replicate_succ, List.flatten_cons, ih, List.replicate_succ]; rfl
      rw [e]
      exact Heap.get?_push_size _ rfl
    · exact RepL.newer (RepL.replicate rv _) (none_size _) (Grow.push _ _))
end
end Mine
end

-- part B8
section
namespace Mine
open PySem PySem.Calls PyProof.Rows
section
variable {prog : Program} {w : World} {A : Around} {env : Env} {b : Shared} {X : Addr → Prop} {fns : List Nat}

theorem repL_one {h : Heap} {p : PV} {vs : List Value} (r : RepL X h [p] vs) : ∃ v, vs = [v] ∧ Rep X h p v := by
  simp only [RepL] at r
  obtain ⟨v, us, rfl, r, rfl⟩ := r
  exact ⟨v, rfl, r⟩
theorem repL_two {h : Heap} {p q : PV} {vs : List Value} (r : RepL X h [p, q] vs) : ∃ v u, vs = [v, u] ∧ Rep X h p v ∧ Rep X h q u := by
  simp only [RepL] at r
  obtain ⟨v, us, rfl, r, u, us', rfl, r', rfl⟩ := r
  exact ⟨v, u, rfl, r, r'⟩
theorem rep_list {h : Heap} {ps : List PV} {v : Value} (r : Rep X h (.list ps) v) : ∃ a vs, v = .ref a ∧ ¬ X a ∧ h.IsList a vs.toArray ∧ RepL X h ps vs := by
  simp only [Rep] at r
  exact r

theorem ct_len_list {ps : List PV} (hn : ps.length < 2 ^ 60) : CallTo prog w A b X (.builtin "len") [.list ps] (.int ps.length) := fun s vs E Q hb r hQ => by
  obtain ⟨v, rfl, r1⟩ := repL_one r
  obtain ⟨a, us, rfl, _, hl, hr⟩ := rep_list r1
  have e : us.toArray.size = ps.length := by simp [hr.length]
  refine call_len_list hl (by omega) (hQ _ _ (keeps_tok s _) ?_)
  rw [e]
  exact rep_int ..
theorem ct_len_bytes {ks : List Int} (hn : ks.length ≤ 16777216) : CallTo prog w A b X (.builtin "len") [.bytes ks] (.int ks.length) := fun s vs E Q hb r hQ => by
  obtain ⟨v, rfl, r1⟩ := repL_one r
  simp only [Rep] at r1
  obtain ⟨c, t, rfl, hk⟩ := r1
  have e : c.size = ks.length := by rw [← hk, W.KBw.ints_length]
  refine W.len_bytes (by omega) (hQ _ _ (keeps_tok s _) ?_)
  rw [e]
  exact rep_int ..
theorem ct_abs {a : Int} : CallTo prog w A b X (.builtin "abs") [.int a] (.int a.natAbs) := fun s vs E Q hb r hQ => by
  obtain ⟨v, rfl, r1⟩ := repL_one r
  simp only [Rep] at r1
  obtain ⟨t, rfl⟩ := r1
  refine PyProof.Rows.call_abs_int fun u tk => hQ _ _ (keeps_tok s _) ?_
  have e : (if a < 0 then -a else a) = (a.natAbs : Int) := by split <;> omega
  rw [e]
  exact rep_int ..
theorem ct_int {a : Int} : CallTo prog w A b X (.type "int") [.int a] (.int a) := fun s vs E Q hb r hQ => by
  obtain ⟨v, rfl, r1⟩ := repL_one r
  simp only [Rep] at r1
  obtain ⟨t, rfl⟩ := r1
  exact call_int_int (hQ _ _ (keeps_refl s) (rep_int ..))
theorem preSum_sum (ns : List Int) : ∀ k ≤ ns.length, preSum (fun i => ns.getD i 0) k = (ns.take k).sum := by
  intro k
  induction k with
  | zero => intro _; simp [preSum]
  | succ k ih =>
    intro h
    have hk : ns[k]? = some ns[k] := List.getElem?_eq_getElem h
    rw [preSum, ih (by omega), List.take_add_one, List.sum_append, hk, List.getD_eq_getElem?_getD, hk]
    simp only [Option.getD_some, Option.toList_some, List.sum_cons, List.sum_nil, Int.add_zero]
theorem ct_sum {ns : List Int} (hh : A.handled = none) : CallTo prog w A b X (.builtin "sum") [.list (ns.map .int)] (.int ns.sum) := fun s vs E Q hb r hQ => by
  obtain ⟨v, rfl, r1⟩ := repL_one r
  obtain ⟨a, us, rfl, _, hl, hr⟩ := rep_list r1
  have hi := hr.toInts
  have hlen : us.toArray.size = ns.length := by simp [hi.length]
  have hlt : a < s.heap.objs.size := by obtain ⟨_, e, _⟩ := hl; exact Heap.lt_size e
  refine call_sum_walkAnyS (wpAny_pyIter_list hl ⟨s.heap.objs.size, [s.heap.objs.size, a], [s.heap.objs.size], _, us.toArray.size, _, _, (fun i => ns.getD i 0), rfl,
    (Walks.list (A := A.in1) hh s.heap.objs.size a (Nat.ne_of_lt hlt) us.toArray).toS, ⟨⟨_, Heap.get?_push_size _ rfl, rfl, rfl⟩, hl.push _⟩, ?_, ?_, ?_⟩)
  · intro c hc
    show c < (s.heap.push _).objs.size
    rw [Heap.size_push]
    rcases List.mem_cons.mp hc with rfl | hc
    · exact Nat.lt_succ_self _
    · rcases List.mem_cons.mp hc with rfl | hc
      · exact Nat.lt_succ_of_lt hlt
      · cases hc
  · intro i v hv
    have hv' : us[i]? = some v := by simpa using hv
    obtain ⟨p, hp, rp⟩ := hr.get' hv'
    rw [List.getElem?_map] at hp
    cases e : ns[i]? with
    | none => rw [e] at hp; cases hp
    | some n =>
      rw [e] at hp; cases hp
      simp only [Rep] at rp
      obtain ⟨t, rfl⟩ := rp
      exact ⟨t, by simp [e]⟩
  · intro s' t' hm
    have e : preSum (fun i => ns.getD i 0) us.toArray.size = ns.sum := by rw [hlen, preSum_sum ns _ (Nat.le_refl _), List.take_length]
    rw [e]
    refine hQ _ s' ?_ (rep_int ..)
    obtain ⟨h', g', d', tk', os'⟩ := s'
    obtain ⟨m1, m2, m3, m4, _⟩ := hm
    dsimp only at m2 m3 m4
    subst m2 m3 m4
    refine ⟨h', tk', rfl, fun c o e => m1 c o (fun hc => ?_) (Heap.get?_push_of_some _ e)⟩
    rw [List.mem_singleton.mp hc] at e
    exact absurd (Heap.lt_size e) (Nat.lt_irrefl _)
theorem ct_bytes {ns : List Int} (hh : A.handled = none) (hr : ∀ n ∈ ns, 0 ≤ n ∧ n < 256) (hn : ns.length ≤ 16777216) : CallTo prog w A b X (.type "bytes") [.list (ns.map .int)] (.bytes ns) := fun s vs E Q hb r hQ => by
  obtain ⟨v, rfl, r1⟩ := repL_one r
  obtain ⟨a, us, rfl, _, hl, hrl⟩ := rep_list r1
  have hi := hrl.toInts
  refine call_bytes_ints hl hi hr (by rw [hi.length, sizeLine_eq]; exact hn) hh fun h' t k hk => hQ _ _ (keeps_of s h' k hk) ?_
  simp only [Rep]
  exact ⟨_, _, rfl, W.KBa.ints_make hr⟩

theorem boot_abs' : bootBuiltins "abs" = some (.builtin "abs") := by decide +kernel
theorem boot_int' : bootBuiltins "int" = some (.type "int") := by decide +kernel
theorem boot_bytes' : bootBuiltins "bytes" = some (.type "bytes") := by decide +kernel
theorem boot_range' : bootBuiltins "range" = some (.type "range") := by decide +kernel
theorem boot_enum' : bootBuiltins "enumerate" = some (.type "enumerate") := by decide +kernel
theorem boot_divmod' : bootBuiltins "divmod" = some (.builtin "divmod") := by decide +kernel
theorem boot_len' : bootBuiltins "len" = some (.builtin "len") := by decide +kernel
theorem boot_sum' : bootBuiltins "sum" = some (.builtin "sum") := by decide +kernel
theorem used_abs : (Str.ofString "abs") ∈ builtinsUsed := by decide +kernel
theorem used_int : (Str.ofString "int") ∈ builtinsUsed := by decide +kernel
theorem used_bytes : (Str.ofString "bytes") ∈ builtinsUsed := by decide +kernel
theorem used_range : (Str.ofString "range") ∈ builtinsUsed := by decide +kernel
theorem used_enum : (Str.ofString "enumerate") ∈ builtinsUsed := by decide +kernel
theorem used_divmod : (Str.ofString "divmod") ∈ builtinsUsed := by decide +kernel
theorem used_len : (Str.ofString "len") ∈ builtinsUsed := by decide +kernel
theorem used_sum : (Str.ofString "sum") ∈ builtinsUsed := by decide +kernel
end
end Mine
end

-- part B9
section
namespace Mine
open PySem PySem.Calls PyProof.Rows

/-- what comes behind a statement -/
def Kont (prog : Program) (w : World) (A : Around) (env : Env) (rest : List Stmt) (Q : Flow → Shared → Prop) (E : Value → Shared → Prop) : Flow → Shared → Prop := fun f s => match f with
  | .next => wpAny (model prog w) A (execs rest env) Q E s
  | f => Q f s
/-- the end of a turn -/
def Turn (J : Shared → Prop) (Q : Flow → Shared → Prop) : Flow → Shared → Prop := fun f s => match f with
  | .next => J s
  | .cont => J s
  | .brk => Q .next s
  | .ret v => Q (.ret v) s

section
variable {prog : Program} {w : World} {A : Around} {env : Env} {b : Shared} {X : Addr → Prop} {fns : List Nat} {s₀ s : Shared} {B : Addr → Option Obj} {σ : List (Str × PV)} {own : Option (Str × Addr × List PV)}
  {E : Value → Shared → Prop} {Q : Flow → Shared → Prop} {rest : List Stmt}

theorem ex_nil (h : Q .next s) : wpAny (model prog w) A (execs [] env) Q E s := wpAny_execs_nil h
theorem ex_break {pos : Pos} (h : Q .brk s) : wpAny (model prog w) A (execs (.Break pos :: rest) env) Q E s :=
  wpAny_execs_cons (by rw [arm_exec_Break]; exact wpAny_bind (wpAny_standAt (wpAny_pure h)))
theorem ex_if' {c : Expr} {bb : Bool} {x y : List Stmt} {pos : Pos} (I : In s₀ B env X σ own s) (hc : Tst prog w A env s c bb)
    (h1 : bb = true → ∀ s', In s₀ B env X σ own s' → wpAny (model prog w) A (execs x env) (Kont prog w A env rest Q E) E s')
    (h2 : bb = false → ∀ s', In s₀ B env X σ own s' → wpAny (model prog w) A (execs y env) (Kont prog w A env rest Q E) E s') :
    wpAny (model prog w) A (execs (.If c x y pos :: rest) env) Q E s :=
  ex_if hc fun s' k => by
    cases bb with
    | true => exact wpAny_mono (h1 rfl s' (I.keep k)) (fun f s'' q => by cases f <;> exact q) fun _ _ e => e
    | false => exact wpAny_mono (h2 rfl s' (I.keep k)) (fun f s'' q => by cases f <;> exact q) fun _ _ e => e

theorem loadvar {M : Model} {x : Str} {p : PV} (I : In s₀ B env X σ own s) (hx : σ.lookup x = some p) {Q : Value → Shared → Prop} (h : ∀ v, Rep X s.heap p v → Q v s) : wpAny M A (loadName env x) Q E s := by
  obtain ⟨fn, m, cm, c, hv, _⟩ := I
  obtain ⟨v, h1, h2⟩ := hv x p hx
  unfold VarOf at h1
  split at h1
  · rename_i hk
    exact wpAny_loadName_local fn hk c.ns h1 (h v h2)
  · rename_i hk
    split at h1
    · rename_i hc
      obtain ⟨a, hc⟩ := Option.isSome_iff_exists.mp hc
      exact wpAny_loadName_cell fn hk hc (h1 ▸ c.cell x a hc) (h v h2)
    · cases h1
  · cases h1
theorem ex_iadd {x : Str} {px pos : Pos} {e : Expr} {i j : Int} (I : In s₀ B env X σ own s) (hx : σ.lookup x = some (.int i)) (he : Ev prog w A env s X e (.int j)) (hs : StoreOk env x) (hno : OwnNe own x)
    (h : ∀ s', In s₀ B env X ((x, .int (i + j)) :: σ) own s' → wpAny (model prog w) A (execs rest env) Q E s') : wpAny (model prog w) A (execs (.AugAssign (.Name x px) .Add e pos :: rest) env) Q E s :=
  wpAny_execs_cons (wpAny_AugAssign_Name (loadvar I hx fun v rv => he s E _ (keeps_refl s) fun u s' k r => by
    simp only [Rep] at rv r
    obtain ⟨t, rfl⟩ := rv
    obtain ⟨t', rfl⟩ := r
    exact wpAny_iadd_int (((I.keep k).keep (keeps_tok s' _)).store (rep_int ..) hs hno h)))
theorem ex_isub {x : Str} {px pos : Pos} {e : Expr} {i j : Int} (I : In s₀ B env X σ own s) (hx : σ.lookup x = some (.int i)) (he : Ev prog w A env s X e (.int j)) (hs : StoreOk env x) (hno : OwnNe own x)
    (h : ∀ s', In s₀ B env X ((x, .int (i - j)) :: σ) own s' → wpAny (model prog w) A (execs rest env) Q E s') : wpAny (model prog w) A (execs (.AugAssign (.Name x px) .Sub e pos :: rest) env) Q E s :=
  wpAny_execs_cons (wpAny_AugAssign_Name (loadvar I hx fun v rv => he s E _ (keeps_refl s) fun u s' k r => by
    simp only [Rep] at rv r
    obtain ⟨t, rfl⟩ := rv
    obtain ⟨t', rfl⟩ := r
    exact P.isub_int (((I.keep k).keep (keeps_tok s' _)).store (rep_int ..) hs hno h)))

/-- x = a new list: the frame's own -/
theorem ex_own {x : Str} {px pos : Pos} {e : Expr} {ps : List PV} (I : In s₀ B env X σ none s) (he : EvNew prog w A env s X e ps) (hx : StoreOk env x) (hσ : σ.lookup x = none)
    (h : ∀ a s', s.heap.get? a = none → In s₀ B env (fun b => X b ∨ b = a) σ (some (x, a, ps)) s' → wpAny (model prog w) A (execs rest env) Q E s')
    (hs : swapsWith e (some (.Name x px)) pos.line env = pure false := by rfl) : wpAny (model prog w) A (execs (.Assign [.Name x px] e pos :: rest) env) Q E s :=
  wpAny_execs_cons (wpAny_Assign_Name (he s E _ (keeps_refl s) fun a vs s' k ha hp hr => I.storeOwn k ha hp hx hσ hr fun s'' I' => h a s'' ha I') hs)

theorem In.ownList {y : Str} {a : Addr} {ps : List PV} (I : In s₀ B env X σ (some (y, a, ps)) s) : ∃ vs : List Value, s.heap.PlainList a vs.toArray ∧ RepL X s.heap ps vs := by
  obtain ⟨fn, m, cm, c, hv, ho⟩ := I
  exact (ho y a ps rfl).2.2.2
theorem In.name_own {M : Model} {y : Str} {a : Addr} {ps : List PV} {pos : Pos} {Q : Value → Shared → Prop} (I : In s₀ B env X σ (some (y, a, ps)) s) (h : Q (.ref a) s) (hd : (y == ("__debug__" : Str)) = false) : wpAny M A (eval (.Name y pos) env) Q E s := by
  obtain ⟨fn, m, cm, c, hv, ho⟩ := I
  exact wpAny_name_var fn c (ho y a ps rfl).2.2.1 h hd

/-- y.append(e) -/
theorem ex_append {y : Str} {py pa pos pos' : Pos} {a : Addr} {ps : List PV} {e : Expr} {p : PV} (I : In s₀ B env X σ (some (y, a, ps)) s) (he : Ev prog w A env s X e p) (hn : ps.length ≤ 16777216)
    (h : ∀ s', In s₀ B env X σ (some (y, a, ps ++ [p])) s' → wpAny (model prog w) A (execs rest env) Q E s') (hd : (y == ("__debug__" : Str)) = false := by decide)
    (hl : (pa.endLine == pos.line) = true := by rfl) (hst : starEach [e] env = [(false, eval e env)] := by first | exact se_Constant | exact se_Name | exact se_ListComp | exact se_BinOp | exact se_Call | exact se_Subscript | exact se_UnaryOp | exact se_List | exact se_Compare | exact se_BoolOp | exact se_IfExp | rfl) :
    wpAny (model prog w) A (execs (.Expr (.Call (.Attribute (.Name y py) "append" pa) [e] [] pos) pos' :: rest) env) Q E s := by
  refine wpAny_execs_cons (wpAny_Expr ?_ (by unfold interactive; rw [I.fn]; rfl) rfl)
  rw [arm_eval_Call]
  show wpAny _ A (eval (.Name y py) env >>= fun ov => _) _ E s
  refine wpAny_bind (I.name_own ?_ hd)
  refine wpAny_bind (wpAny_standAt ?_)
  unfold methodCall
  obtain ⟨vs, ⟨n, hp⟩, hr⟩ := I.ownList
  refine wpAny_bind (wpAny_holding ?_)
  have hform : methodCallForm (1 + 0) (backTo pos (starEach [e] env)) (backToKw pos (keywordEach [] env)) = true := by rw [hst]; rfl
  rw [show ([e].length + ([] : List Keyword).length) = 1 + 0 from rfl, hform]
  show wpAny _ A (getMethod (.ref a) "append" _) _ E s
  refine getMethod_list_append hp rfl rfl ?_
  unfold methodCallPos
  rw [hl]
  refine wpAny_bind (wpAny_pure ?_)
  show wpAny _ A (callWith pos (.builtin "list.append") [.ref a] (backTo pos (starEach [e] env)) []) _ E s
  have hst' : backTo pos (starEach [e] env) = [(false, eval e env)] := by rw [hst]; rfl
  rw [hst']
  refine callWith_builtin rfl (evalArgs_plain (spliced_cons (he s E _ (keeps_refl s) fun v s' k r => spliced_nil ?_)))
  have hp' := hp
  have I' := I.keep k
  obtain ⟨vs', ⟨n', hp'⟩, hr'⟩ := I'.ownList
  refine wpAny_list_append_plain ⟨n', hp'⟩ (fun h' hl' hs' => ?_) (by rw [List.size_toArray, hr'.length, sizeLine_eq]; exact hn)
  have e1 : vs'.toArray.push v = (vs' ++ [v]).toArray := by simp
  rw [e1] at hl'
  exact h _ (I'.ownSet hs' hl' (hr'.snoc r))

theorem setItem_plain {l : Addr} {items : Array Value} {k : Int} {t : Tok} {v : Value} {Q : Unit → Shared → Prop} (hl : s.heap.PlainList l items) (h0 : 0 ≤ k) (hn : k < items.size) (hfit : k < 2 ^ 62)
    (hQ : ∀ h', h'.PlainList l (items.setIfInBounds k.toNat v) → Heap.SameBut l s.heap h' → Q () { s with heap := h' }) : wpAny (model prog w) A (setItem (.ref l) (.int k t) v) Q E s := by
  have hL := hl.isList
  obtain ⟨n, ho⟩ := hl
  unfold setItem
  refine wpAny_holding ?_
  refine wpAny_bind (wpAny_sequenceKey hL.typeIs (by decide) ?_)
  refine wpAny_bind (wpAny_callSpecial?_slot (name := Str.ofString "__setitem__") hL.typeIs slot_list_setitem (wpAny_call_entry slot_list_setitem hL.typeIs entry_list_setitem ?_ (args_list_setitem _ _ _)))
  show wpAny _ _ (Builtin.List.listSubscript? (.int k t) >>= _) _ _ s
  refine wpAny_bind (wpAny_listSubscript_int (by simp [Builtin.List.listFitsIndex]; omega) ?_)
  obtain ⟨j, rfl⟩ := Int.eq_ofNat_of_zero_le h0
  have hj : j < items.size := by omega
  show wpAny _ _ ((seqItemAt l j >>= fun r => pure (r.map (j, ·))) >>= _) _ _ s
  refine wpAny_bind (wpAny_bind (wpAny_seqItemAt ho rfl (wpAny_pure ?_)))
  rw [Array.getElem?_eq_getElem hj]
  show wpAny _ _ (setSeqItemAt l j v >>= _) _ _ s
  have hfin : (s.heap.update l (Obj.mapSeq (·.setIfInBounds j v))).PlainList l (items.setIfInBounds j v) :=
    ⟨n, by rw [Heap.get?_update_self _ ho (by simp [Obj.mapSeq]; rfl)]; simp [Obj.mapSeq]⟩
  refine wpAny_bind (wpAny_setSeqItemAt ho rfl ?_)
  first
    | exact wpAny_pure ⟨.none, rfl, wpAny_pure (hQ _ hfin (Heap.SameBut.update ..))⟩
    | exact wpAny_bind (wpAny_pure (wpAny_pure ⟨.none, rfl, wpAny_pure (hQ _ hfin (Heap.SameBut.update ..))⟩))

/-- y[i] = e -/
theorem ex_setItem {y : Str} {py ps' pos : Pos} {a : Addr} {ps : List PV} {e i : Expr} {p : PV} {k : Int} (I : In s₀ B env X σ (some (y, a, ps)) s) (he : Ev prog w A env s X e p) (hi : Ev prog w A env s X i (.int k)) (h0 : 0 ≤ k) (hk : k < ps.length) (hfit : k < 2 ^ 62)
    (h : ∀ s', In s₀ B env X σ (some (y, a, ps.set k.toNat p)) s' → wpAny (model prog w) A (execs rest env) Q E s') (hd : (y == ("__debug__" : Str)) = false := by decide)
    (hs : swapsWith e (some (.Subscript (.Name y py) i ps')) pos.line env = pure false := by rfl) :
    wpAny (model prog w) A (execs (.Assign [.Subscript (.Name y py) i ps'] e pos :: rest) env) Q E s :=
  wpAny_execs_cons (wpAny_Assign_Subscript (he s E _ (keeps_refl s) fun v s1 k1 r1 => (I.keep k1).name_own (hi s1 E _ k1 fun u s2 k2 r2 => by
    simp only [Rep] at r2
    obtain ⟨t, rfl⟩ := r2
    have I2 := (I.keep k1).keep k2
    obtain ⟨vs, hp, hr⟩ := I2.ownList
    refine setItem_plain hp h0 (by rw [List.size_toArray, hr.length]; exact hk) hfit fun h' hl' hs' => ?_
    have e1 : vs.toArray.setIfInBounds k.toNat v = (vs.set k.toNat v).toArray := by simp
    rw [e1] at hl'
    exact h _ (I2.ownSet hs' hl' (hr.set _ (r1.keep (keeps_grow k2))))) hd) hs)

/-- x, y = divmod(a, b) -/
theorem ex_divmod {x y : Str} {px py pt pd pos pc : Pos} {kk : Nat} {e1 e2 : Expr} {i j : Int} (I : In s₀ B env X σ own s) (G : Gl prog fns s.heap) (h1 : Ev prog w A env s X e1 (.int i)) (h2 : Ev prog w A env s X e2 (.int j)) (hj : 0 < j) (hj2 : j < 2 ^ 200) (hh : A.handled = none)
    (hx : StoreOk env x) (hy : StoreOk env y) (hnx : OwnNe own x) (hny : OwnNe own y)
    (h : ∀ s', In s₀ B env X ((y, .int (i % j)) :: (x, .int (i / j)) :: σ) own s' → wpAny (model prog w) A (execs rest env) Q E s')
    (hkd : env.kindOf "divmod" = some .globalImplicit := by rfl) (hm : env.globals = mainGlobals := by rfl) (hbn : env.builtins = builtinsNs := by rfl)
    (he : starEach [e1, e2] env = (false, eval e1 env) :: starEach [e2] env := by first | exact se_Constant | exact se_Name | exact se_ListComp | exact se_BinOp | exact se_Call | exact se_Subscript | exact se_UnaryOp | exact se_List | exact se_Compare | exact se_BoolOp | exact se_IfExp | rfl) (he' : starEach [e2] env = (false, eval e2 env) :: starEach [] env := by first | exact se_Constant | exact se_Name | exact se_ListComp | exact se_BinOp | exact se_Call | exact se_Subscript | exact se_UnaryOp | exact se_List | exact se_Compare | exact se_BoolOp | exact se_IfExp | rfl) :
    wpAny (model prog w) A (execs (.Assign [.Tuple [.Name x px, .Name y py] kk pt] (.Call (.Name "divmod" pd) [e1, e2] [] pc) pos :: rest) env) Q E s := by
  refine wpAny_execs_cons (Assign_Tuple ?_ (by rfl) (by rfl))
  refine Call_ (name_builtin G used_divmod boot_divmod' ?_ I.fn hkd hm hbn (by decide)) (by rfl)
  refine callWith_builtin1 (evArgs_cons h1 (evArgs_cons h2 evArgs_nil he') he pc s E _ (keeps_refl s) fun vs s1 k1 r1 => ?_) he (by rw [he']; rfl)
  obtain ⟨v, u, rfl, rv, ru⟩ := repL_two r1
  simp only [Rep] at rv ru
  obtain ⟨t, rfl⟩ := rv
  obtain ⟨t', rfl⟩ := ru
  refine PyProof.Rows.divmod_int (by omega) ?_ (.inl (div_ok hj hj2))
  have k2 : Keeps s1 { s1 with toks := s1.toks + 1 + 1, heap := s1.heap.push { cls := .type "tuple", data := .seq #[.int (i.fdiv j) s1.toks, .int (i.fmod j) (s1.toks + 1)] } } := keeps_push s1 _ _
  refine assign_Tuple_tuple hh ⟨_, Heap.get?_push_size _ rfl, rfl, _, rfl⟩ rfl rfl fun h' hx' => ?_
  have k3 : Keeps s1 { s1 with toks := s1.toks + 1 + 1, heap := h' } := keeps_of s1 h' _ fun b o e => hx' b o (Nat.ne_of_lt (Heap.lt_size (Heap.get?_push_of_some _ e))) (Heap.get?_push_of_some _ e)
  rw [Int.fdiv_eq_ediv_of_nonneg _ (by omega), Int.fmod_eq_emod_of_nonneg _ (by omega)]
  refine assignInOrder_cons (wpAny_assign_Name (((I.keep k1).keep k3).store (rep_int ..) hx hnx fun s3 I3 => ?_))
  refine assignInOrder_cons (wpAny_assign_Name (I3.store (rep_int ..) hy hny fun s4 I4 => ?_))
  exact assignInOrder_nil (h s4 I4)
end
end Mine
end

-- part B10
section
namespace Mine
open PySem PySem.Calls PyProof.Rows

section
variable (prog : Program) (w : World) (A : Around) (env : Env) (b : Shared)
/-- e is reckoned to a range: n ints from a on, by c -/
def EvRange (e : Expr) (a : Int) (n : Nat) (c : Int) : Prop :=
  ∀ (s : Shared) (E : Value → Shared → Prop) (Q : Value → Shared → Prop), Keeps b s → (∀ r s' (b' : Int) (t u v : Tok), Keeps s s' → IsRange s'.heap r a b' c t u v → Builtin.Range.small a b' c = true → Builtin.Range.rangeSize a b' c = (n : Int) → Q (.ref r) s') →
    wpAny (model prog w) A (eval e env) Q E s
end

section
variable {prog : Program} {w : World} {A : Around} {env : Env} {b : Shared} {X : Addr → Prop} {fns : List Nat} {s₀ s : Shared} {B : Addr → Option Obj}
  {E : Value → Shared → Prop} {Q : Flow → Shared → Prop} {rest : List Stmt}

theorem size_up {a b' : Int} (h : a ≤ b') : Builtin.Range.rangeSize a b' 1 = ((b' - a).toNat : Int) := by
  rw [rangeSize_one]
  split <;> omega
theorem evRange_call {px pos : Pos} {es : List Expr} {e : Expr} {ps : List PV} {a : Int} {n : Nat} {c : Int} (G : Gl prog fns b.heap) (ha : EvArgs prog w A env b X (e :: es) ps)
    (hc : ∀ (s : Shared) (vs : List Value) (E : Value → Shared → Prop) (Q : Value → Shared → Prop), RepL X s.heap ps vs → (∀ r s' (b' : Int) (t u v : Tok), Keeps s s' → IsRange s'.heap r a b' c t u v → Builtin.Range.small a b' c = true → Builtin.Range.rangeSize a b' c = (n : Int) → Q (.ref r) s') →
      wpAny (model prog w) A (call (.type "range") vs) Q E s)
    (hk : env.scope.kind = .function := by rfl) (hx : env.kindOf "range" = some .globalImplicit := by rfl) (hm : env.globals = mainGlobals := by rfl) (hbn : env.builtins = builtinsNs := by rfl)
    (he : starEach (e :: es) env = (false, eval e env) :: starEach es env := by first | exact se_Constant | exact se_Name | exact se_ListComp | exact se_BinOp | exact se_Call | exact se_Subscript | exact se_UnaryOp | exact se_List | exact se_Compare | exact se_BoolOp | exact se_IfExp | rfl) (hplain : ∀ pos, (backTo pos (starEach es env)).any (·.1) = false := by intro _; rfl) :
    EvRange prog w A env b (.Call (.Name "range" px) (e :: es) [] pos) a n c := fun s E Q hb hQ =>
  Call_ (name_builtin (G.keep (keeps_grow hb)) used_range boot_range' (callWith_type1 (ha pos s E _ hb fun vs s' k rs => hc s' vs E Q rs fun r s'' b' t u v k' h1 h2 h3 => hQ r s'' b' t u v (keeps_trans k k') h1 h2 h3) he (hplain pos)) hk hx hm hbn (by decide)) (by rfl)
theorem evRange_1 {px pos : Pos} {e : Expr} {n : Int} (G : Gl prog fns b.heap) (h : Ev prog w A env b X e (.int n)) (h0 : 0 ≤ n) (hn : n < 2 ^ 60)
    (hk : env.scope.kind = .function := by rfl) (hx : env.kindOf "range" = some .globalImplicit := by rfl) (hm : env.globals = mainGlobals := by rfl) (hbn : env.builtins = builtinsNs := by rfl)
    (he : starEach [e] env = (false, eval e env) :: starEach [] env := by first | exact se_Constant | exact se_Name | exact se_ListComp | exact se_BinOp | exact se_Call | exact se_Subscript | exact se_UnaryOp | exact se_List | exact se_Compare | exact se_BoolOp | exact se_IfExp | rfl) :
    EvRange prog w A env b (.Call (.Name "range" px) [e] [] pos) 0 n.toNat 1 :=
  evRange_call G (evArgs_cons h evArgs_nil he) (fun s vs E Q r hQ => by
    obtain ⟨v, rfl, r1⟩ := repL_one r
    simp only [Rep] at r1
    obtain ⟨t, rfl⟩ := r1
    exact call_range_1 (hQ _ _ n _ _ _ (keeps_push s _ _) (IsRange.new ..) (small_one (by omega) (by omega) (by omega) (by omega)) (by rw [size_up h0]; simp))) hk hx hm hbn he
theorem evRange_2 {px pos : Pos} {e1 e2 : Expr} {a n : Int} (G : Gl prog fns b.heap) (h1 : Ev prog w A env b X e1 (.int a)) (h2 : Ev prog w A env b X e2 (.int n)) (h0 : a ≤ n) (ha : -(2 ^ 60) < a) (hn : n < 2 ^ 60)
    (hk : env.scope.kind = .function := by rfl) (hx : env.kindOf "range" = some .globalImplicit := by rfl) (hm : env.globals = mainGlobals := by rfl) (hbn : env.builtins = builtinsNs := by rfl)
    (he : starEach [e1, e2] env = (false, eval e1 env) :: starEach [e2] env := by first | exact se_Constant | exact se_Name | exact se_ListComp | exact se_BinOp | exact se_Call | exact se_Subscript | exact se_UnaryOp | exact se_List | exact se_Compare | exact se_BoolOp | exact se_IfExp | rfl) (he' : starEach [e2] env = (false, eval e2 env) :: starEach [] env := by first | exact se_Constant | exact se_Name | exact se_ListComp | exact se_BinOp | exact se_Call | exact se_Subscript | exact se_UnaryOp | exact se_List | exact se_Compare | exact se_BoolOp | exact se_IfExp | rfl) :
    EvRange prog w A env b (.Call (.Name "range" px) [e1, e2] [] pos) a (n - a).toNat 1 :=
  evRange_call G (evArgs_cons h1 (evArgs_cons h2 evArgs_nil he') he) (fun s vs E Q r hQ => by
    obtain ⟨v, u, rfl, r1, r2⟩ := repL_two r
    simp only [Rep] at r1 r2
    obtain ⟨t, rfl⟩ := r1
    obtain ⟨t', rfl⟩ := r2
    exact call_range_2 (hQ _ _ n _ _ _ (keeps_push s _ _) (IsRange.new ..) (small_one (by omega) (by omega) (by omega) (by omega)) (size_up h0))) hk hx hm hbn he (by intro _; rw [he']; rfl)
theorem evRange_down {px pos : Pos} {e1 e2 e3 : Expr} (G : Gl prog fns b.heap) (h1 : Ev prog w A env b X e1 (.int 19)) (h2 : Ev prog w A env b X e2 (.int (-1))) (h3 : Ev prog w A env b X e3 (.int (-1)))
    (hk : env.scope.kind = .function := by rfl) (hx : env.kindOf "range" = some .globalImplicit := by rfl) (hm : env.globals = mainGlobals := by rfl) (hbn : env.builtins = builtinsNs := by rfl)
    (he : starEach [e1, e2, e3] env = (false, eval e1 env) :: starEach [e2, e3] env := by first | exact se_Constant | exact se_Name | exact se_ListComp | exact se_BinOp | exact se_Call | exact se_Subscript | exact se_UnaryOp | exact se_List | exact se_Compare | exact se_BoolOp | exact se_IfExp | rfl) (he' : starEach [e2, e3] env = (false, eval e2 env) :: starEach [e3] env := by first | exact se_Constant | exact se_Name | exact se_ListComp | exact se_BinOp | exact se_Call | exact se_Subscript | exact se_UnaryOp | exact se_List | exact se_Compare | exact se_BoolOp | exact se_IfExp | rfl) (he'' : starEach [e3] env = (false, eval e3 env) :: starEach [] env := by first | exact se_Constant | exact se_Name | exact se_ListComp | exact se_BinOp | exact se_Call | exact se_Subscript | exact se_UnaryOp | exact se_List | exact se_Compare | exact se_BoolOp | exact se_IfExp | rfl) :
    EvRange prog w A env b (.Call (.Name "range" px) [e1, e2, e3] [] pos) 19 20 (-1) :=
  evRange_call G (evArgs_cons h1 (evArgs_cons h2 (evArgs_cons h3 evArgs_nil he'') he') he) (fun s vs E Q r hQ => by
    simp only [RepL, Rep] at r
    obtain ⟨v, us, rfl, ⟨t, rfl⟩, u, us', rfl, ⟨t', rfl⟩, v3, us3, rfl, ⟨t3, rfl⟩, rfl⟩ := r
    exact call_range_3 (by decide) (hQ _ _ (-1) _ _ _ (keeps_push s _ _) (IsRange.new ..) (by decide +kernel) (by decide +kernel)) (.inl (by decide +kernel))) hk hx hm hbn he (by intro _; rw [he', he'']; rfl)

/-- for x in range(..): an invariant over the turn's number -/
theorem ex_for_range {α : Type} (σ : α → List (Str × PV)) (own : α → Option (Str × Addr × List PV)) (P : Nat → α → Prop) (c₀ : α) {x : Str} {px pos : Pos} {iter : Expr} {body : List Stmt} {a : Int} {n : Nat} {c : Int}
    (I : In s₀ B env X (σ c₀) (own c₀) s) (h0 : P 0 c₀) (hh : A.handled = none) (hr : EvRange prog w A env s iter a n c) (hx : StoreOk env x) (hno : ∀ cc, OwnNe (own cc) x)
    (turn : ∀ (B' : Addr → Option Obj) (i : Nat) (cc : α) (s' : Shared) (E' : Value → Shared → Prop), i < n → P i cc → In s₀ B' env X ((x, .int (a + i * c)) :: σ cc) (own cc) s' →
      wpAny (model prog w) A (execs body env) (Turn (fun s'' => ∃ c', P (i + 1) c' ∧ In s₀ B' env X (σ c') (own c') s'') (Kont prog w A env rest Q E)) E' s')
    (done : ∀ cc s', P n cc → In s₀ B env X (σ cc) (own cc) s' → wpAny (model prog w) A (execs rest env) Q E s')
    (hs : ∀ x, foldedSetIterable iter env x = pure x := by intro _; rfl) :
    wpAny (model prog w) A (execs (.For (.Name x px) iter body [] pos :: rest) env) Q E s := by
  refine wpAny_execs_cons (wpAny_For (hr s E _ (keeps_refl s) fun r s1 b' t u v k1 hrange hsmall hsize => wpAny_pyIter_range hrange hsmall ?_) hs)
  have k2 : Keeps s1 { s1 with heap := s1.heap.push { cls := .type "range_iterator", data := .fields #[rawInt a, rawInt (Builtin.Range.rangeSize a b' c), rawInt c] } } := keeps_push' s1 _
  have I1 : In s₀ B env X (σ c₀) (own c₀) _ := (I.keep k1).keep k2
  have hit1 : B s1.heap.objs.size = none := by
    cases e : B s1.heap.objs.size with
    | none => rfl
    | some o =>
      obtain ⟨_, m, cm, cf, _⟩ := I.keep k1
      have := cf.keep _ _ e
      rw [none_size] at this; cases this
  refine codeAny_forLoop (fun k s' => ∃ i cc, i ≤ n ∧ k = n - i ∧ P i cc ∧ In s₀ B env X (σ cc) (own cc) s' ∧ IsRangeIter s'.heap s1.heap.objs.size (a + i * c) ((n : Int) - i) c) ?_ n
    ⟨0, c₀, Nat.zero_le _, rfl, h0, I1, by simpa [hsize] using Heap.get?_push_size s1.heap (o := { cls := .type "range_iterator", data := .fields #[rawInt a, rawInt (Builtin.Range.rangeSize a b' c), rawInt c] }) rfl⟩
  rintro k s' ⟨i, cc, hi, rfl, hP, I', hit⟩
  by_cases hlt : i < n
  · refine wpAny_pyNext_range_item hit (by omega) fun h' hit' hs' => ?_
    have I2 := I'.but (tk := s'.toks + 1) hit ⟨_, rfl⟩ hit1 fun b o hb e => hs'.extBut b o hb e
    have I3 := I2.ext hit' ⟨_, rfl⟩ hit1
    refine wpAny_assign_Name (I3.store (rep_int ..) hx (hno cc) fun s3 I4 => ?_)
    refine wpAny_mono (turn _ i cc s3 _ hlt hP I4) (fun f s4 q => ?_) fun _ _ e => e
    have go : (∃ c', P (i + 1) c' ∧ In s₀ (bUpd B s1.heap.objs.size { cls := .type "range_iterator", dict := none, data := .fields #[rawInt (a + i * c + c), rawInt ((n : Int) - i - 1), rawInt c], slots := #[] }) env X (σ c') (own c') s4) → ∃ m, m < n - i ∧ ∃ j cc, j ≤ n ∧ m = n - j ∧ P j cc ∧ In s₀ B env X (σ cc) (own cc) s4 ∧ IsRangeIter s4.heap s1.heap.objs.size (a + j * c) ((n : Int) - j) c := by
      rintro ⟨c', hP', I5⟩
      refine ⟨n - (i + 1), by omega, i + 1, c', hlt, rfl, hP', ?_, ?_⟩
      · refine I5.weak (fun b o e => ?_) I'.base
        unfold bUpd
        rw [if_neg (fun q => by rw [q, hit1] at e; cases e)]
        exact e
      · obtain ⟨_, m, cm, cf, _⟩ := I5
        have := cf.keep s1.heap.objs.size _ (by unfold bUpd; rw [if_pos rfl])
        have e1 : a + (i : Int) * c + c = a + ((i + 1 : Nat) : Int) * c := by push_cast; rw [Int.add_mul, Int.one_mul, Int.add_assoc]
        have e2 : (n : Int) - (i : Int) - 1 = (n : Int) - ((i + 1 : Nat) : Int) := by push_cast; omega
        rw [e1, e2] at this
        exact this
    cases f with
    | next => exact go q
    | cont => exact go q
    | brk => exact q
    | ret v => exact q
  · have hin : i = n := by omega
    subst hin
    refine wpAny_pyNext_range_end hh hit (by omega) fun h' he' => wpAny_execs_nil ?_
    exact done cc _ hP (I'.but hit ⟨_, rfl⟩ hit1 fun b o hb e => he' b o hb e)

/-- while c: an invariant and a measure -/
theorem ex_while {α : Type} (σ : α → List (Str × PV)) (own : α → Option (Str × Addr × List PV)) (P : Nat → α → Prop) (bt : α → Bool) (n₀ : Nat) (c₀ : α) {test : Expr} {body orelse : List Stmt} {pos : Pos}
    (I : In s₀ B env X (σ c₀) (own c₀) s) (h0 : P n₀ c₀)
    (tst : ∀ n cc s', P n cc → In s₀ B env X (σ cc) (own cc) s' → Tst prog w A env s' test (bt cc))
    (turn : ∀ n cc s' E', P n cc → bt cc = true → In s₀ B env X (σ cc) (own cc) s' → wpAny (model prog w) A (execs body env) (Turn (fun s'' => ∃ m c', m < n ∧ P m c' ∧ In s₀ B env X (σ c') (own c') s'') (Kont prog w A env rest Q E)) E' s')
    (done : ∀ n cc s' E', P n cc → bt cc = false → In s₀ B env X (σ cc) (own cc) s' → wpAny (model prog w) A (execs orelse env) (Kont prog w A env rest Q E) E' s') :
    wpAny (model prog w) A (execs (.While test body orelse pos :: rest) env) Q E s := by
  refine wpAny_execs_cons (wpAny_While (codeAny_whileLoop (fun k s' => ∃ cc, P k cc ∧ In s₀ B env X (σ cc) (own cc) s') ?_ n₀ ⟨c₀, h0, I⟩))
  rintro k s' ⟨cc, hP, I'⟩
  refine tst k cc s' hP I' s' _ _ (keeps_refl s') fun s2 k2 => ?_
  have I2 := I'.keep k2
  cases hb : bt cc with
  | true =>
    simp only [if_true]
    refine wpAny_mono (turn k cc s2 _ hP hb I2) (fun f s3 q => ?_) fun _ _ e => e
    cases f with
    | next => obtain ⟨m, c', h1, h2, h3⟩ := q; exact ⟨m, h1, c', h2, h3⟩
    | cont => obtain ⟨m, c', h1, h2, h3⟩ := q; exact ⟨m, h1, c', h2, h3⟩
    | brk => exact q
    | ret v => exact q
  | false =>
    simp only [Bool.false_eq_true, if_false]
    exact wpAny_mono (done k cc s2 _ hP hb I2) (fun f s3 q => by cases f <;> exact q) fun _ _ e => e
end
end Mine
end

-- part B11
section
namespace Mine
open PySem PySem.Calls PyProof.Rows

/-- what is known of an environment's names -/
def Know (env : Env) (X : Addr → Prop) (σ : List (Str × PV)) (b : Shared) : Prop :=
  env.scope.kind = .function ∧ ∃ m cm, b.heap.Ns env.locals m ∧ (∀ n c, env.cells.lookup n = some c → b.heap.IsCell c (cm n)) ∧ ∀ x p, σ.lookup x = some p → ∃ v, VarOf env m cm x = some v ∧ Rep X b.heap p v

/-- the cells that a block closes over -/
def clOf (names : List (Str × NameKind)) (env : Env) : List (Str × Addr) := names.foldl (fun cs x => if x.2 == .free then (x.1, (env.cells.lookup x.1).getD 0) :: cs else cs) []
theorem forIn_fold {α β : Type} {f : α → β → Sem (ForInStep β)} {g : β → α → β} : ∀ {l : List α} (c : β), (∀ x ∈ l, ∀ c, f x c = pure (.yield (g c x))) → forIn l c f = pure (l.foldl g c)
  | [], c, _ => by rw [List.forIn_nil]; rfl
  | x :: l, c, h => by
    rw [List.forIn_cons, h x (.head _) c, List.foldl_cons]
    show forIn l (g c x) f = _
    exact forIn_fold (g c x) fun y hy => h y (.tail _ hy)
theorem closureFor_clOf {scope : Scope} {env : Env} (h : ∀ x ∈ scope.names, x.2 = .free → (env.cells.lookup x.1).isSome = true) : closureFor scope env = pure (clOf scope.names env) := by
  unfold closureFor clOf
  dsimp only
  rw [forIn_fold (g := fun (cs : List (Str × Addr)) (x : Str × NameKind) => if x.2 == NameKind.free then (x.1, (env.cells.lookup x.1).getD 0) :: cs else cs) [] ?_]
  · rfl
  intro x hx c
  obtain ⟨n, k⟩ := x
  by_cases hk : k = .free
  · subst hk
    obtain ⟨a, ha⟩ := Option.isSome_iff_exists.mp (h (n, .free) hx rfl)
    have ha' : env.cells.lookup n = some a := ha
    simp only [cellOf, ha', beq_self_eq_true, if_true, Option.getD_some]
    rfl
  · have : (k == NameKind.free) = false := by simpa using hk
    simp only [this, Bool.false_eq_true, if_false]
theorem clOf_mem {env : Env} : ∀ (names : List (Str × NameKind)) (acc : List (Str × Addr)) (n : Str) (c : Addr), (n, c) ∈ names.foldl (fun cs x => if x.2 == .free then (x.1, (env.cells.lookup x.1).getD 0) :: cs else cs) acc → (n, c) ∈ acc ∨ c = (env.cells.lookup n).getD 0
  | [], acc, n, c, h => .inl h
  | x :: r, acc, n, c, h => by
    rw [List.foldl_cons] at h
    rcases clOf_mem r _ n c h with h | h
    · split at h
      · rcases List.mem_cons.mp h with e | h
        · cases e; exact .inr rfl
        · exact .inl h
      · exact .inl h
    · exact .inr h
theorem clOf_some {env : Env} : ∀ (names : List (Str × NameKind)) (acc : List (Str × Addr)) (n : Str), ((acc.lookup n).isSome = true ∨ (n, NameKind.free) ∈ names) → ((names.foldl (fun cs x => if x.2 == .free then (x.1, (env.cells.lookup x.1).getD 0) :: cs else cs) acc).lookup n).isSome = true
  | [], acc, n, h => by
    rcases h with h | h
    · exact h
    · cases h
  | x :: r, acc, n, h => by
    rw [List.foldl_cons]
    refine clOf_some r _ n ?_
    rcases h with h | h
    · left
      split
      · rw [List.lookup_cons]
        split
        · rfl
        · exact h
      · exact h
    · rcases List.mem_cons.mp h with e | h
      · left
        subst e
        simp
      · exact .inr h
theorem clOf_lookup {env : Env} {names : List (Str × NameKind)} {n : Str} (hm : (n, NameKind.free) ∈ names) (he : (env.cells.lookup n).isSome = true) : (clOf names env).lookup n = env.cells.lookup n := by
  obtain ⟨c, hc⟩ := Option.isSome_iff_exists.mp (clOf_some names [] n (.inr hm) : ((clOf names env).lookup n).isSome = true)
  obtain ⟨a, ha⟩ := Option.isSome_iff_exists.mp he
  rcases clOf_mem names [] n c (mem_of_lookup hc) with h | h
  · cases h
  · have hc' : (clOf names env).lookup n = some c := hc
    rw [hc', h, ha]; rfl
theorem mem_of_lookup' : ∀ {l : List (Str × NameKind)} {n : Str} {k : NameKind}, l.lookup n = some k → (n, k) ∈ l := fun h => mem_of_lookup h

theorem relabel_lookup {env : Env} : ∀ {names : List (Str × NameKind)} {x : Str} {k : NameKind}, names.lookup x = some k →
    (names.map fun (n, k) => if (k == NameKind.free && env.scope.kind == .function && env.kindOf n == some .cell) then (n, NameKind.cell) else (n, k)).lookup x = some (if (k == NameKind.free && env.scope.kind == .function && env.kindOf x == some .cell) = true then .cell else k)
  | [], _, _, h => by simp at h
  | (n, k) :: r, x, k', h => by
    have ih := @relabel_lookup env r x k'
    rw [List.map_cons]
    rw [List.lookup_cons] at h
    cases hx : x == n with
    | true =>
      rw [hx] at h
      cases h
      have e := beq_iff_eq.mp hx
      subst e
      dsimp only
      split <;> rename_i hc
      · simp
      · simp
    | false =>
      rw [hx] at h
      have ih' := ih h
      dsimp only
      split <;> · rw [List.lookup_cons, hx]; exact ih'

/-- names of the outer frame that a block reads -/
def FreeOf (scope : Scope) (env : Env) (σ : List (Str × PV)) : List (Str × PV) → Prop
  | [] => True
  | (y, p) :: r => scope.names.lookup y = some .free ∧ env.kindOf y = some .cell ∧ σ.lookup y = some p ∧ FreeOf scope env σ r
theorem FreeOf.get {scope : Scope} {env : Env} {σ : List (Str × PV)} : ∀ {φ : List (Str × PV)} {y : Str} {p : PV}, FreeOf scope env σ φ → φ.lookup y = some p → scope.names.lookup y = some .free ∧ env.kindOf y = some .cell ∧ σ.lookup y = some p
  | [], _, _, _, h => by simp at h
  | (z, q) :: r, y, p, h, e => by
    rcases lookup_cons_of e with ⟨rfl, rfl⟩ | ⟨_, e⟩
    · exact ⟨h.1, h.2.1, h.2.2.1⟩
    · exact FreeOf.get h.2.2.2 e

section
variable {prog : Program} {w : World} {A : Around} {env : Env} {b : Shared} {X : Addr → Prop} {fns : List Nat} {s₀ s : Shared} {B : Addr → Option Obj} {σ : List (Str × PV)} {own : Option (Str × Addr × List PV)}

theorem In.know (I : In s₀ B env X σ own s) : Know env X σ s := by
  obtain ⟨fn, m, cm, c, hv, _⟩ := I
  exact ⟨fn, m, cm, c.ns, c.cell, hv⟩
/-- the own list's name, read while it stands -/
theorem In.knowO {y : Str} {a : Addr} {ps : List PV} (I : In s₀ B env X σ (some (y, a, ps)) s) : Know env (fun _ => False) ((y, .list ps) :: σ) s := by
  obtain ⟨fn, m, cm, c, hv, ho⟩ := I
  refine ⟨fn, m, cm, c.ns, c.cell, fun x p e => ?_⟩
  rcases lookup_cons_of e with ⟨rfl, rfl⟩ | ⟨_, e⟩
  · obtain ⟨_, _, h3, vs, h4, h5⟩ := ho x a ps rfl
    refine ⟨_, h3, ?_⟩
    simp only [Rep]
    exact ⟨a, vs, rfl, id, h4.isList, h5.mono (fun _ _ _ e _ => e) fun _ _ _ h => h.elim⟩
  · obtain ⟨v, h1, h2⟩ := hv x p e
    exact ⟨v, h1, h2.mono (fun _ _ _ e _ => e) fun _ _ _ h => h.elim⟩
theorem Know.up {b' : Shared} (K : Know env X σ b) (k : Keeps b b') : Know env X σ b' := by
  obtain ⟨fn, m, cm, h1, h2, h3⟩ := K
  exact ⟨fn, m, cm, h1.keeps (keeps_grow k), fun n c e => (h2 n c e).keeps (keeps_grow k), fun x p e => let ⟨v, g1, g2⟩ := h3 x p e; ⟨v, g1, g2.keep (keeps_grow k)⟩⟩
theorem Know.ev {x : Str} {p : PV} (K : Know env X σ b) (hx : σ.lookup x = some p) {pos : Pos} (hd : (x == ("__debug__" : Str)) = false := by decide) : Ev prog w A env b X (.Name x pos) p := fun s E Q hb hQ => by
  obtain ⟨fn, m, cm, h1, h2, h3⟩ := K.up hb
  obtain ⟨v, g1, g2⟩ := h3 x p hx
  have fin := hQ v s (keeps_refl s) g2
  unfold VarOf at g1
  split at g1
  · rename_i hk
    exact wpAny_Name (wpAny_loadName_local fn hk h1 g1 fin) hd
  · rename_i hk
    split at g1
    · rename_i hc
      obtain ⟨c, hc⟩ := Option.isSome_iff_exists.mp hc
      exact wpAny_Name (wpAny_loadName_cell fn hk hc (g1 ▸ h2 x c hc) fin) hd
    · cases g1
  · cases g1

/-- what is known in a block -/
theorem know_comp {scope : Scope} {C : Addr} {m₂ : Str → Option Value} {τ φ : List (Str × PV)} {b' : Shared} {Y : Addr → Prop} (K : Know env X σ b) (hg : ∀ c o, b.heap.get? c = some o → b'.heap.get? c = some o)
    (hXY : ∀ p v, Rep X b.heap p v → Rep Y b'.heap p v) (hkind : scope.kind = .function) (hcells : ∀ x ∈ scope.names, x.2 = .free → (env.cells.lookup x.1).isSome = true)
    (hn : b'.heap.Ns C m₂) (hτ : ∀ x p, τ.lookup x = some p → scope.names.lookup x = some .local ∧ ∃ v, m₂ x = some v ∧ Rep Y b'.heap p v) (hφ : FreeOf scope env σ φ) :
    Know (compEnvC scope (clOf scope.names env) C env) Y (τ ++ φ) b' := by
  obtain ⟨fn, m, cm, h1, h2, h3⟩ := K
  refine ⟨hkind, m₂, cm, hn, fun n c e => ?_, fun x p e => ?_⟩
  · have hc : (n, c) ∈ clOf scope.names env := mem_of_lookup e
    rcases clOf_mem scope.names [] n c hc with h | h
    · cases h
    · have hsome : (env.cells.lookup n).isSome = true := by
        have key : ∀ (names : List (Str × NameKind)) (acc : List (Str × Addr)), (n, c) ∈ names.foldl (fun cs x => if x.2 == .free then (x.1, (env.cells.lookup x.1).getD 0) :: cs else cs) acc → (n, c) ∈ acc ∨ (n, NameKind.free) ∈ names := by
          intro names
          induction names with
          | nil => intro acc h; exact .inl h
          | cons x r ih =>
            intro acc h
            rw [List.foldl_cons] at h
            rcases ih _ h with h | h
            · split at h
              · rename_i hx
                rcases List.mem_cons.mp h with e | h
                · obtain ⟨n', k'⟩ := x
                  simp only [Prod.mk.injEq] at e
                  have : k' = NameKind.free := by simpa using hx
                  subst this
                  rw [e.1]
                  exact .inr (.head _)
                · exact .inl h
              · exact .inl h
            · exact .inr (.tail _ h)
        rcases key scope.names [] hc with h | h
        · cases h
        · exact hcells _ h rfl
      obtain ⟨a, ha⟩ := Option.isSome_iff_exists.mp hsome
      have : c = a := by rw [h, ha]; rfl
      subst this
      obtain ⟨o, ho, hd⟩ := h2 n c ha
      exact ⟨o, hg c o ho, hd⟩
  · have split_lookup : τ.lookup x = some p ∨ (τ.lookup x = none ∧ φ.lookup x = some p) := by
      rw [List.lookup_append] at e
      cases ht : τ.lookup x with
      | some q => rw [ht] at e; exact .inl e
      | none => rw [ht] at e; exact .inr ⟨rfl, e⟩
    rcases split_lookup with ht | ⟨_, hf⟩
    · obtain ⟨hl, v, g1, g2⟩ := hτ x p ht
      refine ⟨v, ?_, g2⟩
      unfold VarOf
      have : (compEnvC scope (clOf scope.names env) C env).kindOf x = some .local := by
        show (relabel scope env).names.lookup x = _
        unfold relabel
        exact lookup_relabel_local hl
      rw [this]
      exact g1
    · obtain ⟨hl, hc, hσ⟩ := hφ.get hf
      obtain ⟨v, g1, g2⟩ := h3 x p hσ
      refine ⟨v, ?_, hXY p v g2⟩
      unfold VarOf at g1 ⊢
      have hk : (compEnvC scope (clOf scope.names env) C env).kindOf x = some .cell := by
        show (relabel scope env).names.lookup x = _
        unfold relabel
        rw [relabel_lookup hl, fn, hc]
        rfl
      rw [hk]
      rw [hc] at g1
      simp only at g1 ⊢
      split at g1
      · rename_i hs
        have : ((compEnvC scope (clOf scope.names env) C env).cells.lookup x).isSome = true := by
          show ((clOf scope.names env).lookup x).isSome = true
          exact clOf_some scope.names [] x (.inr (mem_of_lookup hl))
        rw [if_pos this]
        exact g1
      · cases g1
end
end Mine
end

-- part B12
section
namespace Mine
open PySem PySem.Calls PyProof.Rows

section
variable (prog : Program) (w : World) (A : Around) (env : Env) (b : Shared) (X : Addr → Prop)
/-- what is iterated: its items, one by one -/
def EvSrc {ι : Type} (iter : Expr) (its : List ι) (q : ι → PV) : Prop :=
  ∀ (s : Shared) (E : Value → Shared → Prop) (Q : Value → Shared → Prop), Keeps b s →
    (∀ (I : Addr) (fp wr : List Addr) (P : Nat → Value → Prop) (St : Nat → Heap → Prop) (s1 s2 : Shared), Keeps s s1 → Keeps s1 s2 → Walks prog w A I fp wr its.length P St → St 0 s2.heap → (∀ c ∈ fp, c < s2.heap.objs.size) → (∀ c ∈ wr, s1.heap.get? c = none) →
      (∀ i h, St i h → ∀ c ∈ wr, ∃ o, h.get? c = some o ∧ ∀ xs n, o.data ≠ .seq xs n) → (∀ i v, i < its.length → P i v → ∃ a, its[i]? = some a ∧ Rep X s1.heap (q a) v) → Q (.ref I) s2) →
    wpAny (model prog w) A (eval iter env) (fun xv s1 => wpAny (model prog w) A (pyIter xv) Q E s1) E s
/-- the tests of a block -/
def TstAll (cs : List Expr) (β : Bool) : Prop :=
  ∀ (s : Shared) (E : Value → Shared → Prop) (Q : Bool → Shared → Prop), Keeps b s → (∀ s', Keeps s s' → Q β s') →
    wpAny (model prog w) A (forIn cs true fun c r => if r = true then do let ok ← isTrue c env (eval c env); pure (ForInStep.yield ok) else pure (ForInStep.yield r)) Q E s
end

section
variable {prog : Program} {w : World} {A : Around} {env : Env} {b : Shared} {X : Addr → Prop} {fns : List Nat} {s₀ s : Shared} {B : Addr → Option Obj} {σ φ : List (Str × PV)} {own : Option (Str × Addr × List PV)}

theorem tstAll_nil : TstAll prog w A env b [] true := fun s E Q _ hQ => wpAny_tests_nil (hQ s (keeps_refl s))
theorem tstAll_one {c : Expr} {β : Bool} (h : Tst prog w A env b c β) : TstAll prog w A env b [c] β := fun s E Q hb hQ => wpAny_tests_one (h s E Q hb hQ)

theorem Rep.change {X : Addr → Prop} {h h' : Heap} (hk : ∀ b o, ¬ X b → h.get? b = some o → (∃ xs n, o.data = .seq xs n) → h'.get? b = some o) {p : PV} {v : Value} (r : Rep X h p v) : Rep X h' p v := r.mono hk fun _ _ _ y => y
theorem RepL.change {X : Addr → Prop} {h h' : Heap} (hk : ∀ b o, ¬ X b → h.get? b = some o → (∃ xs n, o.data = .seq xs n) → h'.get? b = some o) {p : List PV} {v : List Value} (r : RepL X h p v) : RepL X h' p v := r.mono hk fun _ _ _ y => y

set_option maxHeartbeats 1000000 in
theorem comp_core {ι : Type} {its : List ι} {q f : ι → PV} {t : ι → Bool} {elt iter : Expr} {x : Str} {px pos : Pos} {ifs : List Expr} {scope : Scope} {I : Addr} {fp wr : List Addr} {P : Nat → Value → Prop} {St : Nat → Heap → Prop} {s1 s2 : Shared} {E : Value → Shared → Prop}
    {RR : Value → Addr → Result → Shared → Prop}
    (K : Know env X σ b) (hφ : FreeOf scope env σ φ) (hX : XOk X b) (hkind : scope.kind = .function) (hcell : ∀ y ∈ scope.names, y.2 ≠ .cell) (hcells : ∀ x ∈ scope.names, x.2 = .free → (env.cells.lookup x.1).isSome = true) (hx : scope.names.lookup x = some .local)
    (htst : ∀ (X' : Addr → Prop) (C : Addr) (b' : Shared) (a : ι), (∀ c, X c → X' c) → Keeps b b' → XOk X' b' → a ∈ its → Know (compEnvC scope (clOf scope.names env) C env) X' ((x, q a) :: φ) b' → TstAll prog w A (compEnvC scope (clOf scope.names env) C env) b' ifs (t a))
    (helt : ∀ (X' : Addr → Prop) (C : Addr) (b' : Shared) (a : ι), (∀ c, X c → X' c) → Keeps b b' → XOk X' b' → a ∈ its → t a = true → Know (compEnvC scope (clOf scope.names env) C env) X' ((x, q a) :: φ) b' → Ev prog w A (compEnvC scope (clOf scope.names env) C env) b' X' elt (f a))
    (hsz : its.length ≤ 16777216) (k1 : Keeps b s1) (k2 : Keeps s1 s2) (W : Walks prog w A I fp wr its.length P St) (hst : St 0 s2.heap) (hfp : ∀ c ∈ fp, c < s2.heap.objs.size) (hwr : ∀ c ∈ wr, s1.heap.get? c = none)
    (hns : ∀ i h, St i h → ∀ c ∈ wr, ∃ o, h.get? c = some o ∧ ∀ xs n, o.data ≠ .seq xs n) (hP : ∀ i v, i < its.length → P i v → ∃ a, its[i]? = some a ∧ Rep X s1.heap (q a) v)
    (hRR : ∀ (D C : Addr) (s' : Shared) (ys : List Value), Keeps s1 s' → s1.heap.get? D = none → s1.heap.get? C = none → D ≠ C → (∃ m', s'.heap.Ns C m') → s'.heap.PlainList D ys.toArray → RepL (fun c => X c ∨ c = D) s'.heap ((its.filter t).map f) ys → RR (.ref D) C (.ok .next) s') :
    wpAny (model prog w) A (newList []) (fun acc s₃ => wpAny (model prog w) A (newFunctionEnv scope env.globals (clOf scope.names env) [] env.qual none .none (some env)) (fun cenv s₄ =>
      codeAny (model prog w) A (.compStart (.ListComp elt [⟨.Name x px, iter, ifs, 0⟩] scope pos) 0 (.ref I) acc { cenv with scope := relabel scope env }) (RR acc cenv.locals) s₄) E s₃) E s2 := by
  refine wpAny_newObj_type (wpAny_newFunctionEnv hcell (by intro y hy; simp at hy) (fun h₁ hns₁ hsb₁ => ?_) hkind)
  dsimp only at hns₁ hsb₁ ⊢
  generalize hH2 : s2.heap.push { cls := .type "list", dict := none, data := .seq ([] : List Value).toArray } = H2 at hns₁ hsb₁ ⊢
  have hC : H2.objs.size = s2.heap.objs.size + 1 := by rw [← hH2, Heap.size_push]
  generalize hD' : s2.heap.objs.size = D at hC ⊢
  generalize hC' : H2.objs.size = C at hC hns₁ hsb₁ ⊢
  have hDC : D ≠ C := by omega
  have hDn : s2.heap.get? D = none := by rw [← hD']; exact none_size _
  have hCn : s2.heap.get? C = none := by
    cases e : s2.heap.get? C with
    | none => rfl
    | some o =>
      have h9 : C < D := hD' ▸ Heap.lt_size e
      exact absurd h9 (by rw [hC]; exact Nat.not_lt.mpr (Nat.le_succ D))
  have hDf : D ∉ fp := fun hm => by
    have h9 := hfp _ hm
    rw [hD'] at h9
    exact Nat.lt_irrefl D h9
  have hCf : C ∉ fp := fun hm => by
    have h9 := hfp _ hm
    rw [hD'] at h9
    exact absurd h9 (by rw [hC]; exact Nat.not_lt.mpr (Nat.le_succ D))
  have hDw : D ∉ wr := fun h => hDf (W.sub _ h)
  have hCw : C ∉ wr := fun h => hCf (W.sub _ h)
  have old : Grow s2.heap h₁ := fun b o e => hsb₁.extBut b o (fun q => by rw [q, hCn] at e; cases e) (Heap.get?_push_of_some _ (hH2 ▸ Heap.get?_push_of_some _ e))
  have hacc : h₁.PlainList D #[] := ⟨0, hsb₁.extBut _ _ hDC (Heap.get?_push_of_some _ (hH2 ▸ hD' ▸ Heap.get?_push_size _ rfl))⟩
  have hst₁ : St 0 h₁ := W.frame _ _ _ hst fun b _ o e => old b o e
  have hD1 : s1.heap.get? D = none := fresh_back k2 hDn
  have hC1 : s1.heap.get? C = none := fresh_back k2 hCn
  have g1 : Grow s1.heap h₁ := (keeps_grow k2).trans old
  obtain ⟨h₂, tk₂, hs2, _⟩ := id k2
  have loop : ∀ s₃ : Shared, s₃ = { s2 with heap := h₁, toks := s2.toks + ([] : List (Str × Value)).length } →
      codeAny (model prog w) A (.compLoop (.ListComp elt [⟨.Name x px, iter, ifs, 0⟩] scope pos) 0 (.ref I) (.ref D) (compEnvC scope (clOf scope.names env) C env)) (RR (.ref D) C) s₃ := by
    rintro s₃ rfl
    refine codeAny_compLoop_tests (fun k s' => ∃ h' tk m' ys i, s' = { s2 with heap := h', toks := tk } ∧ St i h' ∧ h'.PlainList D ys.toArray ∧ h'.Ns C m' ∧ i ≤ its.length ∧ k = its.length - i ∧ Grow s1.heap h' ∧ RepL (fun c => X c ∨ c = D) h' (((its.take i).filter t).map f) ys) ?_ its.length
      ⟨h₁, _, _, [], 0, rfl, hst₁, by simpa using hacc, hns₁, Nat.zero_le _, rfl, g1, by simp [RepL]⟩
    rintro k s' ⟨H, tk, m', ys, i, rfl, hst', hacc', hn', hi, rfl, hg, hR⟩
    have knk : ∀ (h' : Heap) (tk : Nat), Grow s1.heap h' → Keeps s1 { s2 with heap := h', toks := tk } := fun h' tk hg => ⟨h', tk, by rw [hs2], hg⟩
    by_cases hlt : i < its.length
    · refine W.item i _ _ _ hlt hst' fun v h2 tk2 hPv hst2 hk2 => ?_
      obtain ⟨a, ha, hrep⟩ := hP i v hlt hPv
      have hmem : a ∈ its := List.mem_of_getElem? ha
      refine wpAny_assign_Name (wpAny_storeName_local (lookup_relabel_local hx) (hn'.at' fun o e => hk2 _ o hCw e) (fun h3 hn3 hs3 => ?_) (by simp [compEnvC, relabel, hkind]))
      have hn3' : h3.Ns C (fun y => if y = x then some v else m' y) := hn3
      have hs3' : Heap.SameBut C h2 h3 := hs3
      -- what is kept up to here
      have g3 : Grow s1.heap h3 := fun c o e => hs3'.extBut c o (fun q => by rw [q, hC1] at e; cases e) (hk2 c o (fun hc => by rw [hwr c hc] at e; cases e) (hg c o e))
      have seq3 : ∀ c o, H.get? c = some o → (∃ xs n, o.data = .seq xs n) → h3.get? c = some o := fun c o e hd => by
        have hcw : c ∉ wr := fun hc => by
          obtain ⟨o', e', hno⟩ := hns i H hst' c hc
          rw [e] at e'; cases e'
          obtain ⟨xs, n, hd⟩ := hd
          exact hno xs n hd
        refine hs3'.extBut c o (fun q => ?_) (hk2 c o hcw e)
        obtain ⟨o', e', hno⟩ := ns_noseq hn'
        rw [q] at e
        rw [e] at e'; cases e'
        obtain ⟨xs, n, hd⟩ := hd
        exact hno xs n hd
      have hacc3 : h3.PlainList D ys.toArray := hacc'.at fun o e => hs3'.extBut _ o hDC (hk2 _ o hDw e)
      have hst3 : St (i + 1) h3 := W.frame _ _ _ hst2 fun c hc o e => hs3'.extBut c o (fun q => hCf (q ▸ hc)) e
      have hR3 : RepL (fun c => X c ∨ c = D) h3 (((its.take i).filter t).map f) ys := hR.change fun c o _ e hd => seq3 c o e hd
      have kb : ∀ (h' : Heap) (tk : Nat), Grow s1.heap h' → Keeps b { s2 with heap := h', toks := tk } := fun h' tk hg => keeps_trans k1 (knk h' tk hg)
      have hXD : ∀ (h' : Heap) (tk : Nat), Grow s1.heap h' → h'.PlainList D ys.toArray → XOk (fun c => X c ∨ c = D) { s2 with heap := h', toks := tk } := fun h' tk hg hp c hc => by
        rcases hc with hc | rfl
        · exact (hX.keep (kb h' tk hg)) c hc
        · obtain ⟨n, e⟩ := hp; exact ⟨_, e⟩
      have know3 : ∀ (h' : Heap) (tk : Nat) (m3 : Str → Option Value), Grow s1.heap h' → h'.Ns C m3 → m3 x = some v → Know (compEnvC scope (clOf scope.names env) C env) (fun c => X c ∨ c = D) ((x, q a) :: φ) { s2 with heap := h', toks := tk } := fun h' tk m3 hg hn hm => by
        have up : ∀ {s5 : Shared}, Grow s5.heap s1.heap → ∀ p v, Rep X s5.heap p v → Rep (fun c => X c ∨ c = D) h' p v := fun {s5} g5 p v r => r.mono (fun c o _ e _ => hg c o (g5 c o e)) fun c o e hc => by
          rcases hc with hc | rfl
          · exact hc
          · have := g5 _ _ e; rw [hD1] at this; cases this
        refine know_comp (τ := [(x, q a)]) K (fun c o e => hg c o (keeps_grow k1 c o e)) (up (keeps_grow k1)) hkind hcells hn (fun y p e => ?_) hφ
        rcases lookup_cons_of e with ⟨rfl, rfl⟩ | ⟨_, e⟩
        · exact ⟨hx, v, hm, up (s5 := s1) (Grow.refl _) _ _ hrep⟩
        · simp at e
      refine htst _ C _ a (fun c hc => .inl hc) (kb h3 (tk2 + 1) g3) (hXD h3 (tk2 + 1) g3 hacc3) hmem (know3 h3 (tk2 + 1) _ g3 hn3' (by simp)) _ _ _ (keeps_refl _) fun s4 k4 => ?_
      obtain ⟨h4, tk4, rfl, hk4⟩ := k4
      have g4 : Grow s1.heap h4 := g3.trans hk4
      have hacc4 : h4.PlainList D ys.toArray := hacc3.at fun o e => hk4 _ o e
      have hst4 : St (i + 1) h4 := W.frame _ _ _ hst3 fun c _ o e => hk4 c o e
      have hR4 := hR3.keep (h' := h4) hk4
      have hn4 := hn3'.keeps hk4
      have htake : its.take (i + 1) = its.take i ++ [a] := by rw [List.take_add_one, ha]; rfl
      cases hta : t a with
      | false =>
        simp only [Bool.false_eq_true, if_false]
        refine ⟨its.length - (i + 1), by omega, h4, tk4, _, ys, i + 1, rfl, hst4, hacc4, hn4, hlt, rfl, g4, ?_⟩
        rw [htake, List.filter_append]
        simpa [hta] using hR4
      | true =>
        simp only [if_true]
        refine helt _ C { s2 with heap := h4, toks := tk4 } a (fun c hc => .inl hc) (kb h4 tk4 g4) (hXD h4 tk4 g4 hacc4) hmem hta (know3 h4 tk4 _ g4 hn4 (by simp)) _ _ _ (keeps_refl _) fun y s5 k5 hy => ?_
        obtain ⟨h5, tk5, rfl, hk5⟩ := k5
        have hylen : ys.length ≤ its.length := by
          rw [hR.length, List.length_map]
          refine Nat.le_trans (List.length_filter_le _ _) ?_
          rw [List.length_take]; omega
        refine wpAny_list_append_plain (hacc4.at fun o e => hk5 _ o e) (fun h6 hl6 hs6 => ?_) (by rw [List.size_toArray, sizeLine_eq]; omega)
        have e1 : ys.toArray.push y = (ys ++ [y]).toArray := by simp
        rw [e1] at hl6
        refine ⟨its.length - (i + 1), by omega, h6, tk5, _, ys ++ [y], i + 1, rfl, ?_, hl6, (hn4.keeps hk5).sameBut hs6 (Ne.symm hDC), hlt, rfl, ?_, ?_⟩
        · exact W.frame _ _ _ hst4 fun c hc o e => hs6.extBut c o (fun q => hDf (q ▸ hc)) (hk5 c o e)
        · exact fun c o e => hs6.extBut c o (fun q => by rw [q, hD1] at e; cases e) (hk5 c o (g4 c o e))
        · rw [htake, List.filter_append, List.map_append]
          have e2 : List.map f (List.filter t [a]) = [f a] := by simp [hta]
          rw [e2]
          have ch : ∀ c o, ¬ (X c ∨ c = D) → h5.get? c = some o → (∃ xs n, o.data = .seq xs n) → h6.get? c = some o := fun c o hc e _ => hs6.extBut c o (fun q => hc (.inr q)) e
          exact ((hR4.keep (h' := h5) hk5).change ch).snoc (hy.change ch)
    · have hin : i = its.length := by omega
      subst hin
      refine W.done _ _ _ hst' fun h2 tk2 hk2 => ?_
      have g2 : Grow s1.heap h2 := fun c o e => hk2 c o (fun hc => by rw [hwr c hc] at e; cases e) (hg c o e)
      refine hRR D C _ ys (knk h2 tk2 g2) hD1 hC1 hDC ⟨m', hn'.at' fun o e => hk2 _ o hCw e⟩ (hacc'.at fun o e => hk2 _ o hDw e) ?_
      rw [List.take_length] at hR
      refine hR.change fun c o _ e hd => hk2 c o (fun hc => ?_) e
      obtain ⟨o', e', hno⟩ := hns _ H hst' c hc
      rw [e] at e'; cases e'
      obtain ⟨xs, n, hd⟩ := hd
      exact hno xs n hd
  exact codeAny_compStart_list (loop _ rfl) (W.self 0 _ _ _ hst₁ (loop _ rfl))
end
end Mine
end

-- part B13
section
namespace Mine
open PySem PySem.Calls PyProof.Rows

section
variable {prog : Program} {w : World} {A : Around} {env : Env} {b : Shared} {X : Addr → Prop} {fns : List Nat} {s₀ s : Shared} {B : Addr → Option Obj} {σ φ : List (Str × PV)} {own : Option (Str × Addr × List PV)}
  {E : Value → Shared → Prop} {Q : Flow → Shared → Prop} {rest : List Stmt}

theorem In.ext' {it : Addr} {o : Obj} (I : In s₀ B env X σ own s) (ho : s.heap.get? it = some o) (hds : ∀ xs n, o.data ≠ .seq xs n) (hdc : ∀ v, o.data ≠ .cell v) (hL : env.locals ≠ it) (hB : B it = none) : In s₀ (bUpd B it o) env X σ own s := by
  obtain ⟨fn, m, cm, c, hv, hw⟩ := I
  have hC : ∀ n a, env.cells.lookup n = some a → a ≠ it := fun n a h e => by
    obtain ⟨o', h1, h2⟩ := c.cell n a h
    rw [e, ho] at h1; cases h1
    exact hdc _ h2
  refine ⟨fn, m, cm, ⟨c.same, fun b o' e => ?_, fun b o' e => ?_, c.ns, ?_, c.cell, c.apart, fun n a h => ⟨?_, (c.freshC n a h).2⟩⟩, hv, fun y a ps e => ?_⟩
  · unfold bUpd
    by_cases q : b = it
    · rw [q] at e
      have := c.base it o' e
      rw [hB] at this; cases this
    · rw [if_neg q]; exact c.base b o' e
  · unfold bUpd at e
    by_cases q : b = it
    · rw [if_pos q] at e; cases e; rw [q]; exact ho
    · rw [if_neg q] at e; exact c.keep b o' e
  · unfold bUpd; rw [if_neg hL]; exact c.freshL
  · unfold bUpd; rw [if_neg (hC n a h)]; exact (c.freshC n a h).1
  · obtain ⟨h1, h2, h3, vs, h4, h5⟩ := hw y a ps e
    refine ⟨h1, ?_, h3, vs, h4, h5⟩
    have : a ≠ it := fun q => by
      obtain ⟨n, h4⟩ := h4
      rw [q, ho] at h4; cases h4
      exact hds _ _ rfl
    unfold bUpd; rw [if_neg this]; exact h2
/-- the block's scope, as a comprehension with one plain name wants it -/
structure ScOk (scope : Scope) (env : Env) (x : Str) : Prop where
  kind : scope.kind = .function
  cell : ∀ y ∈ scope.names, y.2 ≠ .cell
  cells : ∀ x ∈ scope.names, x.2 = .free → (env.cells.lookup x.1).isSome = true
  x : scope.names.lookup x = some .local
  names : ∀ x ∈ scope.names, x.2 = .local → scope.names.lookup x.1 = some .local

set_option maxHeartbeats 1000000 in
theorem evNew_comp {ι : Type} {its : List ι} {q : ι → PV} (f : ι → PV) (t : ι → Bool) (φ : List (Str × PV)) {elt iter : Expr} {x : Str} {px pos : Pos} {ifs : List Expr} {scope : Scope}
    (K : Know env X σ b) (sc : ScOk scope env x) (hφ : FreeOf scope env σ φ) (hX : XOk X b) (src : EvSrc prog w A env b X iter its q)
    (htst : ∀ (X' : Addr → Prop) (C : Addr) (b' : Shared) (a : ι), (∀ c, X c → X' c) → Keeps b b' → XOk X' b' → a ∈ its → Know (compEnvC scope (clOf scope.names env) C env) X' ((x, q a) :: φ) b' → TstAll prog w A (compEnvC scope (clOf scope.names env) C env) b' ifs (t a))
    (helt : ∀ (X' : Addr → Prop) (C : Addr) (b' : Shared) (a : ι), (∀ c, X c → X' c) → Keeps b b' → XOk X' b' → a ∈ its → t a = true → Know (compEnvC scope (clOf scope.names env) C env) X' ((x, q a) :: φ) b' → Ev prog w A (compEnvC scope (clOf scope.names env) C env) b' X' elt (f a))
    (hsz : its.length ≤ 16777216) (hs : ∀ x, foldedSetIterable iter env x = pure x := by intro _; rfl) :
    EvNew prog w A env b X (.ListComp elt [⟨.Name x px, iter, ifs, 0⟩] scope pos) ((its.filter t).map f) := fun s E Q hb hQ => by
  rw [eval_ListComp]
  refine wpAny_comprehension_free (e := .ListComp elt [⟨.Name x px, iter, ifs, 0⟩] scope pos) (use := none) (g := ⟨.Name x px, iter, ifs, 0⟩) (gs := []) rfl hs (closureFor_clOf sc.cells) sc.kind sc.names ?_
  refine src s E _ hb fun I fp wr P St s1 s2 k1 k2 W hst hfp hwr hns hP => ?_
  refine comp_core (RR := fun acc C => compPost (model prog w) A E none Q acc C) K hφ hX sc.kind sc.cell sc.cells sc.x htst helt hsz (keeps_trans hb k1) k2 W hst hfp hwr hns hP fun D C s' ys k3 hD hC hDC hn hp hr => ?_
  obtain ⟨m', hn⟩ := hn
  refine ⟨m', hn, fun h' hs' => hQ D ys _ ?_ (fresh_back k1 hD) (hp.at fun o e => hs'.extBut _ _ hDC e) (hr.same (ns_noseq hn) hs')⟩
  obtain ⟨h3, tk3, rfl, g3⟩ := k3
  obtain ⟨h1, tk1, rfl, g1⟩ := k1
  exact ⟨h', tk3, rfl, fun c o e => hs'.extBut c o (fun q => by rw [q, fresh_back ⟨h1, tk1, rfl, g1⟩ hC] at e; cases e) (g3 c o (g1 c o e))⟩

set_option maxHeartbeats 1000000 in
/-- y = [.. for x in ..], y a local name -/
theorem ex_assign_comp {ι : Type} {its : List ι} {q : ι → PV} (f : ι → PV) (t : ι → Bool) (φ : List (Str × PV)) {elt iter : Expr} {x y : Str} {px py pos pos' : Pos} {ifs : List Expr} {scope : Scope}
    (I : In s₀ B env X σ own s) (sc : ScOk scope env x) (hφ : FreeOf scope env σ φ) (hX : XOk X s) (src : EvSrc prog w A env s X iter its q)
    (htst : ∀ (X' : Addr → Prop) (C : Addr) (b' : Shared) (a : ι), (∀ c, X c → X' c) → Keeps s b' → XOk X' b' → a ∈ its → Know (compEnvC scope (clOf scope.names env) C env) X' ((x, q a) :: φ) b' → TstAll prog w A (compEnvC scope (clOf scope.names env) C env) b' ifs (t a))
    (helt : ∀ (X' : Addr → Prop) (C : Addr) (b' : Shared) (a : ι), (∀ c, X c → X' c) → Keeps s b' → XOk X' b' → a ∈ its → t a = true → Know (compEnvC scope (clOf scope.names env) C env) X' ((x, q a) :: φ) b' → Ev prog w A (compEnvC scope (clOf scope.names env) C env) b' X' elt (f a))
    (hsz : its.length ≤ 16777216) (hy : StoreOk env y) (hno : OwnNe own y)
    (h : ∀ s', In s₀ B env X ((y, .list ((its.filter t).map f)) :: σ) own s' → wpAny (model prog w) A (execs rest env) Q E s')
    (hsw : swapsWith (.ListComp elt [⟨.Name x px, iter, ifs, 0⟩] scope pos) (some (.Name y py)) pos'.line env = pure true := by rfl) (hs : ∀ x, foldedSetIterable iter env x = pure x := by intro _; rfl) :
    wpAny (model prog w) A (execs (.Assign [.Name y py] (.ListComp elt [⟨.Name x px, iter, ifs, 0⟩] scope pos) pos' :: rest) env) Q E s := by
  refine wpAny_execs_cons ?_
  rw [exec_Assign_Name_used _ _ _ _ hsw, arm_evalThenUse_ListComp]
  refine wpAny_bind (wpAny_standAt (wpAny_bind ?_))
  dsimp only
  refine wpAny_bind ?_
  refine wpAny_comprehension_free (e := .ListComp elt [⟨.Name x px, iter, ifs, 0⟩] scope pos) (use := some (assign (.Name y py) env)) (g := ⟨.Name x px, iter, ifs, 0⟩) (gs := []) rfl hs (closureFor_clOf sc.cells) sc.kind sc.names ?_
  refine src s E _ (keeps_refl s) fun It fp wr P St s1 s2 k1 k2 W hst hfp hwr hns hP => ?_
  refine comp_core (RR := fun acc C => compPost (model prog w) A E (some (assign (.Name y py) env)) _ acc C) I.know hφ hX sc.kind sc.cell sc.cells sc.x htst helt hsz k1 k2 W hst hfp hwr hns hP fun D C s' ys k3 hD hC hDC hn hp hr => ?_
  obtain ⟨m', hn⟩ := hn
  have kk : Keeps s s' := keeps_trans k1 k3
  have hnX : ¬ X D := hX.off (fresh_back k1 hD)
  have hrep : Rep X s'.heap (.list ((its.filter t).map f)) (.ref D) := by
    simp only [Rep]
    exact ⟨D, ys, rfl, hnX, hp.isList, hr.older⟩
  have hCs : s.heap.get? C = none := fresh_back k1 hC
  have I' := I.keep kk
  -- the block's frame is held to stand
  obtain ⟨oC, esC, epC, hoC, hdC, hrestC⟩ := id hn
  have hBC : B C = none := by
    cases e : B C with
    | none => rfl
    | some o =>
      obtain ⟨fn, m, cm, c, _⟩ := I
      have := c.keep C o e
      rw [hCs] at this; cases this
  have hLC : env.locals ≠ C := fun e => by
    obtain ⟨fn, m, cm, c, _⟩ := I
    obtain ⟨o', es, ep, h1, _⟩ := c.ns
    rw [e, hCs] at h1; cases h1
  have hds : ∀ xs n, oC.data ≠ .seq xs n := fun xs n e => by rw [hdC] at e; cases e
  have hdc : ∀ v, oC.data ≠ .cell v := fun v e => by rw [hdC] at e; cases e
  have I2 := I'.ext' hoC hds hdc hLC hBC
  refine wpAny_assign_Name (I2.store hrep hy hno fun s'' I'' => ⟨m', ?_, fun h' hs' => ?_⟩)
  · have hk : s''.heap.get? C = some oC := by
      obtain ⟨fn, m, cm, c, _⟩ := I''
      exact c.keep C oC (by unfold bUpd; rw [if_pos rfl])
    exact ⟨oC, esC, epC, hk, hdC, hrestC⟩
  · have hk : s''.heap.get? C = some oC := by
      obtain ⟨fn, m, cm, c, _⟩ := I''
      exact c.keep C oC (by unfold bUpd; rw [if_pos rfl])
    have I3 : In s₀ B env X ((y, .list ((its.filter t).map f)) :: σ) own s'' := I''.weak (fun b o e => by
      unfold bUpd
      by_cases q : b = C
      · rw [q, hBC] at e; cases e
      · rw [if_neg q]; exact e) I.base
    exact wpAny_pure (wpAny_pure (h _ (I3.elsewhere (tk := s''.toks) hk hds hdc hLC hBC fun b o hb e => hs'.extBut b o hb e)))
end
end Mine
end

-- part B14
section
namespace Mine
open PySem PySem.Calls PyProof.Rows

section
variable {prog : Program} {w : World} {A : Around} {env : Env} {b : Shared} {X : Addr → Prop} {fns : List Nat}

theorem evSrc_range {iter : Expr} {a : Int} {n : Nat} {c : Int} (hh : A.handled = none) (hr : EvRange prog w A env b iter a n c) : EvSrc prog w A env b X iter (List.range n) (fun i => .int (a + i * c)) := fun s E Q hb hQ =>
  hr s E _ hb fun r s1 b' t u v k1 hrange hsmall hsize => wpAny_pyIter_range hrange hsmall (by
    have hit : IsRangeIter (s1.heap.push { cls := .type "range_iterator", data := .fields #[rawInt a, rawInt (Builtin.Range.rangeSize a b' c), rawInt c] }) s1.heap.objs.size (a + (0 : Nat) * c) ((n : Int) - (0 : Nat)) c := by
      simpa [hsize] using Heap.get?_push_size s1.heap (o := { cls := .type "range_iterator", data := .fields #[rawInt a, rawInt (Builtin.Range.rangeSize a b' c), rawInt c] }) rfl
    refine hQ _ [s1.heap.objs.size] [s1.heap.objs.size] (fun i v => ∃ t, v = .int (a + i * c) t) (fun i h => IsRangeIter h s1.heap.objs.size (a + (i : Nat) * c) ((n : Int) - (i : Nat)) c) s1 _ k1 (keeps_push' s1 _) ?_ hit ?_ ?_ ?_ ?_
    · have := Walks.range (prog := prog) (w := w) hh s1.heap.objs.size a c n
      simpa using this
    · intro c hc
      rw [List.mem_singleton.mp hc]
      exact Heap.lt_size hit
    · intro c hc
      rw [List.mem_singleton.mp hc]
      exact none_size _
    · intro i h st c hc
      rw [List.mem_singleton.mp hc]
      exact ⟨_, st, fun xs n e => by cases e⟩
    · rintro i v hlt ⟨t, rfl⟩
      exact ⟨i, by simp at hlt; simp [hlt], rep_int ..⟩)

theorem evSrc_list {iter : Expr} {ps : List PV} (hh : A.handled = none) (h : EvO prog w A env b X iter ps) : EvSrc prog w A env b X iter ps (fun p => p) := fun s E Q hb hQ =>
  h s E _ hb fun a vs s1 k1 hl hr => wpAny_pyIter_list hl (by
    have hlt : a < s1.heap.objs.size := by obtain ⟨_, e, _⟩ := hl; exact Heap.lt_size e
    have hl2 := hl.at (h' := s1.heap.push { cls := .type "list_iterator", data := .fields #[.ref a, .int 0 0] }) fun o e => Heap.get?_push_of_some _ e
    have hit : (s1.heap.push { cls := .type "list_iterator", data := .fields #[.ref a, .int 0 0] }).IsListIter s1.heap.objs.size a 0 := ⟨_, Heap.get?_push_size _ rfl, rfl, rfl⟩
    have hne : a ≠ s1.heap.objs.size := fun e => absurd hlt (by rw [e]; exact Nat.lt_irrefl _)
    have hlen : vs.length = ps.length := hr.length
    refine hQ _ [s1.heap.objs.size, a] [s1.heap.objs.size] (fun i v => vs.toArray[i]? = some v) (fun i h => h.IsListIter s1.heap.objs.size a i ∧ h.IsList a vs.toArray) s1 _ k1 (keeps_push' s1 _) ?_ ⟨hit, hl2⟩ ?_ ?_ ?_ ?_
    · have := Walks.list (prog := prog) (w := w) hh s1.heap.objs.size a hne vs.toArray
      simpa [hlen] using this
    · intro c hc
      rcases List.mem_cons.mp hc with rfl | hc
      · obtain ⟨_, e, _⟩ := hit; exact Heap.lt_size e
      · rw [List.mem_singleton.mp hc]
        obtain ⟨_, e, _⟩ := hl2; exact Heap.lt_size e
    · intro c hc
      rw [List.mem_singleton.mp hc]
      exact none_size _
    · intro i h st c hc
      rw [List.mem_singleton.mp hc]
      obtain ⟨⟨o, ho, _, hd⟩, _⟩ := st
      exact ⟨o, ho, fun xs n e => by rw [hd] at e; cases e⟩
    · intro i v hlt hv
      exact hr.get' (by simpa using hv))

theorem evSrc_bytes {iter : Expr} {ks : List Int} (hh : A.handled = none) (h : Ev prog w A env b X iter (.bytes ks)) : EvSrc prog w A env b X iter ks (fun k => .int k) := fun s E Q hb hQ =>
  h s E _ hb fun v s1 k1 r1 => by
    simp only [Rep] at r1
    obtain ⟨by', t, rfl, hk⟩ := r1
    refine W.KBw.pyIter_bytes ?_
    have hit : W.KBw.IsBytesIter (s1.heap.push { cls := .type "bytes_iterator", data := .fields #[.bytes by' t, .int 0 0] }) s1.heap.objs.size by' t 0 := ⟨_, Heap.get?_push_size _ rfl, rfl, rfl⟩
    have hsz : by'.size = ks.length := by rw [← hk, W.KBw.ints_length]
    refine hQ _ [s1.heap.objs.size] [s1.heap.objs.size] (fun i v => ∃ c u, by'[i]? = some c ∧ v = .int (c.toNat : Int) u) (fun i h => W.KBw.IsBytesIter h s1.heap.objs.size by' t i) s1 _ k1 (keeps_push' s1 _) ?_ hit ?_ ?_ ?_ ?_
    · have := W.KBw.walks (prog := prog) (w := w) hh s1.heap.objs.size by' t
      rwa [hsz] at this
    · intro c hc
      rw [List.mem_singleton.mp hc]
      obtain ⟨_, e, _⟩ := hit; exact Heap.lt_size e
    · intro c hc
      rw [List.mem_singleton.mp hc]
      exact none_size _
    · intro i h st c hc
      rw [List.mem_singleton.mp hc]
      obtain ⟨o, ho, _, hd⟩ := st
      exact ⟨o, ho, fun xs n e => by rw [hd] at e; cases e⟩
    · rintro i v hlt ⟨c, u, hc, rfl⟩
      exact ⟨_, by rw [← hk]; exact W.KBw.ints_get hc, rep_int ..⟩
end
end Mine
end

-- part B15
section
namespace Mine
open PySem PySem.Calls PyProof.Rows

section
variable {prog : Program} {w : World} {A : Around} {env : Env} {b : Shared} {X : Addr → Prop} {fns : List Nat} {s₀ s : Shared} {B : Addr → Option Obj} {σ φ : List (Str × PV)} {own : Option (Str × Addr × List PV)}
theorem In.xok (I : In s₀ B env X σ own s) (hX : XOk X s₀) : XOk X s := hX.keep I.keeps
theorem In.xokO {y : Str} {a : Addr} {ps : List PV} (I : In s₀ B env (fun b => X b ∨ b = a) σ (some (y, a, ps)) s) (hX : XOk X s₀) : XOk (fun b => X b ∨ b = a) s := fun c hc => by
  rcases hc with hc | rfl
  · exact (hX.keep I.keeps) c hc
  · obtain ⟨vs, ⟨n, e⟩, _⟩ := I.ownList
    exact ⟨_, e⟩
theorem In.gl (I : In s₀ B env X σ own s) (G : Gl prog fns s₀.heap) : Gl prog fns s.heap := G.keep (keeps_grow I.keeps)
theorem ev_len {px pos : Pos} {e : Expr} {ps : List PV} (G : Gl prog fns b.heap) (h : Ev prog w A env b X e (.list ps)) (hn : ps.length < 2 ^ 60)
    (hk : env.scope.kind = .function := by rfl) (hx : env.kindOf (Str.ofString "len") = some .globalImplicit := by rfl) (hm : env.globals = mainGlobals := by rfl) (hbn : env.builtins = builtinsNs := by rfl)
    (he : starEach [e] env = (false, eval e env) :: starEach [] env := by first | exact se_Constant | exact se_Name | exact se_ListComp | exact se_BinOp | exact se_Call | exact se_Subscript | exact se_UnaryOp | exact se_List | exact se_Compare | exact se_BoolOp | exact se_IfExp | rfl) :
    Ev prog w A env b X (.Call (.Name (Str.ofString "len") px) [e] [] pos) (.int ps.length) := ev_builtin G used_len boot_len' (evArgs_cons h evArgs_nil he) (ct_len_list hn) hk hx hm hbn (by decide) he
end
end Mine
end

-- part B16
section
namespace Mine
open PySem PySem.Calls PyProof.Rows

theorem pick_of {α : Type} (xs : List α) (l u : Option Int) (a b : Nat) (h : sliceBounds l u none xs.length = ((a : Int), (b : Int), 1)) (hb : b ≤ xs.length) : pick xs l u none = (xs.drop a).take (b - a) := by
  unfold pick
  rw [h]
  unfold sliceRange
  have hc : ((if (1 : Int) > 0 then (if (a : Int) < b then ((b : Int) - a + 1 - 1) / 1 else 0) else (if (a : Int) > b then ((a : Int) - b - 1 - 1) / (-1) else 0) : Int)).toNat = b - a := by
    rw [if_pos (by decide)]
    split <;> omega
  dsimp only
  rw [hc]
  refine List.ext_getElem? fun j => ?_
  have h2 : (List.range (b - a)).map (fun (k : Nat) => ((a : Int) + 1 * (k : Int)).toNat) = (List.range (b - a)).map (fun k => a + k) := List.map_congr_left fun k _ => by omega
  rw [h2]
  have h3 : ∀ n, a + n ≤ xs.length → ((List.range n).map (fun k => a + k)).filterMap (xs[·]?) = (xs.drop a).take n := by
    intro n
    induction n with
    | zero => intro _; simp
    | succ n ih =>
      intro hn
      rw [List.range_succ, List.map_append, List.filterMap_append, ih (by omega), List.take_add_one]
      simp [List.getElem?_eq_getElem (show a + n < xs.length by omega)]
  rcases Nat.le_total b a with h | h
  · have : b - a = 0 := by omega
    rw [this]; simp
  · rw [h3 _ (by omega)]
theorem pick_from {α : Type} (xs : List α) (a : Nat) : pick xs (some (a : Int)) none none = xs.drop a := by
  rcases Nat.le_total a xs.length with h | h
  · rw [pick_of xs _ _ a xs.length ?_ (Nat.le_refl _)]
    · rw [List.take_of_length_le (by simp)]
    · unfold sliceBounds; simp; omega
  · rw [pick_of xs _ _ xs.length xs.length ?_ (Nat.le_refl _)]
    · rw [List.take_of_length_le (by simp), List.drop_eq_nil_of_le h, List.drop_eq_nil_of_le (Nat.le_refl _)]
    · unfold sliceBounds; simp; omega
theorem pick_to {α : Type} (xs : List α) (b : Nat) : pick xs none (some (b : Int)) none = xs.take b := by
  rcases Nat.le_total b xs.length with h | h
  · rw [pick_of xs _ _ 0 b ?_ h]
    · simp
    · unfold sliceBounds; simp; omega
  · rw [pick_of xs _ _ 0 xs.length ?_ (Nat.le_refl _)]
    · rw [List.drop_zero, Nat.sub_zero, List.take_of_length_le (Nat.le_refl _), List.take_of_length_le h]
    · unfold sliceBounds; simp; omega
theorem pick_mid {α : Type} (xs : List α) (a b : Nat) : pick xs (some (a : Int)) (some (b : Int)) none = (xs.drop a).take (b - a) := by
  rcases Nat.le_total a xs.length with ha | ha
  · rcases Nat.le_total b xs.length with h | h
    · rw [pick_of xs _ _ a b ?_ h]
      unfold sliceBounds; simp; omega
    · rw [pick_of xs _ _ a xs.length ?_ (Nat.le_refl _)]
      · rw [List.take_of_length_le (by simp), List.take_of_length_le (by simp; omega)]
      · unfold sliceBounds; simp; omega
  · rw [pick_of xs _ _ xs.length (min b xs.length) ?_ (Nat.min_le_right ..), List.drop_eq_nil_of_le ha, List.drop_eq_nil_of_le (Nat.le_refl _)]
    · simp
    · unfold sliceBounds; simp; omega
theorem pick_init {α : Type} (xs : List α) : pick xs none (some (-1)) none = xs.take (xs.length - 1) := by
  rw [pick_of xs _ _ 0 (xs.length - 1) ?_ (by omega)]
  · simp
  · unfold sliceBounds; simp; omega
theorem pick_last {α : Type} (xs : List α) : pick xs (some (-1)) none none = xs.drop (xs.length - 1) := by
  rw [pick_of xs _ _ (xs.length - 1) xs.length ?_ (by omega)]
  · rw [List.take_of_length_le (by simp)]
  · unfold sliceBounds; simp; omega
theorem cut_mid {α : Type} (xs : List α) (a b : Nat) (ha : a ≤ xs.length) (hb : b ≤ xs.length) : cut xs (some (a : Int)) (some (b : Int)) = (xs.drop a).take (b - a) := by
  have h1 : clipAt xs.length (a : Int) = a := by unfold clipAt; omega
  have h2 : clipAt xs.length (b : Int) = b := by unfold clipAt; omega
  unfold cut
  show (xs.drop (clipAt xs.length (a : Int))).take (clipAt xs.length (b : Int) - clipAt xs.length (a : Int)) = _
  rw [h1, h2]
theorem cut_to {α : Type} (xs : List α) (b : Nat) (hb : b ≤ xs.length) : cut xs none (some (b : Int)) = xs.take b := by
  have h2 : clipAt xs.length (b : Int) = b := by unfold clipAt; omega
  unfold cut
  show (xs.drop 0).take (clipAt xs.length (b : Int) - 0) = _
  rw [h2]; simp

/-- the checks on a block's scope -/
def scOkB (scope : Scope) (env : Env) (x : Str) : Bool := decide (scope.kind = .function) && scope.names.all (fun y => decide (y.2 ≠ .cell)) && scope.names.all (fun y => decide (y.2 ≠ .free) || (env.cells.lookup y.1).isSome) &&
  decide (scope.names.lookup x = some .local) && scope.names.all (fun y => decide (y.2 ≠ .local) || decide (scope.names.lookup y.1 = some .local))
theorem scOk {scope : Scope} {env : Env} {x : Str} (h : scOkB scope env x = true) : ScOk scope env x := by
  unfold scOkB at h
  simp only [Bool.and_eq_true, List.all_eq_true, Bool.or_eq_true, decide_eq_true_eq] at h
  obtain ⟨⟨⟨⟨h1, h2⟩, h3⟩, h4⟩, h5⟩ := h
  exact ⟨h1, h2, fun y hy hf => (h3 y hy).resolve_left fun q => q hf, h4, fun y hy hf => (h5 y hy).resolve_left fun q => q hf⟩

section
variable {prog : Program} {w : World} {A : Around} {env : Env} {b : Shared} {X : Addr → Prop} {fns : List Nat}
theorem ev_lenb {px pos : Pos} {e : Expr} {ks : List Int} (G : Gl prog fns b.heap) (h : Ev prog w A env b X e (.bytes ks)) (hn : ks.length ≤ 16777216)
    (hk : env.scope.kind = .function := by rfl) (hx : env.kindOf (Str.ofString "len") = some .globalImplicit := by rfl) (hm : env.globals = mainGlobals := by rfl) (hbn : env.builtins = builtinsNs := by rfl)
    (he : starEach [e] env = (false, eval e env) :: starEach [] env := by first | exact se_Constant | exact se_Name | exact se_ListComp | exact se_BinOp | exact se_Call | exact se_Subscript | exact se_UnaryOp | exact se_List | exact se_Compare | exact se_BoolOp | exact se_IfExp | rfl) :
    Ev prog w A env b X (.Call (.Name (Str.ofString "len") px) [e] [] pos) (.int ks.length) := ev_builtin G used_len boot_len' (evArgs_cons h evArgs_nil he) (ct_len_bytes hn) hk hx hm hbn (by decide) he
theorem ev_abs {px pos : Pos} {e : Expr} {a : Int} (G : Gl prog fns b.heap) (h : Ev prog w A env b X e (.int a))
    (hk : env.scope.kind = .function := by rfl) (hx : env.kindOf (Str.ofString "abs") = some .globalImplicit := by rfl) (hm : env.globals = mainGlobals := by rfl) (hbn : env.builtins = builtinsNs := by rfl)
    (he : starEach [e] env = (false, eval e env) :: starEach [] env := by first | exact se_Constant | exact se_Name | exact se_ListComp | exact se_BinOp | exact se_Call | exact se_Subscript | exact se_UnaryOp | exact se_List | exact se_Compare | exact se_BoolOp | exact se_IfExp | rfl) :
    Ev prog w A env b X (.Call (.Name (Str.ofString "abs") px) [e] [] pos) (.int a.natAbs) := ev_builtin G used_abs boot_abs' (evArgs_cons h evArgs_nil he) ct_abs hk hx hm hbn (by decide) he
theorem ev_toInt {px pos : Pos} {e : Expr} {a : Int} (G : Gl prog fns b.heap) (h : Ev prog w A env b X e (.int a))
    (hk : env.scope.kind = .function := by rfl) (hx : env.kindOf (Str.ofString "int") = some .globalImplicit := by rfl) (hm : env.globals = mainGlobals := by rfl) (hbn : env.builtins = builtinsNs := by rfl)
    (he : starEach [e] env = (false, eval e env) :: starEach [] env := by first | exact se_Constant | exact se_Name | exact se_ListComp | exact se_BinOp | exact se_Call | exact se_Subscript | exact se_UnaryOp | exact se_List | exact se_Compare | exact se_BoolOp | exact se_IfExp | rfl) :
    Ev prog w A env b X (.Call (.Name (Str.ofString "int") px) [e] [] pos) (.int a) := ev_type G used_int boot_int' (evArgs_cons h evArgs_nil he) ct_int hk hx hm hbn (by decide) he
theorem ev_sum {px pos : Pos} {e : Expr} {ns : List Int} (G : Gl prog fns b.heap) (hh : A.handled = none) (h : Ev prog w A env b X e (.list (ns.map .int)))
    (hk : env.scope.kind = .function := by rfl) (hx : env.kindOf (Str.ofString "sum") = some .globalImplicit := by rfl) (hm : env.globals = mainGlobals := by rfl) (hbn : env.builtins = builtinsNs := by rfl)
    (he : starEach [e] env = (false, eval e env) :: starEach [] env := by first | exact se_Constant | exact se_Name | exact se_ListComp | exact se_BinOp | exact se_Call | exact se_Subscript | exact se_UnaryOp | exact se_List | exact se_Compare | exact se_BoolOp | exact se_IfExp | rfl) :
    Ev prog w A env b X (.Call (.Name (Str.ofString "sum") px) [e] [] pos) (.int ns.sum) := ev_builtin G used_sum boot_sum' (evArgs_cons h evArgs_nil he) (ct_sum hh) hk hx hm hbn (by decide) he
theorem ev_toBytes {px pos : Pos} {e : Expr} {ns : List Int} (G : Gl prog fns b.heap) (hh : A.handled = none) (h : Ev prog w A env b X e (.list (ns.map .int))) (hr : ∀ n ∈ ns, 0 ≤ n ∧ n < 256) (hn : ns.length ≤ 16777216)
    (hk : env.scope.kind = .function := by rfl) (hx : env.kindOf (Str.ofString "bytes") = some .globalImplicit := by rfl) (hm : env.globals = mainGlobals := by rfl) (hbn : env.builtins = builtinsNs := by rfl)
    (he : starEach [e] env = (false, eval e env) :: starEach [] env := by first | exact se_Constant | exact se_Name | exact se_ListComp | exact se_BinOp | exact se_Call | exact se_Subscript | exact se_UnaryOp | exact se_List | exact se_Compare | exact se_BoolOp | exact se_IfExp | rfl) :
    Ev prog w A env b X (.Call (.Name (Str.ofString "bytes") px) [e] [] pos) (.bytes ns) := ev_type G used_bytes boot_bytes' (evArgs_cons h evArgs_nil he) (ct_bytes hh hr hn) hk hx hm hbn (by decide) he
end
end Mine
end

-- part B17
section
namespace Mine
open PySem PySem.Calls PyProof.Rows

section
variable (prog : Program) (w : World) (A : Around) (env : Env) (b : Shared) (X : Addr → Prop)
/-- the block e, its first clause g, makes a new list of ps -/
def CompTo (e : Expr) (g : Comprehension) (scope : Scope) (ps : List PV) : Prop :=
  ∀ (s : Shared) (E : Value → Shared → Prop) (RR : Value → Addr → Result → Shared → Prop), Keeps b s →
    (∀ D C s' ys, Keeps s s' → s.heap.get? D = none → s.heap.get? C = none → D ≠ C → (∃ m', s'.heap.Ns C m') → s'.heap.PlainList D ys.toArray → RepL (fun c => X c ∨ c = D) s'.heap ps ys → RR (.ref D) C (.ok .next) s') →
    wpAny (model prog w) A (eval g.iter env) (fun x s₁ => wpAny (model prog w) A (pyIter x) (fun it s₂ => wpAny (model prog w) A (newList []) (fun acc s₃ => wpAny (model prog w) A (newFunctionEnv scope env.globals (clOf scope.names env) [] env.qual none .none (some env)) (fun cenv s₄ =>
      codeAny (model prog w) A (.compStart e 0 it acc { cenv with scope := relabel scope env }) (RR acc cenv.locals) s₄) E s₃) E s₂) E s₁) E s
end

section
variable {prog : Program} {w : World} {A : Around} {env : Env} {b : Shared} {X : Addr → Prop} {fns : List Nat} {s₀ s : Shared} {B : Addr → Option Obj} {σ φ : List (Str × PV)} {own : Option (Str × Addr × List PV)}
  {E : Value → Shared → Prop} {Q : Flow → Shared → Prop} {rest : List Stmt}

theorem CompTo.evNew {elt target iter : Expr} {ifs : List Expr} {gs : List Comprehension} {scope : Scope} {pos : Pos} {ps : List PV} {x : Str} (c : CompTo prog w A env b X (.ListComp elt (⟨target, iter, ifs, 0⟩ :: gs) scope pos) ⟨target, iter, ifs, 0⟩ scope ps) (sc : ScOk scope env x)
    (hs : ∀ x, foldedSetIterable iter env x = pure x := by intro _; rfl) : EvNew prog w A env b X (.ListComp elt (⟨target, iter, ifs, 0⟩ :: gs) scope pos) ps := fun s E Q hb hQ => by
  rw [eval_ListComp]
  refine wpAny_comprehension_free (e := .ListComp elt (⟨target, iter, ifs, 0⟩ :: gs) scope pos) (use := none) (g := ⟨target, iter, ifs, 0⟩) (gs := gs) rfl hs (closureFor_clOf sc.cells) sc.kind sc.names ?_
  refine c s E (fun acc C => compPost (model prog w) A E none Q acc C) hb fun D C s' ys k hD hC hDC hn hp hr => ?_
  obtain ⟨m', hn⟩ := hn
  refine ⟨m', hn, fun h' hs' => hQ D ys _ ?_ hD (hp.at fun o e => hs'.extBut _ _ hDC e) (hr.same (ns_noseq hn) hs')⟩
  obtain ⟨h3, tk3, rfl, g3⟩ := k
  exact ⟨h', tk3, rfl, fun c o e => hs'.extBut c o (fun q => by rw [q, hC] at e; cases e) (g3 c o e)⟩

set_option maxHeartbeats 1000000 in
theorem CompTo.assign {elt target iter : Expr} {ifs : List Expr} {gs : List Comprehension} {scope : Scope} {pos pos' py : Pos} {ps : List PV} {x y : Str} (I : In s₀ B env X σ own s) (c : CompTo prog w A env s X (.ListComp elt (⟨target, iter, ifs, 0⟩ :: gs) scope pos) ⟨target, iter, ifs, 0⟩ scope ps) (sc : ScOk scope env x) (hX : XOk X s)
    (hy : StoreOk env y) (hno : OwnNe own y) (h : ∀ s', In s₀ B env X ((y, .list ps) :: σ) own s' → wpAny (model prog w) A (execs rest env) Q E s')
    (hsw : swapsWith (.ListComp elt (⟨target, iter, ifs, 0⟩ :: gs) scope pos) (some (.Name y py)) pos'.line env = pure true := by rfl) (hs : ∀ x, foldedSetIterable iter env x = pure x := by intro _; rfl) :
    wpAny (model prog w) A (execs (.Assign [.Name y py] (.ListComp elt (⟨target, iter, ifs, 0⟩ :: gs) scope pos) pos' :: rest) env) Q E s := by
  refine wpAny_execs_cons ?_
  rw [exec_Assign_Name_used _ _ _ _ hsw, arm_evalThenUse_ListComp]
  refine wpAny_bind (wpAny_standAt (wpAny_bind ?_))
  dsimp only
  refine wpAny_bind ?_
  refine wpAny_comprehension_free (e := .ListComp elt (⟨target, iter, ifs, 0⟩ :: gs) scope pos) (use := some (PySem.assign (.Name y py) env)) (g := ⟨target, iter, ifs, 0⟩) (gs := gs) rfl hs (closureFor_clOf sc.cells) sc.kind sc.names ?_
  refine c s E (fun acc C => compPost (model prog w) A E (some (PySem.assign (.Name y py) env)) _ acc C) (keeps_refl s) fun D C s' ys kk hD hCs hDC hn hp hr => ?_
  obtain ⟨m', hn⟩ := hn
  have hnX : ¬ X D := hX.off hD
  have hrep : Rep X s'.heap (.list ps) (.ref D) := by
    simp only [Rep]
    exact ⟨D, ys, rfl, hnX, hp.isList, hr.older⟩
  have I' := I.keep kk
  obtain ⟨oC, esC, epC, hoC, hdC, hrestC⟩ := id hn
  have hBC : B C = none := by
    cases e : B C with
    | none => rfl
    | some o =>
      obtain ⟨fn, m, cm, c, _⟩ := I
      have := c.keep C o e
      rw [hCs] at this; cases this
  have hLC : env.locals ≠ C := fun e => by
    obtain ⟨fn, m, cm, c, _⟩ := I
    obtain ⟨o', es, ep, h1, _⟩ := c.ns
    rw [e, hCs] at h1; cases h1
  have hds : ∀ xs n, oC.data ≠ .seq xs n := fun xs n e => by rw [hdC] at e; cases e
  have hdc : ∀ v, oC.data ≠ .cell v := fun v e => by rw [hdC] at e; cases e
  have I2 := I'.ext' hoC hds hdc hLC hBC
  refine wpAny_assign_Name (I2.store hrep hy hno fun s'' I'' => ⟨m', ?_, fun h' hs' => ?_⟩)
  · have hk : s''.heap.get? C = some oC := by
      obtain ⟨fn, m, cm, c, _⟩ := I''
      exact c.keep C oC (by unfold bUpd; rw [if_pos rfl])
    exact ⟨oC, esC, epC, hk, hdC, hrestC⟩
  · have hk : s''.heap.get? C = some oC := by
      obtain ⟨fn, m, cm, c, _⟩ := I''
      exact c.keep C oC (by unfold bUpd; rw [if_pos rfl])
    have I3 : In s₀ B env X ((y, .list ps) :: σ) own s'' := I''.weak (fun b o e => by
      unfold bUpd
      by_cases q : b = C
      · rw [q, hBC] at e; cases e
      · rw [if_neg q]; exact e) I.base
    exact wpAny_pure (wpAny_pure (h _ (I3.elsewhere (tk := s''.toks) hk hds hdc hLC hBC fun b o hb e => hs'.extBut b o hb e)))

set_option maxHeartbeats 2000000 in
/-- [elt for x, y in enumerate(l)] -/
theorem compTo_enum {ps : List PV} (f : Nat → PV) (φ : List (Str × PV)) {elt l : Expr} {x y : Str} {px py pt pc pn pos : Pos} {kk : Nat} {scope : Scope} (hh : A.handled = none)
    (G : Gl prog fns b.heap) (K : Know env X σ b) (sc : ScOk scope env x) (hy : scope.names.lookup y = some .local) (hxy : x ≠ y) (hφ : FreeOf scope env σ φ) (hX : XOk X b) (hl : EvO prog w A env b X l ps)
    (helt : ∀ (X' : Addr → Prop) (C : Addr) (b' : Shared) (i : Nat) (p : PV), (∀ c, X c → X' c) → Keeps b b' → XOk X' b' → ps[i]? = some p → Know (compEnvC scope (clOf scope.names env) C env) X' ((y, p) :: (x, .int (i : Int)) :: φ) b' → Ev prog w A (compEnvC scope (clOf scope.names env) C env) b' X' elt (f i))
    (hsz : ps.length ≤ 16777216) (hke : env.kindOf (Str.ofString "enumerate") = some .globalImplicit := by rfl) (hm : env.globals = mainGlobals := by rfl) (hbn : env.builtins = builtinsNs := by rfl) (he : starEach [l] env = (false, eval l env) :: starEach [] env := by first | exact se_Constant | exact se_Name | exact se_ListComp | exact se_BinOp | exact se_Call | exact se_Subscript | exact se_UnaryOp | exact se_List | exact se_Compare | exact se_BoolOp | exact se_IfExp | rfl) :
    CompTo prog w A env b X (.ListComp elt [⟨.Tuple [.Name x px, .Name y py] kk pt, .Call (.Name (Str.ofString "enumerate") pn) [l] [] pc, [], 0⟩] scope pos) ⟨.Tuple [.Name x px, .Name y py] kk pt, .Call (.Name (Str.ofString "enumerate") pn) [l] [] pc, [], 0⟩ scope ((List.range ps.length).map f) := fun s E RR hb hRR => by
  refine Call_ (name_builtin (G.keep (keeps_grow hb)) used_enum boot_enum' ?_ K.1 hke hm hbn (by decide)) (by rfl)
  refine callWith_type1 ?_ he (by rfl)
  refine args_cons (hl s E _ hb fun a vs s1 k1 hla hra => args_nil ?_) he
  have hlen : vs.length = ps.length := hra.length
  refine call_enumerate_list hla fun hE hie hit hsz1 hgr => ?_
  have halt : a < s1.heap.objs.size := by obtain ⟨_, e, _⟩ := hla; exact Heap.lt_size e
  generalize hitd : s1.heap.objs.size = it at hie hit hsz1 halt
  generalize hed : it + 1 = e at hie
  have hae : a ≠ e := fun q => by
    have : a < it := halt
    subst q
    exact absurd this (by rw [← hed]; exact Nat.not_lt.mpr (Nat.le_succ it))
  have hai : a ≠ it := fun q => absurd halt (by rw [q]; exact Nat.lt_irrefl _)
  have hei : e ≠ it := fun q => absurd (hed.trans q) (Nat.succ_ne_self it)
  have hit1 : s1.heap.get? it = none := by rw [← hitd]; exact none_size _
  have he1 : s1.heap.get? e = none := by
    cases q : s1.heap.get? e with
    | none => rfl
    | some o =>
      have h9 : e < it := hitd ▸ Heap.lt_size q
      exact absurd h9 (by rw [← hed]; exact Nat.not_lt.mpr (Nat.le_succ it))
  refine wpAny_pyIter_enum hie ?_
  have W := WalksT.enumerate (prog := prog) (w := w) hh e it a hei hae hai vs.toArray
  have hn : vs.toArray.size = ps.length := by rw [List.size_toArray, hlen]
  rw [hn] at W
  generalize hs2 : ({ s1 with heap := hE } : Shared) = s2
  have hhE : s2.heap = hE := by rw [← hs2]
  have k2 : Keeps s1 s2 := by rw [← hs2]; exact keeps_of s1 hE s1.toks hgr
  have hst : (∃ old, IsEnum s2.heap e it (0 : Nat) old) ∧ s2.heap.IsListIter it a 0 ∧ s2.heap.IsList a vs.toArray := by
    rw [hhE]; exact ⟨⟨.none, hie⟩, hit, hla.at fun o q => hgr _ o q⟩
  have hfp : ∀ c ∈ [e, it, a], c < s2.heap.objs.size := fun c hc => by
    have h0 : s2.heap.objs.size = it + 2 := by rw [hhE]; exact hsz1
    rw [h0]
    rcases List.mem_cons.mp hc with rfl | hc
    · rw [← hed]; exact Nat.lt_succ_self _
    · rcases List.mem_cons.mp hc with rfl | hc
      · exact Nat.lt_add_of_pos_right (by decide)
      · rw [List.mem_singleton.mp hc]; exact Nat.lt_add_right 2 halt
  have hwr : ∀ c ∈ [e, it], s1.heap.get? c = none := fun c hc => by
    rcases List.mem_cons.mp hc with rfl | hc
    · exact he1
    · rw [List.mem_singleton.mp hc]; exact hit1
  have kb1 : Keeps b s1 := keeps_trans hb k1
  clear hs2 hie hit hsz1 hgr hhE
  have hX1 : ∀ D, s1.heap.get? D = none → s.heap.get? D = none := fun D h => fresh_back k1 h
  have hRR1 : ∀ D C s' ys, Keeps s1 s' → s1.heap.get? D = none → s1.heap.get? C = none → D ≠ C → (∃ m', s'.heap.Ns C m') → s'.heap.PlainList D ys.toArray → RepL (fun c => X c ∨ c = D) s'.heap ((List.range ps.length).map f) ys → RR (.ref D) C (.ok .next) s' :=
    fun D C s' ys k hD hC hDC hn hp hr => hRR D C s' ys (keeps_trans k1 k) (fresh_back k1 hD) (fresh_back k1 hC) hDC hn hp hr
  refine wpAny_newObj_type (wpAny_newFunctionEnv sc.cell (by intro y hy; simp at hy) (fun h₁ hns₁ hsb₁ => ?_) sc.kind)
  dsimp only at hns₁ hsb₁ ⊢
  generalize hH2 : s2.heap.push { cls := .type "list", dict := none, data := .seq ([] : List Value).toArray } = H2 at hns₁ hsb₁ ⊢
  have hC : H2.objs.size = s2.heap.objs.size + 1 := by rw [← hH2, Heap.size_push]
  generalize hD' : s2.heap.objs.size = D at hC ⊢
  generalize hC' : H2.objs.size = C at hC hns₁ hsb₁ ⊢
  have hDC : D ≠ C := by omega
  have hDn : s2.heap.get? D = none := by rw [← hD']; exact none_size _
  have hCn : s2.heap.get? C = none := by
    cases e : s2.heap.get? C with
    | none => rfl
    | some o =>
      have h9 : C < D := hD' ▸ Heap.lt_size e
      exact absurd h9 (by rw [hC]; exact Nat.not_lt.mpr (Nat.le_succ D))
  have hDf : D ∉ [e, it, a] := fun hm => by
    have h9 := hfp _ hm
    rw [hD'] at h9
    exact Nat.lt_irrefl D h9
  have hCf : C ∉ [e, it, a] := fun hm => by
    have h9 := hfp _ hm
    rw [hD'] at h9
    exact absurd h9 (by rw [hC]; exact Nat.not_lt.mpr (Nat.le_succ D))
  have hDw : D ∉ [e, it] := fun h => hDf (W.sub _ h)
  have hCw : C ∉ [e, it] := fun h => hCf (W.sub _ h)
  have old : Grow s2.heap h₁ := fun b o e => hsb₁.extBut b o (fun q => by rw [q, hCn] at e; cases e) (Heap.get?_push_of_some _ (hH2 ▸ Heap.get?_push_of_some _ e))
  have hacc : h₁.PlainList D #[] := ⟨0, hsb₁.extBut _ _ hDC (Heap.get?_push_of_some _ (hH2 ▸ hD' ▸ Heap.get?_push_size _ rfl))⟩
  have hst₁ := W.frame _ _ _ hst fun b _ o e => old b o e
  have hD1 : s1.heap.get? D = none := fresh_back k2 hDn
  have hC1 : s1.heap.get? C = none := fresh_back k2 hCn
  have g1 : Grow s1.heap h₁ := (keeps_grow k2).trans old
  obtain ⟨h₂, tk₂, hs2, _⟩ := id k2
  have loop : ∀ s₃ : Shared, s₃ = { s2 with heap := h₁, toks := s2.toks + ([] : List (Str × Value)).length } →
      codeAny (model prog w) A (.compLoop (.ListComp elt [⟨.Tuple [.Name x px, .Name y py] kk pt, .Call (.Name (Str.ofString "enumerate") pn) [l] [] pc, [], 0⟩] scope pos) 0 (.ref e) (.ref D) (compEnvC scope (clOf scope.names env) C env)) (RR (.ref D) C) s₃ := by
    rintro s₃ rfl
    refine PyProof.Rows.LCp.codeAny_compLoop_pair (fun k s' => ∃ h' tk m' ys i, s' = { s2 with heap := h', toks := tk } ∧ ((∃ old, IsEnum h' e it (i : Nat) old) ∧ h'.IsListIter it a i ∧ h'.IsList a vs.toArray) ∧ h'.PlainList D ys.toArray ∧ h'.Ns C m' ∧ i ≤ ps.length ∧ k = ps.length - i ∧ Grow s1.heap h' ∧ RepL (fun c => X c ∨ c = D) h' ((List.range i).map f) ys) ?_ ps.length
      ⟨h₁, _, _, [], 0, rfl, hst₁, by simpa using hacc, hns₁, Nat.zero_le _, rfl, g1, by simp [RepL]⟩
    rintro k s' ⟨H, tk, m', ys, i, rfl, hst', hacc', hn', hi, rfl, hg, hR⟩
    have knk : ∀ (h' : Heap) (tk : Nat), Grow s1.heap h' → Keeps s1 { s2 with heap := h', toks := tk } := fun h' tk hg => ⟨h', tk, by rw [hs2], hg⟩
    have noseq : ∀ c ∈ [e, it], ∃ o, H.get? c = some o ∧ ∀ xs n, o.data ≠ .seq xs n := fun c hc => by
      obtain ⟨⟨old, h1⟩, ⟨o, h2, _, h3⟩, _⟩ := hst'
      rcases List.mem_cons.mp hc with rfl | hc
      · exact ⟨_, h1, fun xs n q => by cases q⟩
      · rw [List.mem_singleton.mp hc]; exact ⟨o, h2, fun xs n q => by rw [h3] at q; cases q⟩
    by_cases hlt : i < ps.length
    · refine W.item i _ _ _ hlt hst' fun T vals h2 tk2 hPv hTs hT hMid hk2 => ?_
      obtain ⟨t, v, hv, rfl⟩ := hPv
      have hv' : vs[i]? = some v := by simpa using hv
      obtain ⟨p, hp, hrep⟩ := hra.get' hv'
      refine W.go _ _ _ i T _ _ _ hMid fun h25 hst25 hk25 => ?_
      have hT25 : IsTup h25 T #[.int i t, v] := by
        obtain ⟨o, ho, hr⟩ := hT
        exact ⟨o, hk25 T o (W.apart _ _ _ hMid) ho, hr⟩
      refine assign_Tuple_tuple hh hT25 rfl rfl fun h3 he3 => ?_
      have he3' : Grow h25 h3 := fun c o q => he3 c o (Nat.ne_of_lt (Heap.lt_size q)) q
      have kk : ∀ c o, c ∉ [e, it] → H.get? c = some o → h3.get? c = some o := fun c o hc q => he3' c o (hk25 c o hc (hk2 c o hc q))
      refine assignInOrder_cons (wpAny_assign_Name (wpAny_storeName_local (lookup_relabel_local sc.x) (hn'.at' fun o q => kk _ o hCw q) (fun h4 hn4 hs4 => ?_) (by simp [compEnvC, relabel, sc.kind])))
      refine assignInOrder_cons (wpAny_assign_Name (wpAny_storeName_local (lookup_relabel_local hy) hn4 (fun h5 hn5 hs5 => ?_) (by simp [compEnvC, relabel, sc.kind])))
      refine assignInOrder_nil ?_
      have hn5' : h5.Ns C (fun z => if z = y then some v else (if z = x then some (.int i t) else m' z)) := hn5
      have k5 : ∀ c o, c ∉ [e, it] → c ≠ C → H.get? c = some o → h5.get? c = some o := fun c o hc hcC q => hs5.extBut c o hcC (hs4.extBut c o hcC (kk c o hc q))
      have g5 : Grow s1.heap h5 := fun c o q => k5 c o (fun hc => by rw [hwr c hc] at q; cases q) (fun hc => by rw [hc, hC1] at q; cases q) (hg c o q)
      have seq5 : ∀ c o, H.get? c = some o → (∃ xs n, o.data = .seq xs n) → h5.get? c = some o := fun c o q hd => by
        obtain ⟨xs, n, hd⟩ := hd
        refine k5 c o (fun hc => ?_) (fun hc => ?_) q
        · obtain ⟨o', e', hno⟩ := noseq c hc
          rw [q] at e'; cases e'
          exact hno xs n hd
        · obtain ⟨o', e', hno⟩ := ns_noseq hn'
          rw [hc] at q
          rw [q] at e'; cases e'
          exact hno xs n hd
      have hacc5 : h5.PlainList D ys.toArray := hacc'.at fun o q => k5 _ o hDw hDC q
      have hst5 := W.frame (i + 1) h25 h5 hst25 fun c hc o q => hs5.extBut c o (fun z : c = C => hCf (z ▸ hc)) (hs4.extBut c o (fun z : c = C => hCf (z ▸ hc)) (he3' c o q))
      have hR5 : RepL (fun c => X c ∨ c = D) h5 ((List.range i).map f) ys := hR.change fun c o _ q hd => seq5 c o q hd
      have kb : ∀ (h' : Heap) (tk : Nat), Grow s1.heap h' → Keeps b { s2 with heap := h', toks := tk } := fun h' tk hg => keeps_trans kb1 (knk h' tk hg)
      have hXD : XOk (fun c => X c ∨ c = D) { s2 with heap := h5, toks := tk2 + 1 + 1 } := fun c hc => by
        rcases hc with hc | rfl
        · exact (hX.keep (kb h5 _ g5)) c hc
        · obtain ⟨n, q⟩ := hacc5; exact ⟨_, q⟩
      have up : ∀ {s5 : Shared}, Grow s5.heap s1.heap → ∀ p v, Rep X s5.heap p v → Rep (fun c => X c ∨ c = D) h5 p v := fun {s5} g p v r => r.mono (fun c o _ q _ => g5 c o (g c o q)) fun c o q hc => by
        rcases hc with hc | rfl
        · exact hc
        · have := g _ _ q; rw [hD1] at this; cases this
      have know5 : Know (compEnvC scope (clOf scope.names env) C env) (fun c => X c ∨ c = D) ((y, p) :: (x, .int (i : Int)) :: φ) { s2 with heap := h5, toks := tk2 + 1 + 1 } := by
        refine know_comp (τ := [(y, p), (x, .int (i : Int))]) K (fun c o q => g5 c o (keeps_grow kb1 c o q)) (up (keeps_grow kb1)) sc.kind sc.cells hn5' (fun z q e => ?_) hφ
        rcases lookup_cons_of e with ⟨rfl, rfl⟩ | ⟨hzy, e⟩
        · exact ⟨hy, v, by simp, up (s5 := s1) (Grow.refl _) _ _ hrep⟩
        · rcases lookup_cons_of e with ⟨rfl, rfl⟩ | ⟨_, e⟩
          · exact ⟨sc.x, .int (i : Int) t, by simp only [hzy, if_false, if_true], rep_int ..⟩
          · simp at e
      refine helt _ C { s2 with heap := h5, toks := _ } i p (fun c hc => .inl hc) (kb h5 _ g5) hXD hp know5 _ _ _ (keeps_refl _) fun yv s6 k6 hyv => ?_
      obtain ⟨h6, tk6, rfl, hk6⟩ := k6
      have hylen : ys.length ≤ ps.length := by
        rw [hR.length, List.length_map, List.length_range]; exact hi
      refine wpAny_list_append_plain (hacc5.at fun o q => hk6 _ o q) (fun h7 hl7 hs7 => ?_) (by rw [List.size_toArray, sizeLine_eq]; omega)
      have e1 : ys.toArray.push yv = (ys ++ [yv]).toArray := by simp
      rw [e1] at hl7
      have g6 : Grow s1.heap h6 := g5.trans hk6
      have hst6 := W.frame (i + 1) h5 h6 hst5 fun c _ o q => hk6 c o q
      refine ⟨ps.length - (i + 1), by omega, h7, tk6, _, ys ++ [yv], i + 1, rfl, ?_, hl7, (hn5'.keeps hk6).sameBut hs7 (Ne.symm hDC), hlt, rfl, ?_, ?_⟩
      · exact W.frame _ _ _ hst6 fun c hc o q => hs7.extBut c o (fun z => hDf (z ▸ hc)) q
      · exact fun c o q => hs7.extBut c o (fun z => by rw [z, hD1] at q; cases q) (g6 c o q)
      · rw [List.range_succ, List.map_append]
        have ch : ∀ c o, ¬ (X c ∨ c = D) → h6.get? c = some o → (∃ xs n, o.data = .seq xs n) → h7.get? c = some o := fun c o hc q _ => hs7.extBut c o (fun z => hc (.inr z)) q
        exact ((hR5.keep (h' := h6) hk6).change ch).snoc (hyv.change ch)
    · have hin : i = ps.length := by omega
      subst hin
      refine W.done _ _ _ hst' fun h2 tk2 hk2 => ?_
      have g2 : Grow s1.heap h2 := fun c o q => hk2 c o (fun hc => by rw [hwr c hc] at q; cases q) (hg c o q)
      refine hRR1 D C _ ys (knk h2 tk2 g2) hD1 hC1 hDC ⟨m', hn'.at' fun o q => hk2 _ o hCw q⟩ (hacc'.at fun o q => hk2 _ o hDw q) ?_
      refine hR.change fun c o _ q hd => hk2 c o (fun hc => ?_) q
      obtain ⟨o', e', hno⟩ := noseq c hc
      rw [q] at e'; cases e'
      obtain ⟨xs, n, hd⟩ := hd
      exact hno xs n hd
  exact codeAny_compStart_list (loop _ rfl) (W.self 0 _ _ _ hst₁ (loop _ rfl))
end
end Mine
end

-- part B18
section
namespace Mine
open PySem PySem.Calls PyProof.Rows

theorem compTurn_two0 (elt t0 i0 t1 i1 : Expr) (scope : Scope) (pos : Pos) (it acc : Value) (env : Env) :
    compTurn (.ListComp elt [⟨t0, i0, [], 0⟩, ⟨t1, i1, [], 0⟩] scope pos) 0 it acc env = (do
      standAt i0.pos
      match ← pyNext it with
      | none => pure (.done .next)
      | some v =>
        letOwnedTupleGo t0 it v
        assign t0 env v
        let mut ok := true
        for c in ([] : List Expr) do
          if ok then ok ← isTrue c env (eval c env)
        if ok then
          let x ← eval i1 env
          standAt i1.pos
          let x ← foldedSetIterable i1 env x
          let _ ← runOwn (.compStart (.ListComp elt [⟨t0, i0, [], 0⟩, ⟨t1, i1, [], 0⟩] scope pos) 1 (← holding [x] (pyIter x)) acc env) env
        again (.compLoop (.ListComp elt [⟨t0, i0, [], 0⟩, ⟨t1, i1, [], 0⟩] scope pos) 0 it acc env)) := by rfl
theorem compTurn_two1 (elt t0 i0 t1 i1 : Expr) (scope : Scope) (pos : Pos) (it acc : Value) (env : Env) :
    compTurn (.ListComp elt [⟨t0, i0, [], 0⟩, ⟨t1, i1, [], 0⟩] scope pos) 1 it acc env = (do
      standAt i1.pos
      match ← pyNext it with
      | none => pure (.done .next)
      | some v =>
        letOwnedTupleGo t1 it v
        assign t1 env v
        let mut ok := true
        for c in ([] : List Expr) do
          if ok then ok ← isTrue c env (eval c env)
        if ok then
          (do let _ ← call (.builtin "list.append") [acc, ← eval elt env])
        again (.compLoop (.ListComp elt [⟨t0, i0, [], 0⟩, ⟨t1, i1, [], 0⟩] scope pos) 1 it acc env)) := by rfl

section
variable {prog : Program} {w : World} {A : Around} {R : Result → Shared → Prop} {s : Shared}
theorem codeAny_compLoop_two0 {elt t0 i0 t1 i1 : Expr} {scope : Scope} {pos : Pos} {it acc : Value} {env : Env} (I : Nat → Shared → Prop) (hs : ∀ x, foldedSetIterable i1 env x = pure x) (ht : ∀ v, letOwnedTupleGo t0 it v = pure ())
    (turn : ∀ n s, I n s → wpAny (model prog w) A (pyNext it) (fun r s₁ => match r with
      | none => R (.ok .next) s₁
      | some v => wpAny (model prog w) A (assign t0 env v) (fun _ s₂ => wpAny (model prog w) A (eval i1 env) (fun x s₃ => wpAny (model prog w) A (pyIter x) (fun it1 s₄ =>
          codeAny (model prog w) A (.compStart (.ListComp elt [⟨t0, i0, [], 0⟩, ⟨t1, i1, [], 0⟩] scope pos) 1 it1 acc env) (fun r s' => ∃ f, r = .ok f ∧ ∃ m, m < n ∧ I m s') s₄)
          (notedBy (model prog w) A env fun e s' => R (.error e) s') s₃) (notedBy (model prog w) A env fun e s' => R (.error e) s') s₂) (notedBy (model prog w) A env fun e s' => R (.error e) s') s₁) (notedBy (model prog w) A env fun e s' => R (.error e) s') s)
    (n : Nat) (h : I n s) : codeAny (model prog w) A (.compLoop (.ListComp elt [⟨t0, i0, [], 0⟩, ⟨t1, i1, [], 0⟩] scope pos) 0 it acc env) R s := by
  refine codeAny_loop rfl I (fun n s hI => ?_) n h
  show wpAny _ A ((compTurn (.ListComp elt [⟨t0, i0, [], 0⟩, ⟨t1, i1, [], 0⟩] scope pos) 0 it acc env).onRaise (fun x => do noteFrame x env; theTreesLotGoes x)) _ _ s
  refine wpAny_noted ?_
  rw [compTurn_two0]
  refine wpAny_bind (wpAny_standAt (wpAny_bind (wpAny_mono (turn n s hI) (fun r s₁ h₁ => ?_) fun _ _ h' => h')))
  cases r with
  | none => exact wpAny_pure h₁
  | some v =>
    refine wpAny_bind (wpAny_of_eq (ht v) ?_)
    refine wpAny_bind (wpAny_mono h₁ (fun _ s₂ h₂ => wpAny_bind (wpAny_mono (wpAny_tests_nil (Q := fun ok s₃ => ok = true ∧ s₃ = s₂) ⟨rfl, rfl⟩) (fun ok s₃ h₃ => ?_) fun _ _ h' => h')) fun _ _ h' => h')
    obtain ⟨rfl, rfl⟩ := h₃
    refine wpAny_bind (wpAny_mono h₂ (fun x s₄ h₄ => wpAny_bind (wpAny_standAt (wpAny_bind (wpAny_of_eq (hs x) (wpAny_bind (wpAny_holding (wpAny_mono h₄ (fun it1 s₅ h₅ => ?_) fun _ _ h' => h'))))))) fun _ _ h' => h')
    refine wpAny_bind (wpAny_runOwn ?_)
    rw [Around.mark_none]
    refine codeAny_mono h₅ fun r s₆ h₆ => ?_
    obtain ⟨f, rfl, h₆⟩ := h₆
    exact wpAny_pure ⟨rfl, h₆⟩
theorem codeAny_compLoop_two1 {elt t0 i0 t1 i1 : Expr} {scope : Scope} {pos : Pos} {it acc : Value} {env : Env} (I : Nat → Shared → Prop) (ht : ∀ v, letOwnedTupleGo t1 it v = pure ())
    (turn : ∀ n s, I n s → wpAny (model prog w) A (pyNext it) (fun r s₁ => match r with
      | none => R (.ok .next) s₁
      | some v => wpAny (model prog w) A (assign t1 env v) (fun _ s₂ => wpAny (model prog w) A (eval elt env) (fun x s₃ => wpAny (model prog w) A (call (.builtin "list.append") [acc, x]) (fun _ s₄ => ∃ m, m < n ∧ I m s₄)
          (notedBy (model prog w) A env fun e s' => R (.error e) s') s₃) (notedBy (model prog w) A env fun e s' => R (.error e) s') s₂) (notedBy (model prog w) A env fun e s' => R (.error e) s') s₁) (notedBy (model prog w) A env fun e s' => R (.error e) s') s)
    (n : Nat) (h : I n s) : codeAny (model prog w) A (.compLoop (.ListComp elt [⟨t0, i0, [], 0⟩, ⟨t1, i1, [], 0⟩] scope pos) 1 it acc env) R s := by
  refine codeAny_loop rfl I (fun n s hI => ?_) n h
  show wpAny _ A ((compTurn (.ListComp elt [⟨t0, i0, [], 0⟩, ⟨t1, i1, [], 0⟩] scope pos) 1 it acc env).onRaise (fun x => do noteFrame x env; theTreesLotGoes x)) _ _ s
  refine wpAny_noted ?_
  rw [compTurn_two1]
  refine wpAny_bind (wpAny_standAt (wpAny_bind (wpAny_mono (turn n s hI) (fun r s₁ h₁ => ?_) fun _ _ h' => h')))
  cases r with
  | none => exact wpAny_pure h₁
  | some v =>
    refine wpAny_bind (wpAny_of_eq (ht v) ?_)
    refine wpAny_bind (wpAny_mono h₁ (fun _ s₂ h₂ => wpAny_bind (wpAny_mono (wpAny_tests_nil (Q := fun ok s₃ => ok = true ∧ s₃ = s₂) ⟨rfl, rfl⟩) (fun ok s₃ h₃ => ?_) fun _ _ h' => h')) fun _ _ h' => h')
    obtain ⟨rfl, rfl⟩ := h₃
    exact wpAny_bind (wpAny_bind (wpAny_mono h₂ (fun x s₄ h₄ => wpAny_bind (wpAny_mono h₄ (fun _ s₅ h₅ => wpAny_pure (wpAny_pure ⟨rfl, h₅⟩)) fun _ _ h' => h')) fun _ _ h' => h'))
theorem codeAny_compStart_1 {elt t0 i0 t1 i1 : Expr} {scope : Scope} {pos : Pos} {it acc : Value} {env : Env}
    (h0 : codeAny (model prog w) A (.compLoop (.ListComp elt [⟨t0, i0, [], 0⟩, ⟨t1, i1, [], 0⟩] scope pos) 1 it acc env) R s)
    (h : wpAny (model prog w) A (pyIter it) (fun it' s' => codeAny (model prog w) A (.compLoop (.ListComp elt [⟨t0, i0, [], 0⟩, ⟨t1, i1, [], 0⟩] scope pos) 1 it' acc env) R s')
      (notedBy (model prog w) A env fun x s' => R (.error x) s') s) :
    codeAny (model prog w) A (.compStart (.ListComp elt [⟨t0, i0, [], 0⟩, ⟨t1, i1, [], 0⟩] scope pos) 1 it acc env) R s := by
  refine codeAny_of_tree ?_
  show wpAny _ _ ((compStart (.ListComp elt [⟨t0, i0, [], 0⟩, ⟨t1, i1, [], 0⟩] scope pos) 1 it acc env).onRaise (fun x => do noteFrame x env; standAt theWindowsPlace)) _ _ s
  refine wpAny_notedAt ?_
  unfold compStart
  show wpAny _ _ (ask >>= _) _ _ s
  refine wpAny_bind (wpAny_askSetting (wpAny_ite ?_))
  split
  · first
      | exact wpAny_bind (wpAny_pure (wpAny_pure (And.intro rfl h0)))
      | exact wpAny_pure (And.intro rfl h0)
  · first
      | exact wpAny_bind (wpAny_rule (wpAny_bind (wpAny_standAt (wpAny_bind (wpAny_mono h (fun it' s' h' => wpAny_pure (And.intro rfl h')) fun _ _ x => x)))))
      | (refine wpAny_bind (wpAny_rule ?_); show wpAny _ _ (standAt i1.pos >>= _) _ _ s; exact wpAny_bind (wpAny_standAt (wpAny_bind (wpAny_mono h (fun it' s' h' => wpAny_pure (And.intro rfl h')) fun _ _ x => x))))
end
end Mine
end

-- part B19
section
namespace Mine
open PySem PySem.Calls PyProof.Rows

section
variable {prog : Program} {w : World} {A : Around} {env : Env} {b : Shared} {X : Addr → Prop} {fns : List Nat} {s₀ s : Shared} {B : Addr → Option Obj} {σ φ : List (Str × PV)} {own : Option (Str × Addr × List PV)}
  {E : Value → Shared → Prop} {Q : Flow → Shared → Prop} {rest : List Stmt}

set_option maxHeartbeats 4000000 in
/-- [elt for x in octets for y in a list] -/
theorem compTo_two {ks : List Int} {ps : List PV} (f : Int → PV → PV) (φ : List (Str × PV)) {elt i0 i1 : Expr} {x y : Str} {px py pos : Pos} {scope : Scope} (hh : A.handled = none)
    (K : Know env X σ b) (sc : ScOk scope env x) (hy : scope.names.lookup y = some .local) (hxy : x ≠ y) (hφ : FreeOf scope env σ φ) (hX : XOk X b) (hi0 : Ev prog w A env b X i0 (.bytes ks))
    (hi1 : ∀ (X' : Addr → Prop) (C : Addr) (b' : Shared) (k : Int), (∀ c, X c → X' c) → Keeps b b' → XOk X' b' → k ∈ ks → Know (compEnvC scope (clOf scope.names env) C env) X' ((x, .int k) :: φ) b' → Ev prog w A (compEnvC scope (clOf scope.names env) C env) b' X' i1 (.list ps))
    (helt : ∀ (X' : Addr → Prop) (C : Addr) (b' : Shared) (k : Int) (p : PV), (∀ c, X c → X' c) → Keeps b b' → XOk X' b' → k ∈ ks → p ∈ ps → Know (compEnvC scope (clOf scope.names env) C env) X' ((y, p) :: (x, .int k) :: φ) b' → Ev prog w A (compEnvC scope (clOf scope.names env) C env) b' X' elt (f k p))
    (hsz : ks.length * ps.length ≤ 16777216) (hs1 : ∀ C x, foldedSetIterable i1 (compEnvC scope (clOf scope.names env) C env) x = pure x := by intro _ _; rfl) :
    CompTo prog w A env b X (.ListComp elt [⟨.Name x px, i0, [], 0⟩, ⟨.Name y py, i1, [], 0⟩] scope pos) ⟨.Name x px, i0, [], 0⟩ scope (ks.flatMap fun k => ps.map (f k)) := fun s E RR hb hRR => by
  refine hi0 s E _ hb fun v0 s1 k1 r0 => ?_
  simp only [Rep] at r0
  obtain ⟨by', tb, rfl, hk⟩ := r0
  refine W.KBw.pyIter_bytes ?_
  have hbs : by'.size = ks.length := by rw [← hk, W.KBw.ints_length]
  have hit0 : W.KBw.IsBytesIter (s1.heap.push { cls := .type "bytes_iterator", data := .fields #[.bytes by' tb, .int 0 0] }) s1.heap.objs.size by' tb 0 := ⟨_, Heap.get?_push_size _ rfl, rfl, rfl⟩
  generalize hI : s1.heap.objs.size = I at hit0 ⊢
  have WK := W.KBw.walks (prog := prog) (w := w) hh I by' tb
  rw [hbs] at WK
  generalize hs2 : ({ s1 with heap := s1.heap.push { cls := .type "bytes_iterator", data := .fields #[.bytes by' tb, .int 0 0] } } : Shared) = s2
  have k2 : Keeps s1 s2 := by rw [← hs2]; exact keeps_push' s1 _
  have hst : W.KBw.IsBytesIter s2.heap I by' tb 0 := by rw [← hs2]; exact hit0
  have hI1 : s1.heap.get? I = none := by rw [← hI]; exact none_size _
  have kb1 : Keeps b s1 := keeps_trans hb k1
  clear hs2 hit0
  have hRR1 : ∀ D C s' ys, Keeps s1 s' → s1.heap.get? D = none → s1.heap.get? C = none → D ≠ C → (∃ m', s'.heap.Ns C m') → s'.heap.PlainList D ys.toArray → RepL (fun c => X c ∨ c = D) s'.heap (ks.flatMap fun k => ps.map (f k)) ys → RR (.ref D) C (.ok .next) s' :=
    fun D C s' ys k hD hC hDC hn hp hr => hRR D C s' ys (keeps_trans k1 k) (fresh_back k1 hD) (fresh_back k1 hC) hDC hn hp hr
  refine wpAny_newObj_type (wpAny_newFunctionEnv sc.cell (by intro y hy; simp at hy) (fun h₁ hns₁ hsb₁ => ?_) sc.kind)
  dsimp only at hns₁ hsb₁ ⊢
  generalize hH2 : s2.heap.push { cls := .type "list", dict := none, data := .seq ([] : List Value).toArray } = H2 at hns₁ hsb₁ ⊢
  have hC : H2.objs.size = s2.heap.objs.size + 1 := by rw [← hH2, Heap.size_push]
  generalize hD' : s2.heap.objs.size = D at hC ⊢
  generalize hC' : H2.objs.size = C at hC hns₁ hsb₁ ⊢
  have hDC : D ≠ C := by omega
  have hDn : s2.heap.get? D = none := by rw [← hD']; exact none_size _
  have hCn : s2.heap.get? C = none := by
    cases e : s2.heap.get? C with
    | none => rfl
    | some o =>
      have h9 : C < D := hD' ▸ Heap.lt_size e
      exact absurd h9 (by rw [hC]; exact Nat.not_lt.mpr (Nat.le_succ D))
  have hID : I ≠ D := fun q => by
    obtain ⟨o, ho, _⟩ := hst
    rw [q, hDn] at ho; cases ho
  have hIC : I ≠ C := fun q => by
    obtain ⟨o, ho, _⟩ := hst
    rw [q, hCn] at ho; cases ho
  have old : Grow s2.heap h₁ := fun b o e => hsb₁.extBut b o (fun q => by rw [q, hCn] at e; cases e) (Heap.get?_push_of_some _ (hH2 ▸ Heap.get?_push_of_some _ e))
  have hacc : h₁.PlainList D #[] := ⟨0, hsb₁.extBut _ _ hDC (Heap.get?_push_of_some _ (hH2 ▸ hD' ▸ Heap.get?_push_size _ rfl))⟩
  have hst₁ := WK.frame _ _ _ hst fun b _ o e => old b o e
  have hD1 : s1.heap.get? D = none := fresh_back k2 hDn
  have hC1 : s1.heap.get? C = none := fresh_back k2 hCn
  have g1 : Grow s1.heap h₁ := (keeps_grow k2).trans old
  obtain ⟨h₂, tk₂, hs2, _⟩ := id k2
  have knk : ∀ (h' : Heap) (tk : Nat), Grow s1.heap h' → Keeps s1 { s2 with heap := h', toks := tk } := fun h' tk hg => ⟨h', tk, by rw [hs2], hg⟩
  have kb : ∀ (h' : Heap) (tk : Nat), Grow s1.heap h' → Keeps b { s2 with heap := h', toks := tk } := fun h' tk hg => keeps_trans kb1 (knk h' tk hg)
  have xd : ∀ (h' : Heap) (tk : Nat) (ys : List Value), Grow s1.heap h' → h'.PlainList D ys.toArray → XOk (fun c => X c ∨ c = D) { s2 with heap := h', toks := tk } := fun h' tk ys hg hp c hc => by
    rcases hc with hc | rfl
    · exact (hX.keep (kb h' tk hg)) c hc
    · obtain ⟨n, e⟩ := hp; exact ⟨_, e⟩
  have up : ∀ {s5 : Shared} {h' : Heap}, Grow s5.heap s1.heap → Grow s1.heap h' → ∀ p v, Rep X s5.heap p v → Rep (fun c => X c ∨ c = D) h' p v := fun {s5 h'} g g5 p v r => r.mono (fun c o _ q _ => g5 c o (g c o q)) fun c o q hc => by
    rcases hc with hc | rfl
    · exact hc
    · have := g _ _ q; rw [hD1] at this; cases this
  have loop : ∀ s₃ : Shared, s₃ = { s2 with heap := h₁, toks := s2.toks + ([] : List (Str × Value)).length } →
      codeAny (model prog w) A (.compLoop (.ListComp elt [⟨.Name x px, i0, [], 0⟩, ⟨.Name y py, i1, [], 0⟩] scope pos) 0 (.ref I) (.ref D) (compEnvC scope (clOf scope.names env) C env)) (RR (.ref D) C) s₃ := by
    rintro s₃ rfl
    refine codeAny_compLoop_two0 (fun k s' => ∃ h' tk m' ys i, s' = { s2 with heap := h', toks := tk } ∧ W.KBw.IsBytesIter h' I by' tb i ∧ h'.PlainList D ys.toArray ∧ h'.Ns C m' ∧ i ≤ ks.length ∧ k = ks.length - i ∧ Grow s1.heap h' ∧ RepL (fun c => X c ∨ c = D) h' ((ks.take i).flatMap fun k => ps.map (f k)) ys) (hs1 C) (by intro _; rfl) ?_ ks.length
      ⟨h₁, _, _, [], 0, rfl, hst₁, by simpa using hacc, hns₁, Nat.zero_le _, rfl, g1, by simp [RepL]⟩
    rintro k s' ⟨H, tk, m', ys, i, rfl, hst', hacc', hn', hi, rfl, hg, hR⟩
    by_cases hlt : i < ks.length
    · refine WK.item i _ _ _ hlt hst' fun v h2 tk2 hPv hst2 hk2 => ?_
      obtain ⟨c0, u0, hc0, rfl⟩ := hPv
      have hki : ks[i]? = some (c0.toNat : Int) := by rw [← hk]; exact W.KBw.ints_get hc0
      have hmem : (c0.toNat : Int) ∈ ks := List.mem_of_getElem? hki
      generalize (c0.toNat : Int) = kc at hki hmem ⊢
      have hk2' : ∀ c o, c ≠ I → H.get? c = some o → h2.get? c = some o := fun c o hc q => hk2 c o (by simpa using hc) q
      refine wpAny_assign_Name (wpAny_storeName_local (lookup_relabel_local sc.x) (hn'.at' fun o q => hk2' _ o (Ne.symm hIC) q) (fun h3 hn3 hs3 => ?_) (by simp [compEnvC, relabel, sc.kind]))
      have hn3' : h3.Ns C (fun z => if z = x then some (.int kc u0) else m' z) := hn3
      have k3 : ∀ c o, c ≠ I → c ≠ C → H.get? c = some o → h3.get? c = some o := fun c o hc hcC q => hs3.extBut c o hcC (hk2' c o hc q)
      have g3 : Grow s1.heap h3 := fun c o q => k3 c o (fun z => by rw [z, hI1] at q; cases q) (fun z => by rw [z, hC1] at q; cases q) (hg c o q)
      have hacc3 : h3.PlainList D ys.toArray := hacc'.at fun o q => k3 _ o (Ne.symm hID) hDC q
      have hst3 : W.KBw.IsBytesIter h3 I by' tb (i + 1) := WK.frame _ _ _ hst2 fun c hc o q => hs3.extBut c o (fun z => hIC ((List.mem_singleton.mp hc).symm.trans z)) q
      have hR3 : RepL (fun c => X c ∨ c = D) h3 ((ks.take i).flatMap fun k => ps.map (f k)) ys := hR.change fun c o _ q hd => by
        obtain ⟨xs, n, hd⟩ := hd
        refine k3 c o (fun z => ?_) (fun z => ?_) q
        · obtain ⟨o', e', _, hd'⟩ := hst'
          rw [z, e'] at q; cases q
          rw [hd'] at hd; cases hd
        · obtain ⟨o', e', hno⟩ := ns_noseq hn'
          rw [z, e'] at q; cases q
          exact hno xs n hd
      have know3 : Know (compEnvC scope (clOf scope.names env) C env) (fun c => X c ∨ c = D) ((x, .int kc) :: φ) { s2 with heap := h3, toks := tk2 + 1 } := by
        refine know_comp (τ := [(x, .int kc)]) K (fun c o q => g3 c o (keeps_grow kb1 c o q)) (up (keeps_grow kb1) g3) sc.kind sc.cells hn3' (fun z q e => ?_) hφ
        rcases lookup_cons_of e with ⟨rfl, rfl⟩ | ⟨_, e⟩
        · exact ⟨sc.x, .int kc u0, by simp only [if_true], rep_int ..⟩
        · simp at e
      refine hi1 _ C { s2 with heap := h3, toks := tk2 + 1 } kc (fun c hc => .inl hc) (kb h3 _ g3) (xd h3 _ ys g3 hacc3) hmem know3 _ _ _ (keeps_refl _) fun v4 s4 k4 r4 => ?_
      obtain ⟨h4, tk4, rfl, hk4⟩ := k4
      obtain ⟨ax, us, rfl, hax, hl4, hr4⟩ := rep_list r4
      have haxD : ax ≠ D := fun q => hax (.inr q)
      have hn4 := hn3'.keeps hk4
      have hst4 : W.KBw.IsBytesIter h4 I by' tb (i + 1) := WK.frame _ _ _ hst3 fun c _ o q => hk4 c o q
      have hacc4 : h4.PlainList D ys.toArray := hacc3.at fun o q => hk4 _ o q
      have g4 : Grow s1.heap h4 := g3.trans hk4
      have hR4 := hR3.keep hk4
      have hul : us.length = ps.length := hr4.length
      refine wpAny_pyIter_list hl4 ?_
      generalize hJ : h4.objs.size = J
      have hJ4 : h4.get? J = none := by rw [← hJ]; exact none_size _
      have hJI : J ≠ I := fun q => by
        obtain ⟨o, ho, _⟩ := hst4
        rw [← q, hJ4] at ho; cases ho
      have hJD : J ≠ D := fun q => by
        obtain ⟨n, ho⟩ := hacc4
        rw [← q, hJ4] at ho; cases ho
      have hJC : J ≠ C := fun q => by
        obtain ⟨o, ho, _⟩ := ns_noseq hn4
        rw [← q, hJ4] at ho; cases ho
      have hJ1 : s1.heap.get? J = none := by
        cases q : s1.heap.get? J with
        | none => rfl
        | some o => have := g4 _ _ q; rw [hJ4] at this; cases this
      have haxJ : ax ≠ J := fun q => by
        obtain ⟨o, ho, _⟩ := hl4
        rw [q, hJ4] at ho; cases ho
      have haxI : ax ≠ I := fun q => by
        obtain ⟨o, ho, _, n, hd⟩ := hl4
        obtain ⟨o', ho', _, hd'⟩ := hst4
        rw [q, ho'] at ho; cases ho
        rw [hd'] at hd; cases hd
      have haxC : ax ≠ C := fun q => by
        obtain ⟨o, ho, _, n, hd⟩ := hl4
        obtain ⟨o', ho', hno⟩ := ns_noseq hn4
        rw [q, ho'] at ho; cases ho
        exact hno _ _ hd
      have W1 := Walks.list (prog := prog) (w := w) hh J ax haxJ us.toArray
      have hsz1 : us.toArray.size = ps.length := by rw [List.size_toArray, hul]
      rw [hsz1] at W1
      have inner : ∀ s₅ : Shared, (∃ h' tk m' zs j, s₅ = { s2 with heap := h', toks := tk } ∧ W.KBw.IsBytesIter h' I by' tb (i + 1) ∧ (h'.IsListIter J ax j ∧ h'.IsList ax us.toArray) ∧ h'.PlainList D zs.toArray ∧ h'.Ns C m' ∧ (∃ t, m' x = some (.int kc t)) ∧ j = 0 ∧ Grow s1.heap h' ∧
          RepL (fun c => X c ∨ c = D) h' ps us ∧ RepL (fun c => X c ∨ c = D) h' (((ks.take i).flatMap fun k => ps.map (f k)) ++ (ps.take j).map (f kc)) zs) →
          codeAny (model prog w) A (.compLoop (.ListComp elt [⟨.Name x px, i0, [], 0⟩, ⟨.Name y py, i1, [], 0⟩] scope pos) 1 (.ref J) (.ref D) (compEnvC scope (clOf scope.names env) C env))
            (fun r s' => ∃ fl, r = .ok fl ∧ ∃ m, m < ks.length - i ∧ ∃ h' tk m' ys i, s' = { s2 with heap := h', toks := tk } ∧ W.KBw.IsBytesIter h' I by' tb i ∧ h'.PlainList D ys.toArray ∧ h'.Ns C m' ∧ i ≤ ks.length ∧ m = ks.length - i ∧ Grow s1.heap h' ∧ RepL (fun c => X c ∨ c = D) h' ((ks.take i).flatMap fun k => ps.map (f k)) ys) s₅ := by
        rintro s₅ ⟨h', tk', m5, zs, j, e5, b1, b2, b3, b4, b5, rfl, b7, b8, b9⟩
        refine codeAny_compLoop_two1 (fun k s' => ∃ h' tk m' zs j, s' = { s2 with heap := h', toks := tk } ∧ W.KBw.IsBytesIter h' I by' tb (i + 1) ∧ (h'.IsListIter J ax j ∧ h'.IsList ax us.toArray) ∧ h'.PlainList D zs.toArray ∧ h'.Ns C m' ∧ (∃ t, m' x = some (.int kc t)) ∧ j ≤ ps.length ∧ k = ps.length - j ∧ Grow s1.heap h' ∧
          RepL (fun c => X c ∨ c = D) h' ps us ∧ RepL (fun c => X c ∨ c = D) h' (((ks.take i).flatMap fun k => ps.map (f k)) ++ (ps.take j).map (f kc)) zs) (by intro _; rfl) ?_ ps.length ⟨h', tk', m5, zs, 0, e5, b1, b2, b3, b4, b5, Nat.zero_le _, rfl, b7, b8, b9⟩
        clear b1 b2 b3 b4 b5 b7 b8 b9 e5
        rintro k s' ⟨H5, tk5, m5, zs, j, rfl, b1, b2, b3, b4, ⟨t5, b5⟩, hj, rfl, b7, b8, b9⟩
        by_cases hjlt : j < ps.length
        · refine W1.item j _ _ _ hjlt b2 fun v h6 tk6 hPv hst6 hk6 => ?_
          have hvj : us[j]? = some v := by simpa using hPv
          obtain ⟨p, hp, hrep⟩ := b8.get' hvj
          have hk6' : ∀ c o, c ≠ J → H5.get? c = some o → h6.get? c = some o := fun c o hc q => hk6 c o (by simpa using hc) q
          refine wpAny_assign_Name (wpAny_storeName_local (lookup_relabel_local hy) (b4.at' fun o q => hk6' _ o (Ne.symm hJC) q) (fun h7 hn7 hs7 => ?_) (by simp [compEnvC, relabel, sc.kind]))
          have hn7' : h7.Ns C (fun z => if z = y then some v else m5 z) := hn7
          have k7 : ∀ c o, c ≠ J → c ≠ C → H5.get? c = some o → h7.get? c = some o := fun c o hc hcC q => hs7.extBut c o hcC (hk6' c o hc q)
          have g7 : Grow s1.heap h7 := fun c o q => k7 c o (fun z => by rw [z, hJ1] at q; cases q) (fun z => by rw [z, hC1] at q; cases q) (b7 c o q)
          have seq7 : ∀ c o, H5.get? c = some o → (∃ xs n, o.data = .seq xs n) → h7.get? c = some o := fun c o q hd => by
            obtain ⟨xs, n, hd⟩ := hd
            refine k7 c o (fun z => ?_) (fun z => ?_) q
            · obtain ⟨o', e', _, hd'⟩ := b2.1
              rw [z, e'] at q; cases q
              rw [hd'] at hd; cases hd
            · obtain ⟨o', e', hno⟩ := ns_noseq b4
              rw [z, e'] at q; cases q
              exact hno xs n hd
          have c1 : W.KBw.IsBytesIter h7 I by' tb (i + 1) := WK.frame _ _ _ b1 fun c hc o q => by
            have hc := List.mem_singleton.mp hc
            exact k7 c o (fun z => hJI (z.symm.trans hc)) (fun z => hIC (hc.symm.trans z)) q
          have c2 : h7.IsListIter J ax (j + 1) ∧ h7.IsList ax us.toArray := W1.frame _ _ _ hst6 fun c hc o q => hs7.extBut c o (fun z : c = C => by
            rcases List.mem_cons.mp hc with h | h
            · exact hJC (h.symm.trans z)
            · exact haxC ((List.mem_singleton.mp h).symm.trans z)) q
          have c3 : h7.PlainList D zs.toArray := b3.at fun o q => k7 _ o (Ne.symm hJD) hDC q
          have c8 := b8.change (h' := h7) fun c o _ q hd => seq7 c o q hd
          have c9 := b9.change (h' := h7) fun c o _ q hd => seq7 c o q hd
          have know7 : Know (compEnvC scope (clOf scope.names env) C env) (fun c => X c ∨ c = D) ((y, p) :: (x, .int kc) :: φ) { s2 with heap := h7, toks := tk6 + 1 } := by
            refine know_comp (τ := [(y, p), (x, .int kc)]) K (fun c o q => g7 c o (keeps_grow kb1 c o q)) (up (keeps_grow kb1) g7) sc.kind sc.cells hn7' (fun z q e => ?_) hφ
            rcases lookup_cons_of e with ⟨rfl, rfl⟩ | ⟨hzy, e⟩
            · exact ⟨hy, v, by simp only [if_true], hrep.change fun c o _ q hd => seq7 c o q hd⟩
            · rcases lookup_cons_of e with ⟨rfl, rfl⟩ | ⟨_, e⟩
              · exact ⟨sc.x, .int kc t5, by simp only [hzy, if_false]; exact b5, rep_int ..⟩
              · simp at e
          refine helt _ C { s2 with heap := h7, toks := tk6 + 1 } kc p (fun c hc => .inl hc) (kb h7 _ g7) (xd h7 _ zs g7 c3) hmem (List.mem_of_getElem? hp) know7 _ _ _ (keeps_refl _) fun yv s8 k8 hyv => ?_
          obtain ⟨h8, tk8, rfl, hk8⟩ := k8
          have hzl : zs.length ≤ 16777216 := by
            have e1 : ∀ l : List Int, (l.flatMap fun k => ps.map (f k)).length = l.length * ps.length := fun l => by
              induction l with
              | nil => simp
              | cons a l ih => rw [List.flatMap_cons, List.length_append, ih, List.length_map, List.length_cons, Nat.succ_mul]; omega
            have e2 := b9.length
            rw [List.length_append, e1, List.length_map, List.length_take, List.length_take] at e2
            have e3 : min i ks.length = i := by omega
            have e4 : min j ps.length = j := by omega
            rw [e3, e4] at e2
            have e5 : i * ps.length + ps.length ≤ ks.length * ps.length := by
              have := Nat.mul_le_mul_right ps.length (show i + 1 ≤ ks.length from hlt)
              rw [Nat.succ_mul] at this; exact this
            omega
          refine wpAny_list_append_plain (c3.at fun o q => hk8 _ o q) (fun h9 hl9 hs9 => ?_) (by rw [List.size_toArray, sizeLine_eq]; exact hzl)
          have e1 : zs.toArray.push yv = (zs ++ [yv]).toArray := by simp
          rw [e1] at hl9
          have ch : ∀ c o, ¬ (X c ∨ c = D) → h8.get? c = some o → (∃ xs n, o.data = .seq xs n) → h9.get? c = some o := fun c o hc q _ => hs9.extBut c o (fun z => hc (.inr z)) q
          refine ⟨ps.length - (j + 1), by omega, h9, tk8, _, zs ++ [yv], j + 1, rfl, ?_, ?_, hl9, (hn7'.keeps hk8).sameBut hs9 (Ne.symm hDC), ⟨t5, by simp only [hxy, if_false]; exact b5⟩, hjlt, rfl, ?_, (c8.keep (h' := h8) hk8).change ch, ?_⟩
          · exact WK.frame _ _ _ c1 fun c hc o q => hs9.extBut c o (fun z : c = D => hID ((List.mem_singleton.mp hc).symm.trans z)) (hk8 c o q)
          · exact W1.frame _ _ _ c2 fun c hc o q => hs9.extBut c o (fun z : c = D => by
              rcases List.mem_cons.mp hc with h | h
              · exact hJD (h.symm.trans z)
              · exact haxD ((List.mem_singleton.mp h).symm.trans z)) (hk8 c o q)
          · exact fun c o q => hs9.extBut c o (fun z => by rw [z, hD1] at q; cases q) (hk8 c o (g7 c o q))
          · have e2 : (ps.take (j + 1)).map (f kc) = (ps.take j).map (f kc) ++ [f kc p] := by rw [List.take_add_one, hp]; simp
            rw [e2, ← List.append_assoc]
            exact ((c9.keep (h' := h8) hk8).change ch).snoc (hyv.change ch)
        · have hjn : j = ps.length := by omega
          subst hjn
          refine W1.done _ _ _ b2 fun h6 tk6 hk6 => ?_
          have hk6' : ∀ c o, c ≠ J → H5.get? c = some o → h6.get? c = some o := fun c o hc q => hk6 c o (by simpa using hc) q
          refine ⟨.next, rfl, ks.length - (i + 1), by omega, h6, tk6, m5, zs, i + 1, rfl, ?_, b3.at fun o q => hk6' _ o (Ne.symm hJD) q, b4.at' fun o q => hk6' _ o (Ne.symm hJC) q, hlt, rfl, fun c o q => hk6' c o (fun z => by rw [z, hJ1] at q; cases q) (b7 c o q), ?_⟩
          · exact WK.frame _ _ _ b1 fun c hc o q => hk6' c o (fun z => hJI (z.symm.trans (List.mem_singleton.mp hc))) q
          · have e2 : ((ks.take (i + 1)).flatMap fun k => ps.map (f k)) = ((ks.take i).flatMap fun k => ps.map (f k)) ++ (ps.take ps.length).map (f kc) := by
              rw [List.take_add_one, hki, List.flatMap_append, List.take_length]; simp
            rw [e2]
            refine b9.change fun c o _ q hd => hk6' c o (fun z => ?_) q
            obtain ⟨xs, n, hd⟩ := hd
            obtain ⟨o', e', _, hd'⟩ := b2.1
            rw [z, e'] at q; cases q
            rw [hd'] at hd; cases hd
      have start5 : ∃ h' tk m' zs j, ({ s2 with heap := h4.push { cls := .type "list_iterator", data := .fields #[.ref ax, .int 0 0] }, toks := tk4 } : Shared) = { s2 with heap := h', toks := tk } ∧ W.KBw.IsBytesIter h' I by' tb (i + 1) ∧ (h'.IsListIter J ax j ∧ h'.IsList ax us.toArray) ∧ h'.PlainList D zs.toArray ∧ h'.Ns C m' ∧ (∃ t, m' x = some (.int kc t)) ∧ j = 0 ∧ Grow s1.heap h' ∧
          RepL (fun c => X c ∨ c = D) h' ps us ∧ RepL (fun c => X c ∨ c = D) h' (((ks.take i).flatMap fun k => ps.map (f k)) ++ (ps.take j).map (f kc)) zs := by
        have gp : Grow h4 (h4.push { cls := .type "list_iterator", data := .fields #[.ref ax, .int 0 0] }) := Grow.push _ _
        refine ⟨_, _, _, ys, 0, rfl, WK.frame _ _ _ hst4 fun c _ o q => gp c o q, ⟨⟨{ cls := .type "list_iterator", data := .fields #[.ref ax, .int 0 0] }, ?_, rfl, rfl⟩, hl4.at fun o q => gp _ o q⟩, hacc4.at fun o q => gp _ o q, hn4.keeps gp, ⟨u0, by simp only [if_true]⟩, rfl, g4.trans gp, hr4.keep gp, ?_⟩
        · rw [← hJ]; exact Heap.get?_push_size _ rfl
        · rw [List.take_zero, List.map_nil, List.append_nil]; exact hR4.keep gp
      refine codeAny_compStart_1 (inner _ start5) (W1.self 0 _ _ _ ?_ (inner _ start5))
      have gp : Grow h4 (h4.push { cls := .type "list_iterator", data := .fields #[.ref ax, .int 0 0] }) := Grow.push _ _
      refine ⟨⟨{ cls := .type "list_iterator", data := .fields #[.ref ax, .int 0 0] }, ?_, rfl, rfl⟩, hl4.at fun o q => gp _ o q⟩
      rw [← hJ]; exact Heap.get?_push_size _ rfl
    · have hin : i = ks.length := by omega
      subst hin
      refine WK.done _ _ _ hst' fun h2 tk2 hk2 => ?_
      have hk2' : ∀ c o, c ≠ I → H.get? c = some o → h2.get? c = some o := fun c o hc q => hk2 c o (by simpa using hc) q
      have g2 : Grow s1.heap h2 := fun c o q => hk2' c o (fun z => by rw [z, hI1] at q; cases q) (hg c o q)
      rw [List.take_length] at hR
      refine hRR1 D C _ ys (knk h2 tk2 g2) hD1 hC1 hDC ⟨m', hn'.at' fun o q => hk2' _ o (Ne.symm hIC) q⟩ (hacc'.at fun o q => hk2' _ o (Ne.symm hID) q) ?_
      refine hR.change fun c o _ q hd => hk2' c o (fun z => ?_) q
      obtain ⟨xs, n, hd⟩ := hd
      obtain ⟨o', e', _, hd'⟩ := hst'
      rw [z, e'] at q; cases q
      rw [hd'] at hd; cases hd
  exact codeAny_compStart_list (loop _ rfl) (WK.self 0 _ _ _ hst₁ (loop _ rfl))
end
end Mine
end

-- part B20
section
namespace Mine
open PySem PySem.Calls PyProof.Rows
section
variable {prog : Program} {w : World} {A : Around} {env : Env} {b : Shared} {X : Addr → Prop} {fns : List Nat} {s₀ s : Shared} {B : Addr → Option Obj} {σ φ : List (Str × PV)} {own : Option (Str × Addr × List PV)}
  {E : Value → Shared → Prop} {Q : Flow → Shared → Prop} {rest : List Stmt}
theorem evSrc_map {ι : Type} {its : List ι} {q : ι → PV} {iter : Expr} (h : EvSrc prog w A env b X iter (its.map q) (fun p => p)) : EvSrc prog w A env b X iter its q := fun s E Q hb hQ =>
  h s E Q hb fun I fp wr P St s1 s2 k1 k2 W h0 h1 h2 h3 h4 => hQ I fp wr P St s1 s2 k1 k2 (by rwa [List.length_map] at W) h0 h1 h2 h3 fun i v hi hp => by
    obtain ⟨a, ha, hr⟩ := h4 i v (by rwa [List.length_map]) hp
    rw [List.getElem?_map] at ha
    cases e : its[i]? with
    | none => rw [e] at ha; cases ha
    | some x =>
      rw [e] at ha
      cases ha
      exact ⟨x, rfl, hr⟩
theorem evSrc_listM {ι : Type} {its : List ι} {q : ι → PV} {iter : Expr} (hh : A.handled = none) (h : EvO prog w A env b X iter (its.map q)) : EvSrc prog w A env b X iter its q := evSrc_map (evSrc_list hh h)

theorem filter_true {ι : Type} (its : List ι) : (its.filter fun _ => true) = its := List.filter_eq_self.mpr fun _ _ => rfl
/-- [elt for x in iter] -/
theorem evNew_map {ι : Type} {its : List ι} {q : ι → PV} (f : ι → PV) (φ : List (Str × PV)) {elt iter : Expr} {x : Str} {px pos : Pos} {scope : Scope}
    (K : Know env X σ b) (sc : ScOk scope env x) (hφ : FreeOf scope env σ φ) (hX : XOk X b) (src : EvSrc prog w A env b X iter its q)
    (helt : ∀ (X' : Addr → Prop) (C : Addr) (b' : Shared) (a : ι), (∀ c, X c → X' c) → Keeps b b' → XOk X' b' → a ∈ its → Know (compEnvC scope (clOf scope.names env) C env) X' ((x, q a) :: φ) b' → Ev prog w A (compEnvC scope (clOf scope.names env) C env) b' X' elt (f a))
    (hsz : its.length ≤ 16777216) (hs : ∀ x, foldedSetIterable iter env x = pure x := by intro _; rfl) :
    EvNew prog w A env b X (.ListComp elt [⟨.Name x px, iter, [], 0⟩] scope pos) (its.map f) := by
  have := evNew_comp (prog := prog) (w := w) (A := A) (px := px) (pos := pos) (elt := elt) (ifs := []) f (fun _ => true) φ K sc hφ hX src (fun X' C b' a _ _ _ _ _ => tstAll_nil) (fun X' C b' a h1 h2 h3 h4 _ h5 => helt X' C b' a h1 h2 h3 h4 h5) hsz hs
  rwa [filter_true] at this
theorem ex_assign_map {ι : Type} {its : List ι} {q : ι → PV} (f : ι → PV) (φ : List (Str × PV)) {elt iter : Expr} {x y : Str} {px py pos pos' : Pos} {scope : Scope}
    (I : In s₀ B env X σ own s) (sc : ScOk scope env x) (hφ : FreeOf scope env σ φ) (hX : XOk X s) (src : EvSrc prog w A env s X iter its q)
    (helt : ∀ (X' : Addr → Prop) (C : Addr) (b' : Shared) (a : ι), (∀ c, X c → X' c) → Keeps s b' → XOk X' b' → a ∈ its → Know (compEnvC scope (clOf scope.names env) C env) X' ((x, q a) :: φ) b' → Ev prog w A (compEnvC scope (clOf scope.names env) C env) b' X' elt (f a))
    (hsz : its.length ≤ 16777216) (hy : StoreOk env y) (hno : OwnNe own y)
    (h : ∀ s', In s₀ B env X ((y, .list (its.map f)) :: σ) own s' → wpAny (model prog w) A (execs rest env) Q E s')
    (hsw : swapsWith (.ListComp elt [⟨.Name x px, iter, [], 0⟩] scope pos) (some (.Name y py)) pos'.line env = pure true := by rfl) (hs : ∀ x, foldedSetIterable iter env x = pure x := by intro _; rfl) :
    wpAny (model prog w) A (execs (.Assign [.Name y py] (.ListComp elt [⟨.Name x px, iter, [], 0⟩] scope pos) pos' :: rest) env) Q E s :=
  ex_assign_comp f (fun _ => true) φ I sc hφ hX src (fun X' C b' a _ _ _ _ _ => tstAll_nil) (fun X' C b' a h1 h2 h3 h4 _ h5 => helt X' C b' a h1 h2 h3 h4 h5) hsz hy hno (fun s' I' => h s' (by rwa [filter_true] at I')) hsw hs
end
end Mine
end

-- part C1
section
namespace Mine
open PySem PySem.Calls PyProof.Rows

abbrev PG : Program := PySem.Challenge.pw_st0002_01
abbrev fnsP : List Nat := [1, 3, 5, 6, 7, 8, 9, 10, 11, 12]

def at0 (ns : List Int) (i : Nat) : Int := ns.getD i 0
def tabTo (ns : List Int) (i : Nat) : List Int := (List.range ns.length).map fun j => if j ≤ i then (bord (at0 ns) (j + 1) : Int) else 0
def tab (ns : List Int) : List Int := (List.range ns.length).map fun j => (bord (at0 ns) (j + 1) : Int)
theorem tabTo_zero (ns : List Int) : (tabTo ns 0).map PV.int = List.replicate ns.length (.int 0) := by
  refine List.ext_getElem? fun j => ?_
  unfold tabTo
  by_cases h : j < ns.length
  · simp only [List.getElem?_map, List.getElem?_range h, List.getElem?_replicate, h, if_true, Option.map_some]
    split
    · rename_i h0
      have : j = 0 := by omega
      subst this
      rw [bord_one]; rfl
    · rfl
  · simp [List.getElem?_replicate, h]
theorem tabTo_last (ns : List Int) : tabTo ns (ns.length - 1) = tab ns := by
  unfold tabTo tab
  refine List.map_congr_left fun j hj => ?_
  rw [if_pos (by have := List.mem_range.mp hj; omega)]
theorem tabTo_get (ns : List Int) {i j : Nat} (h : j < ns.length) : ((tabTo ns i).map PV.int)[j]? = some (.int (if j ≤ i then (bord (at0 ns) (j + 1) : Int) else 0)) := by
  unfold tabTo
  simp [List.getElem?_range h]
theorem tabTo_set (ns : List Int) {i : Nat} {v : Int} (h : i + 1 < ns.length) (hv : v = bord (at0 ns) (i + 2)) : ((tabTo ns i).map PV.int).set (i + 1) (.int v) = (tabTo ns (i + 1)).map PV.int := by
  subst hv
  rw [← List.map_set]
  congr 1
  refine List.ext_getElem? fun j => ?_
  unfold tabTo
  by_cases hj : j < ns.length
  · rw [List.getElem?_set]
    simp only [List.length_map, List.length_range, List.getElem?_map, List.getElem?_range hj, Option.map_some]
    by_cases e : i + 1 = j
    · subst e
      simp [h]
    · rw [if_neg e]
      by_cases h2 : j ≤ i
      · rw [if_pos h2, if_pos (by omega)]
      · rw [if_neg h2, if_neg (by omega)]
  · simp [hj]
theorem tabTo_len (ns : List Int) (i : Nat) : ((tabTo ns i).map PV.int).length = ns.length := by simp [tabTo]
theorem int_get (ns : List Int) {i : Nat} (h : i < ns.length) : (ns.map PV.int)[i]? = some (.int (at0 ns i)) := by
  unfold at0
  simp [List.getElem?_eq_getElem h, List.getD_eq_getElem?_getD]

section
variable {w : World}
set_option maxHeartbeats 4000000 in
theorem fn_overlap (ns : List Int) (h1 : 1 ≤ ns.length) (h2 : ns.length ≤ 1000) : Fn PG w fnsP 1 1 [.list (ns.map .int)] (.list ((tab ns).map .int)) := by
  refine fn_of (k := 0) (names := [Str.ofString "prefix"]) (fun pm cd doc vs hl => ?_) (by simp) (by rfl) (fun n x hx => ?_) fun A X s s₁ f c' pm doc hA G hX I => ?_
  · obtain ⟨v, rfl⟩ := List.length_eq_one_iff.mp hl
    rfl
  · rw [List.mem_singleton.mp hx]
    exact .inl rfl
  have hlen : (ns.map PV.int).length = ns.length := List.length_map ..
  refine ex_own (ps := (tabTo ns 0).map PV.int) I ?_ (.inl rfl) rfl fun a s1 ha I1 => ?_
  · rw [tabTo_zero]
    exact evNew_mul (n := ns.length) (evNew_list (evArgs_cons (ev_int 0 _ _) evArgs_nil) (by decide)) ((ev_len (I.gl G) (I.ev rfl) (by omega)).of (by rw [hlen])) (by omega) (by omega)
  refine ex_for_range (α := Nat) (fun _ => [(Str.ofString "prefix", .list (ns.map .int))]) (fun c => some (Str.ofString "table", a, (tabTo ns c).map .int)) (fun i c => i = c) 0 I1 rfl hA.handled
    (evRange_2 (n := ns.length) (I1.gl G) (ev_int 1 _ _) ((ev_len (I1.gl G) (I1.ev rfl) (by omega)).of (by rw [hlen])) (by omega) (by omega) (by omega)) (.inl rfl) (fun _ => OwnNe.some (by decide)) ?_ ?_
  · rintro B' i c s2 E' hi rfl I2
    have hi' : i + 1 < ns.length := by omega
    have ei : (1 + (i : Int) * 1) = ((i + 1 : Nat) : Int) := by omega
    rw [ei] at I2
    refine ex_assign (p := .int (bord (at0 ns) (i + 1) : Nat)) I2 (ev_item I2.evO (ev_sub (I2.ev rfl) (ev_int 1 _ _)) (by omega) (by omega) ?_) (.inl rfl) (OwnNe.some (by decide)) fun s3 I3 => ?_
    · have e : ((((i + 1 : Nat) : Int) - 1)).toNat = i := by omega
      rw [e, tabTo_get ns (by omega), if_pos (Nat.le_refl _)]
    refine ex_while (α := Nat) (fun d => [(Str.ofString "idx", .int (d : Int)), (Str.ofString "i", .int ((i + 1 : Nat) : Int)), (Str.ofString "prefix", .list (ns.map .int))]) (fun _ => some (Str.ofString "table", a, (tabTo ns i).map .int))
      (fun n d => n = d ∧ isB (at0 ns) (i + 1) d ∧ ∀ k, isB (at0 ns) (i + 1) k → d < k → at0 ns k ≠ at0 ns (i + 1)) (fun d => decide (at0 ns (i + 1) ≠ at0 ns d)) _ (bord (at0 ns) (i + 1)) I3
      ⟨rfl, bord_is (by omega), fun k hk hlt => absurd (bord_max hk) (by omega)⟩ ?_ ?_ ?_
    · rintro n d s4 ⟨rfl, hb, hno⟩ I4
      have hd := hb.1
      exact tst_cmp (ev_item (I4.ev rfl).o (I4.ev rfl) (by omega) (by omega) (int_get ns (by omega))) (ev_item (I4.ev rfl).o (I4.ev rfl) (by omega) (by omega) (int_get ns (by omega))) cmp_ne
    · rintro n d s4 E4 ⟨rfl, hb, hno⟩ hbt I4
      have hd := hb.1
      have hne : at0 ns (i + 1) ≠ at0 ns n := of_decide_eq_true hbt
      have hno' : ∀ k, isB (at0 ns) (i + 1) k → n ≤ k → at0 ns k ≠ at0 ns (i + 1) := fun k hk hle => by
        rcases Nat.lt_or_ge n k with h | h
        · exact hno k hk h
        · have : n = k := by omega
          subst this; exact fun e => hne e.symm
      refine ex_if' I4 (tst_cmp (I4.ev rfl) (ev_int 0 _ _) cmp_eq) (fun h0 s5 I5 => ?_) (fun h0 s5 I5 => ?_)
      · have h0' : (n : Int) = 0 := of_decide_eq_true h0
        refine ex_setItem I5 (ev_int 0 _ _) (I5.ev rfl) (by omega) (by rw [tabTo_len]; omega) (by omega) fun s6 I6 => ex_break (ex_nil ⟨i + 1, rfl, ?_⟩)
        have e : (((i + 1 : Nat) : Int)).toNat = i + 1 := by omega
        rw [e, tabTo_set ns (by omega) (by
          rw [bord_none (by omega) fun k hk => hno' k hk (by omega)]; rfl)] at I6
        exact I6.to ⟨rfl, trivial⟩
      · have h0' : ¬ (n : Int) = 0 := of_decide_eq_false h0
        obtain ⟨g1, g2, g3⟩ := bord_next hb (by omega) hno'
        refine ex_nil (ex_assign (p := .int (bord (at0 ns) n : Nat)) I5 (ev_item I5.evO (ev_sub (I5.ev rfl) (ev_int 1 _ _)) (by omega) (by omega) ?_) (.inl rfl) (OwnNe.some (by decide)) fun s6 I6 => ex_nil ⟨bord (at0 ns) n, bord (at0 ns) n, g2, ⟨rfl, g1, g3⟩, I6.to ⟨rfl, rfl, rfl, trivial⟩⟩)
        have e : (((n : Int) - 1)).toNat = n - 1 := by omega
        rw [e, tabTo_get ns (by omega), if_pos (by omega)]
        congr 4; omega
    · rintro n d s4 E4 ⟨rfl, hb, hno⟩ hbt I4
      have hd := hb.1
      have he : at0 ns (i + 1) = at0 ns n := Decidable.not_not.mp (of_decide_eq_false hbt)
      refine ex_setItem I4 (ev_add (I4.ev rfl) (ev_int 1 _ _)) (I4.ev rfl) (by omega) (by rw [tabTo_len]; omega) (by omega) fun s6 I6 => ex_nil (ex_nil ⟨i + 1, rfl, ?_⟩)
      have e : (((i + 1 : Nat) : Int)).toNat = i + 1 := by omega
      rw [e, tabTo_set ns (by omega) (by
          rw [bord_step hb he.symm hno]; rfl)] at I6
      exact I6.to ⟨rfl, trivial⟩
  · rintro c s2 rfl I2
    have e : ((ns.length : Int) - 1).toNat = ns.length - 1 := by omega
    rw [e, tabTo_last] at I2
    exact ex_ret_own I2 (fun _ x => .inl x) hX
end
end Mine
end

-- part C2
section
namespace Mine
open PySem PySem.Calls PyProof.Rows

def apL : List Int := [65, 66, 67, 68, 69, 70, 71, 72, 73, 74, 75, 76, 77, 78, 79, 80]
theorem ap_cut : ∀ r : Nat, r < 16 → (apL.drop r).take (r + 1 - r) = [65 + (r : Int)] := by decide
section
variable {w : World}
set_option maxHeartbeats 4000000 in
theorem fn_int2ap (a : Int) (ha : a.natAbs < 16 ^ 30) : Fn PG w fnsP 1 3 [.int a] (.bytes (word a.natAbs)) := by
  refine fn_of (k := 0) (names := [Str.ofString "num"]) (fun pm cd doc vs hl => ?_) (by simp) (by rfl) (fun n x hx => ?_) fun A X s s₁ f c' pm doc hA G hX I => ?_
  · obtain ⟨v, rfl⟩ := List.length_eq_one_iff.mp hl
    rfl
  · rw [List.mem_singleton.mp hx]
    exact .inl rfl
  have hw := word_len 30 _ ha
  refine ex_assign I ev_bytes (.inl rfl) (OwnNe.none _) fun s1 I1 => ?_
  refine ex_assign (p := .bytes apL) I1 ev_bytes (.inl rfl) (OwnNe.none _) fun s2 I2 => ?_
  refine ex_assign I2 (ev_toInt (I2.gl G) (ev_abs (I2.gl G) (I2.ev rfl))) (.inl rfl) (OwnNe.none _) fun s3 I3 => ?_
  refine ex_while (α := Nat × List Int) (fun c => [(Str.ofString "num", .int (c.1 : Int)), (Str.ofString "val", .bytes c.2), (Str.ofString "AP", .bytes apL)]) (fun _ => none)
    (fun n c => n = c.1 ∧ word a.natAbs = word n ++ c.2) (fun c => decide ((c.1 : Int) ≠ 0)) _ (a.natAbs, []) (I3.to ⟨rfl, rfl, rfl, trivial⟩) ⟨rfl, by simp⟩ ?_ ?_ ?_
  · rintro n ⟨m, v⟩ s4 ⟨rfl, hv⟩ I4
    exact tst_int (I4.ev rfl)
  · rintro n ⟨m, v⟩ s4 E4 ⟨e, hv⟩ hbt I4
    replace e : n = m := e
    subst e
    have hn : (n : Int) ≠ 0 := of_decide_eq_true hbt
    have hn0 : 0 < n := by omega
    have hvl : v.length ≤ 30 := by
      have := congrArg List.length hv
      rw [List.length_append] at this
      have h2 : (n, v).2.length = v.length := rfl
      omega
    have e1 : ((n : Int) % 16) = ((n % 16 : Nat) : Int) := by omega
    have e2 : ((n : Int) / 16) = ((n / 16 : Nat) : Int) := by omega
    refine ex_divmod (i := (n : Int)) (j := 16) I4 (I4.gl G) (I4.ev rfl) (ev_int 16 _ _) (by omega) (by decide) hA.handled (.inl rfl) (.inl rfl) (OwnNe.none _) (OwnNe.none _) fun s5 I5 => ?_
    rw [e1, e2] at I5
    refine ex_assign (p := .bytes ([65 + ((n % 16 : Nat) : Int)] ++ v)) I5 (ev_cat_bytes ((ev_cut (I5.ev rfl) (evPart_some (I5.ev rfl)) (evPart_some (ev_add (I5.ev rfl) (ev_int 1 _ _))) (by decide)).of ?_) (I5.ev rfl) (by simp; omega)) (.inl rfl) (OwnNe.none _) fun s6 I6 => ?_
    · have hm : n % 16 < 16 := Nat.mod_lt _ (by decide)
      have hlen : apL.length = 16 := rfl
      have := cut_mid apL (n % 16) (n % 16 + 1) (by omega) (by omega)
      rw [ap_cut _ hm] at this
      rw [← this]; rfl
    · refine ex_nil ⟨n / 16, (n / 16, [65 + ((n % 16 : Nat) : Int)] ++ v), by omega, ⟨rfl, ?_⟩, I6.to ⟨rfl, rfl, rfl, trivial⟩⟩
      rw [hv, word_pos hn0, List.append_assoc]
  · rintro n ⟨m, v⟩ s4 E4 ⟨e, hv⟩ hbt I4
    replace e : n = m := e
    subst e
    have hn : (n : Int) = 0 := Decidable.not_not.mp (of_decide_eq_false hbt)
    have hn0 : n = 0 := by omega
    subst hn0
    rw [word_zero, List.nil_append] at hv
    refine ex_nil ?_
    rw [hv]
    exact ex_ret I4 (I4.ev rfl) fun _ x => x

/-- the word by places -/
def lword (n : Nat) : List Int := ((List.range 20).filter fun i => decide (16 ^ (19 - i) ≤ n)).map fun i => 65 + ((n / 16 ^ (19 - i) % 16 : Nat) : Int)
set_option maxHeartbeats 4000000 in
theorem fn_word (n : Nat) : Fn PG w fnsP 1 5 [.int (n : Int)] (.bytes (lword n)) := by
  refine fn_of (k := 0) (names := [Str.ofString "number"]) (fun pm cd doc vs hl => ?_) (by simp) (by rfl) (fun n x hx => ?_) fun A X s s₁ f c' pm doc hA G hX I => ?_
  · obtain ⟨v, rfl⟩ := List.length_eq_one_iff.mp hl
    rfl
  · rw [List.mem_singleton.mp hx]
    exact .inr ⟨rfl, rfl⟩
  have hle : ∀ i, 16 ^ (19 - i) ≤ 16 ^ 19 := fun i => Nat.pow_le_pow_right (by decide) (by omega)
  have cst : ∀ i, (16 : Int) ^ (19 - i) = ((16 ^ (19 - i) : Nat) : Int) := fun i => by push_cast; rfl
  have pl : ∀ a : Nat, a ∈ List.range 20 → (19 + (a : Int) * (-1)) = ((19 - a : Nat) : Int) := fun a ha => by have := List.mem_range.mp ha; omega
  refine ex_ret I (ev_toBytes (ns := lword n) (I.gl G) hA.handled (Ev.of (EvNew.ev (evNew_comp (its := List.range 20) (q := fun i => .int (19 + (i : Int) * (-1))) (fun i => .int (65 + ((n / 16 ^ (19 - i) % 16 : Nat) : Int))) (fun i => decide (16 ^ (19 - i) ≤ n)) [(Str.ofString "number", .int (n : Int))]
    I.know (scOk rfl) ⟨rfl, rfl, rfl, trivial⟩ (I.xok hX) (evSrc_range hA.handled (evRange_down (X := X) (I.gl G) (ev_int 19 _ _) (ev_neg (ev_int 1 _ _)) (ev_neg (ev_int 1 _ _))))
    (fun X' C b' a hXX kb hX' ha K => ?_) (fun X' C b' a hXX kb hX' ha _ K => ?_) (by decide)) (I.xok hX)) ?_) (fun c hc => ?_) ?_) fun _ x => x
  · refine tstAll_one ((tst_cmp (ev_pow (n := 19 - a) (ev_int 16 _ _) ((K.ev rfl).of (by rw [pl a ha])) (by decide) (by omega)) (K.ev rfl) cmp_le).of ?_)
    rw [cst]; exact decide_eq_decide.mpr Int.ofNat_le
  · refine (ev_add (ev_int 65 _ _) (ev_mod (ev_div (K.ev rfl) (ev_pow (n := 19 - a) (ev_int 16 _ _) ((K.ev rfl).of (by rw [pl a ha])) (by decide) (by omega)) ?_ ?_) (ev_int 16 _ _) (by decide))).of ?_
    · rw [cst]; have := Nat.pow_pos (n := 19 - a) (show 0 < 16 by decide); omega
    · rw [cst]; have := hle a; omega
    · rw [cst]; push_cast; rfl
  · unfold lword; rw [List.map_map]; rfl
  · unfold lword at hc
    obtain ⟨i, _, rfl⟩ := List.mem_map.mp hc
    omega
  · unfold lword
    rw [List.length_map]
    exact Nat.le_trans (List.length_filter_le _ _) (by decide)
end
end Mine
end

-- part C3
section
namespace Mine
open PySem PySem.Calls PyProof.Rows

section
variable {prog : Program} {w : World} {A : Around} {env : Env} {b : Shared} {X : Addr → Prop} {fns : List Nat}
theorem ex_retK {s₀ s : Shared} {B : Addr → Option Obj} {Y : Addr → Prop} {σ : List (Str × PV)} {own : Option (Str × Addr × List PV)} {E : Value → Shared → Prop} {Q : Flow → Shared → Prop} {rest : List Stmt} {pos : Pos} {e : Expr} {p : PV} (I : In s₀ B env Y σ own s) (he : Ev prog w A env s Y e p)
    (hXY : ∀ a, X a → Y a) (hQ : ∀ v s', Ret s₀ X p (.ret v) s' → Q (.ret v) s') : wpAny (model prog w) A (execs (.Return (some e) pos :: rest) env) Q E s :=
  ex_return he fun v s' k r => hQ v s' ⟨v, rfl, keeps_trans I.keeps k, r.mono (fun _ _ _ e _ => e) fun a _ _ x => hXY a x⟩
theorem repM_get {ns : List Int} {i : Nat} (h : i < ns.length) : (ns.map PV.int)[i]? = some (.int (ns.getD i 0)) := int_get ns h
theorem raw_get {ns : List Int} {i : Nat} (h : i < ns.length) : ns[i]? = some (ns.getD i 0) := by
  rw [List.getD_eq_getElem?_getD, List.getElem?_eq_getElem h]; rfl
end

section
variable {w : World}
set_option maxHeartbeats 4000000 in
theorem fn_next (ks : List Int) (hr : ∀ c ∈ ks, 0 ≤ c ∧ c < 100) (hl : ks.length ≤ 900) : Fn PG w fnsP 1 6 [.bytes ks] (.bytes (nextW ks)) := by
  refine fn_of (k := 0) (names := [Str.ofString "word"]) (fun pm cd doc vs hl => ?_) (by simp) (by rfl) (fun n x hx => ?_) fun A X s s₁ f c' pm doc hA G hX I => ?_
  · obtain ⟨v, rfl⟩ := List.length_eq_one_iff.mp hl
    rfl
  · rw [List.mem_singleton.mp hx]
    exact .inl rfl
  refine ex_assign I (ev_lenb (I.gl G) (I.ev rfl) (by omega)) (.inl rfl) (OwnNe.none _) fun s1 I1 => ?_
  refine ex_while (α := Nat) (fun c => [(Str.ofString "kept", .int (c : Int)), (Str.ofString "word", .bytes ks)]) (fun _ => none)
    (fun n c => n = c ∧ c ≤ ks.length ∧ keptOf ks ks.length = keptOf ks c) (fun c => decide ((c : Int) > 0) && decide (ks.getD (c - 1) 0 = 80)) _ ks.length (I1.to ⟨rfl, rfl, trivial⟩) ⟨rfl, Nat.le_refl _, rfl⟩ ?_ ?_ ?_
  · rintro n c s2 ⟨rfl, hn, hk⟩ I2
    refine tst_and (tst_cmp (I2.ev rfl) (ev_int 0 _ _) cmp_gt) fun h0 => ?_
    have h0' : (n : Int) > 0 := of_decide_eq_true h0
    have e : ((n : Int) - 1).toNat = n - 1 := by omega
    exact tst_cmp (ev_octet (I2.ev rfl) (ev_sub (I2.ev rfl) (ev_int 1 _ _)) (by omega) (by omega) (by rw [e]; exact raw_get (by omega))) (ev_int 80 _ _) cmp_eq
  · rintro n c s2 E2 ⟨rfl, hn, hk⟩ hbt I2
    rw [Bool.and_eq_true] at hbt
    have h0 : (n : Int) > 0 := of_decide_eq_true hbt.1
    have h1 : ks.getD (n - 1) 0 = 80 := of_decide_eq_true hbt.2
    obtain ⟨m, rfl⟩ : ∃ m, n = m + 1 := ⟨n - 1, by omega⟩
    refine ex_isub I2 rfl (ev_int 1 _ _) (.inl rfl) (OwnNe.none _) fun s3 I3 => ex_nil ⟨m, m, by omega, ⟨rfl, by omega, ?_⟩, ?_⟩
    · rw [hk, keptOf, if_pos (by simpa using h1)]
    · have e : (((m + 1 : Nat) : Int) - 1) = (m : Int) := by omega
      rw [e] at I3
      exact I3.to ⟨rfl, rfl, trivial⟩
  · rintro n c s2 E2 ⟨rfl, hn, hk⟩ hbt I2
    have hkn : keptOf ks n = n := by
      rw [Bool.and_eq_false_iff] at hbt
      cases n with
      | zero => rfl
      | succ m =>
        rcases hbt with h | h
        · have h := of_decide_eq_false h; omega
        · have h := of_decide_eq_false h
          rw [keptOf, if_neg (by simpa using h)]
    rw [hkn] at hk
    refine ex_nil (ex_if' I2 (tst_cmp (I2.ev rfl) (ev_int 0 _ _) cmp_eq) (fun h0 s3 I3 => ?_) (fun h0 s3 I3 => ?_))
    · have h0' : (n : Int) = 0 := of_decide_eq_true h0
      refine ex_retK (X := X) (p := .bytes (nextW ks)) I3 ((ev_cat_bytes ev_bytes (ev_mul_octet ev_bytes (ev_lenb (I3.gl G) (I3.ev rfl) (by omega)) (by omega) (by omega)) ?_).of ?_) (fun _ x => x) fun _ _ h => h
      · simp; omega
      · have : keptOf ks ks.length = 0 := by omega
        unfold nextW
        rw [if_pos this]; rfl
    · have h0' : ¬ (n : Int) = 0 := of_decide_eq_false h0
      have e : ((n : Int) - 1).toNat = n - 1 := by omega
      have hmem : ks.getD (n - 1) 0 ∈ ks := by
        have := raw_get (ns := ks) (i := n - 1) (by omega)
        exact List.mem_of_getElem? this
      have hc := hr _ hmem
      refine ex_nil (ex_retK (X := X) (p := .bytes (nextW ks)) I3 (((ev_cat_bytes (ev_cat_bytes ((ev_cut (I3.ev rfl) evPart_none (evPart_some (ev_sub (I3.ev rfl) (ev_int 1 _ _))) (by omega)).of (p' := .bytes (ks.take (n - 1))) ?_)
        (ev_toBytes (ns := [ks.getD (n - 1) 0 + 1]) (I3.gl G) hA.handled ((ev_list (evArgs_cons (ev_add (ev_octet (I3.ev rfl) (ev_sub (I3.ev rfl) (ev_int 1 _ _)) (by omega) (by omega) (by rw [e]; exact raw_get (by omega))) (ev_int 1 _ _)) evArgs_nil) (I3.xok hX) (by simp)).of rfl) ?_ (by simp)) ?_)
        (ev_mul_octet ev_bytes (ev_sub (ev_lenb (I3.gl G) (I3.ev rfl) (by omega)) (I3.ev rfl)) (by omega) (by omega)) ?_)).of ?_) (fun _ x => x) fun _ _ h => h)
      · have := cut_to ks (n - 1) (by omega)
        have e2 : (((n - 1 : Nat)) : Int) = (n : Int) - 1 := by omega
        rw [e2] at this
        rw [this]
      · intro x hx
        rw [List.mem_singleton.mp hx]; omega
      · simp; omega
      · simp; omega
      · unfold nextW
        rw [if_neg (by omega), hk]
        have e3 : ((ks.length : Int) - (n : Int)).toNat = ks.length - n := by omega
        rw [e3]; rfl

set_option maxHeartbeats 4000000 in
theorem fn_noughts (fs : List Int) (hl : fs.length ≤ 1000) : Fn PG w fnsP 1 8 [.list (fs.map .int)] (.int (noughts fs : Nat)) := by
  refine fn_of (k := 0) (names := [Str.ofString "figures"]) (fun pm cd doc vs hl => ?_) (by simp) (by rfl) (fun n x hx => ?_) fun A X s s₁ f c' pm doc hA G hX I => ?_
  · obtain ⟨v, rfl⟩ := List.length_eq_one_iff.mp hl
    rfl
  · rw [List.mem_singleton.mp hx]
    exact .inl rfl
  have hlen : (fs.map PV.int).length = fs.length := List.length_map ..
  refine ex_assign I (ev_int 0 _ _) (.inl rfl) (OwnNe.none _) fun s1 I1 => ?_
  refine ex_while (α := Nat) (fun c => [(Str.ofString "count", .int (c : Int)), (Str.ofString "figures", .list (fs.map .int))]) (fun _ => none)
    (fun n c => n = fs.length - c ∧ c ≤ fs.length ∧ ∀ j, j < c → fs.getD (fs.length - 1 - j) 0 = 0) (fun c => decide ((c : Int) < fs.length) && decide (fs.getD (fs.length - 1 - c) 0 = 0)) _ 0 (I1.to ⟨rfl, rfl, trivial⟩) ⟨rfl, Nat.zero_le _, fun j hj => by omega⟩ ?_ ?_ ?_
  · rintro n c s2 ⟨rfl, hn, hk⟩ I2
    refine tst_and (tst_cmp (I2.ev rfl) ((ev_len (I2.gl G) (I2.ev rfl) (by omega)).of (by rw [hlen])) cmp_lt) fun h0 => ?_
    have h0' : (c : Int) < fs.length := of_decide_eq_true h0
    have e : (-1 - (c : Int) + ((fs.map PV.int).length : Nat)).toNat = fs.length - 1 - c := by rw [hlen]; omega
    exact tst_cmp (ev_item_neg (I2.ev rfl).o (ev_sub (ev_neg (ev_int 1 _ _)) (I2.ev rfl)) (by omega) (by omega) (by omega) (by rw [e]; exact repM_get (by omega))) (ev_int 0 _ _) cmp_eq
  · rintro n c s2 E2 ⟨rfl, hn, hk⟩ hbt I2
    rw [Bool.and_eq_true] at hbt
    have h0 : (c : Int) < fs.length := of_decide_eq_true hbt.1
    have h1 : fs.getD (fs.length - 1 - c) 0 = 0 := of_decide_eq_true hbt.2
    refine ex_iadd I2 rfl (ev_int 1 _ _) (.inl rfl) (OwnNe.none _) fun s3 I3 => ex_nil ⟨fs.length - (c + 1), c + 1, by omega, ⟨rfl, by omega, fun j hj => ?_⟩, ?_⟩
    · rcases Nat.lt_or_ge j c with h | h
      · exact hk j h
      · have : j = c := by omega
        subst this; exact h1
    · exact I3.to ⟨rfl, rfl, trivial⟩
  · rintro n c s2 E2 ⟨rfl, hn, hk⟩ hbt I2
    rw [Bool.and_eq_false_iff] at hbt
    have hz : noughts fs = c := noughts_eq fs c hn hk (by
      rcases hbt with h | h
      · have h := of_decide_eq_false h; left; omega
      · exact .inr (of_decide_eq_false h))
    rw [hz]
    exact ex_nil (ex_ret I2 (I2.ev rfl) fun _ x => x)
end
end Mine
end

-- part C4
section
namespace Mine
open PySem PySem.Calls PyProof.Rows

theorem map_int_inj {a b : List Int} : a.map PV.int = b.map PV.int ↔ a = b := by
  constructor
  · intro h
    exact (List.map_inj_right (fun x y e => by cases e; rfl)).mp h
  · rintro rfl; rfl
theorem pick_map (ns : List Int) (l u t : Option Int) : pick (ns.map PV.int) l u t = (pick ns l u t).map PV.int := by
  unfold pick
  rw [List.length_map, List.map_filterMap]
  congr 1
  funext i
  simp
section
variable {w : World}
set_option maxHeartbeats 4000000 in
theorem fn_table (hs : List Int) (hl : hs.length ≤ 1000) : Fn PG w fnsP 1 9 [.list (hs.map .int)] (.list ((tab hs).map .int)) := by
  refine fn_of (k := 0) (names := [Str.ofString "heights"]) (fun pm cd doc vs hl => ?_) (by simp) (by rfl) (fun n x hx => ?_) fun A X s s₁ f c' pm doc hA G hX I => ?_
  · obtain ⟨v, rfl⟩ := List.length_eq_one_iff.mp hl
    rfl
  · rw [List.mem_singleton.mp hx]
    exact .inl rfl
  have hlen : (hs.map PV.int).length = hs.length := List.length_map ..
  have hu := hA.units'
  refine ex_own (ps := []) I (evNew_list evArgs_nil (by simp)) (.inl rfl) rfl fun a s1 ha I1 => ?_
  refine ex_assign I1 (ev_int 1 _ _) (.inl rfl) (OwnNe.some (by decide)) fun s2 I2 => ?_
  refine ex_for_range (α := Nat × Nat) (fun c => [(Str.ofString "step", .int (c.2 : Int)), (Str.ofString "heights", .list (hs.map .int))]) (fun c => some (Str.ofString "lengths", a, ((tab hs).take c.1).map .int))
    (fun i c => i = c.1 ∧ 1 ≤ c.2 ∧ c.2 ≤ i + 1 ∧ ∀ k, isB (at0 hs) (i + 1) k → k ≤ i + 1 - c.2) (0, 1) (I2.to ⟨rfl, rfl, trivial⟩) ⟨rfl, by decide, by decide, fun k hk => by have := hk.1; show k ≤ 0 + 1 - 1; omega⟩ hA.handled
    (evRange_2 (n := hs.length + 1) (I2.gl G) (ev_int 1 _ _) (ev_add ((ev_len (I2.gl G) (I2.ev rfl) (by omega)).of (by rw [hlen])) (ev_int 1 _ _)) (by omega) (by omega) (by omega)) (.inl rfl) (fun _ => OwnNe.some (by decide)) ?_ ?_
  · rintro B' i ⟨i', st⟩ s3 E3 hi ⟨e, hs1, hs2, hno⟩ I3
    replace e : i = i' := e
    subst e
    replace hs1 : 1 ≤ st := hs1
    replace hs2 : st ≤ i + 1 := hs2
    replace hno : ∀ k, isB (at0 hs) (i + 1) k → k ≤ i + 1 - st := hno
    have hi' : i + 1 ≤ hs.length := by omega
    have ei : (1 + (i : Int) * 1) = ((i + 1 : Nat) : Int) := by omega
    rw [ei] at I3
    refine ex_while (α := Nat) (fun d => [(Str.ofString "size", .int ((i + 1 : Nat) : Int)), (Str.ofString "step", .int (d : Int)), (Str.ofString "heights", .list (hs.map .int))]) (fun _ => some (Str.ofString "lengths", a, ((tab hs).take i).map .int))
      (fun n d => n = i + 1 - d ∧ 1 ≤ d ∧ d ≤ i + 1 ∧ ∀ k, isB (at0 hs) (i + 1) k → k ≤ i + 1 - d) (fun d => decide ((hs.drop d).take (i + 1 - d) ≠ hs.take (i + 1 - d))) _ st (I3.to ⟨rfl, rfl, rfl, trivial⟩) ⟨rfl, hs1, hs2, hno⟩ ?_ ?_ ?_
    · rintro n d s4 ⟨rfl, h1, h2, hn⟩ I4
      have e1 : (((i + 1 : Nat) : Int) - (d : Int)) = ((i + 1 - d : Nat) : Int) := by omega
      refine tst_cmp (p := .list (((hs.drop d).take (i + 1 - d)).map .int)) (q := .list ((hs.take (i + 1 - d)).map .int))
        ((ev_slice (I4.ev rfl).o (evPart_some (I4.ev rfl)) (evPart_some (I4.ev rfl)) evPart_none (I4.xokO hX) (by simp) (by omega)).of ?_)
        ((ev_slice (I4.ev rfl).o evPart_none (evPart_some (ev_sub (I4.ev rfl) (I4.ev rfl))) evPart_none (I4.xokO hX) (by simp) (by omega)).of ?_)
        (cmp_ne_list (τ := .int) (hasTy_ints _) (hasTy_ints _) ?_ ?_)
      · rw [pick_map, pick_mid]
      · rw [pick_map, e1, pick_to]
      · show A.units + 0 + 1 < cLine
        omega
      · rw [decide_eq_true_iff]
        exact not_congr map_int_inj.symm
    · rintro n d s4 E4 ⟨rfl, h1, h2, hn⟩ hbt I4
      have hne : ¬ isB (at0 hs) (i + 1) (i + 1 - d) := fun h => of_decide_eq_true hbt ((list_border hs (i + 1) d h2 h1 hi').mpr h)
      have hd : d < i + 1 := by
        rcases Nat.lt_or_ge d (i + 1) with h | h
        · exact h
        · exfalso; apply hne
          have : i + 1 - d = 0 := by omega
          rw [this]; exact isB_zero (by omega)
      refine ex_iadd I4 rfl (ev_int 1 _ _) (.inl rfl) (OwnNe.some (by decide)) fun s5 I5 => ex_nil ⟨i + 1 - (d + 1), d + 1, by omega, ⟨rfl, by omega, by omega, fun k hk => ?_⟩, I5.to ⟨rfl, rfl, rfl, trivial⟩⟩
      have h3 := hn k hk
      have : k ≠ i + 1 - d := fun e => hne (e ▸ hk)
      omega
    · rintro n d s4 E4 ⟨rfl, h1, h2, hn⟩ hbt I4
      have hb : isB (at0 hs) (i + 1) (i + 1 - d) := (list_border hs (i + 1) d h2 h1 hi').mp (Decidable.not_not.mp (of_decide_eq_false hbt))
      have hbord : bord (at0 hs) (i + 1) = i + 1 - d := bord_eq hb fun j hj hjb => by have := hn j hjb; omega
      refine ex_nil (ex_append (p := .int ((i + 1 - d : Nat) : Int)) I4 ((ev_sub (I4.ev rfl) (I4.ev rfl)).of (by congr 1; omega)) (by simp; omega) fun s5 I5 => ex_nil ⟨(i + 1, d), ⟨rfl, h1, by omega, fun k hk => ?_⟩, ?_⟩)
      · cases k with
        | zero => exact Nat.zero_le _
        | succ k =>
          have := bord_max (isB_succ.mp hk).1
          show k + 1 ≤ i + 1 + 1 - d
          omega
      · have e2 : ((tab hs).take (i + 1)).map PV.int = ((tab hs).take i).map PV.int ++ [.int ((i + 1 - d : Nat) : Int)] := by
          have hg : (tab hs)[i]? = some ((i + 1 - d : Nat) : Int) := by
            unfold tab
            rw [List.getElem?_map, List.getElem?_range (by omega)]
            simp [hbord]
          rw [List.take_add_one, hg]; simp
        rw [← e2] at I5
        exact I5.to ⟨rfl, rfl, trivial⟩
  · rintro ⟨i, st⟩ s3 ⟨e, _⟩ I3
    replace e : ((hs.length : Int) + 1 - 1).toNat = i := e
    have e : i = hs.length := by omega
    subst e
    have e2 : (tab hs).take hs.length = tab hs := List.take_of_length_le (by simp [tab])
    replace I3 : In s _ _ _ _ (some (Str.ofString "lengths", a, ((tab hs).take hs.length).map .int)) s3 := I3
    rw [e2] at I3
    exact ex_ret_own I3 (fun _ x => .inl x) hX

set_option maxHeartbeats 4000000 in
theorem fn_far (zs : List Int) (own base divisor : Int) (h1 : 1 ≤ zs.length) (hl : zs.length ≤ 1000) (hd : 0 < divisor) (hbb : base.natAbs < 2 ^ 100) (ho : own.natAbs < 2 ^ 100) (hz : ∀ z ∈ zs, z.natAbs < 2 ^ 100) :
    Fn PG w fnsP 1 10 [.list (zs.map .int), .int own, .int base, .int divisor] (.int (farOf zs own base divisor : Nat)) := by
  refine fn_of (k := 0) (names := [Str.ofString "noughts", Str.ofString "own", Str.ofString "base", Str.ofString "divisor"]) (fun pm cd doc vs hl => ?_) (by decide) (by rfl) (fun n x hx => ?_) fun A X s s₁ f c' pm doc hA G hX I => ?_
  · match vs, hl with
    | [a, b, c, d], _ => rfl
  · simp only [List.mem_cons, List.mem_nil_iff, or_false] at hx
    rcases hx with rfl | rfl | rfl | rfl
    all_goals exact .inl rfl
  have hlen : (zs.map PV.int).length = zs.length := List.length_map ..
  refine ex_for_range (α := Nat) (fun _ => [(Str.ofString "noughts", .list (zs.map .int)), (Str.ofString "own", .int own), (Str.ofString "base", .int base), (Str.ofString "divisor", .int divisor)]) (fun _ => none)
    (fun i c => i = c ∧ ∀ q, 1 ≤ q → q < 1 + i → farBad zs own base divisor q = false) 0 I ⟨rfl, fun q h1 h2 => by omega⟩ hA.handled
    (evRange_2 (n := zs.length) (I.gl G) (ev_int 1 _ _) ((ev_len (I.gl G) (I.ev rfl) (by omega)).of (by rw [hlen])) (by omega) (by omega) (by omega)) (.inl rfl) (fun _ => OwnNe.none _) ?_ ?_
  · rintro B' i c s2 E2 hi ⟨rfl, hno⟩ I2
    have hi' : i + 1 < zs.length := by omega
    have ei : (1 + (i : Int) * 1) = ((i + 1 : Nat) : Int) := by omega
    rw [ei] at I2
    have hget : (zs.map PV.int)[((i + 1 : Nat) : Int).toNat]? = some (.int (zs.getD (i + 1) 0)) := repM_get hi'
    have hzz : (zs.getD (i + 1) 0).natAbs < 2 ^ 100 := hz _ (List.mem_of_getElem? (raw_get hi'))
    refine ex_if' (bb := farBad zs own base divisor (i + 1)) I2 (tst_and (tst_cmp (ev_item (I2.ev rfl).o (I2.ev rfl) (by omega) (by omega) hget) (I2.ev rfl) cmp_gt) fun _ => tst_cmp
      (ev_mod (ev_mul (ev_sub (I2.ev rfl) (ev_int 1 _ _)) (ev_sub (ev_item (I2.ev rfl).o (I2.ev rfl) (by omega) (by omega) hget) (I2.ev rfl)) (by omega) (by omega)) (I2.ev rfl) hd) (ev_int 0 _ _) cmp_ne) (fun hb s3 I3 => ?_) (fun hb s3 I3 => ?_)
    · refine ex_retK (X := X) (p := .int (farOf zs own base divisor : Nat)) I3 ((I3.ev rfl).of ?_) (fun _ x => x) fun _ _ h => h
      congr 2
      unfold farOf
      obtain ⟨k, hk⟩ : ∃ k, zs.length - 1 = i + (k + 1) := ⟨zs.length - 1 - i - 1, by omega⟩
      rw [hk, farFrom_skip zs own base divisor i (k + 1) 1 hno, farFrom, Nat.add_comm 1 i, if_pos hb]
    · refine ex_nil (ex_nil ⟨i + 1, ⟨rfl, fun q h1 h2 => ?_⟩, I3.to ⟨rfl, rfl, rfl, rfl, trivial⟩⟩)
      rcases Nat.lt_or_ge q (1 + i) with h | h
      · exact hno q h1 h
      · have : q = i + 1 := by omega
        subst this; exact hb
  · rintro c s2 ⟨_, hno⟩ I2
    refine ex_ret I2 ((ev_len (I2.gl G) (I2.ev rfl) (by omega)).of ?_) fun _ x => x
    rw [hlen]
    congr 2
    unfold farOf
    have e : ((zs.length : Int) - 1).toNat = zs.length - 1 := by omega
    rw [e] at hno
    have := farFrom_skip zs own base divisor (zs.length - 1) 0 1 hno
    rw [Nat.add_zero] at this
    rw [this, farFrom]; omega

set_option maxHeartbeats 4000000 in
theorem fn_again (ns : List Int) (size step : Nat) (h0 : 1 ≤ size) (h1 : 1 ≤ step) (h2 : step ≤ size) (h3 : size ≤ ns.length) (hl : ns.length ≤ 1000) :
    Fn PG w fnsP 1 11 [.list ((tab ns).map .int), .int (size : Int), .int (step : Int)] (.bool (isBb (at0 ns) size (size - step))) := by
  refine fn_of (k := 0) (names := [Str.ofString "table", Str.ofString "size", Str.ofString "step"]) (fun pm cd doc vs hl => ?_) (by decide) (by rfl) (fun n x hx => ?_) fun A X s s₁ f c' pm doc hA G hX I => ?_
  · match vs, hl with
    | [a, b, c], _ => rfl
  · simp only [List.mem_cons, List.mem_nil_iff, or_false] at hx
    rcases hx with rfl | rfl | rfl
    all_goals exact .inl rfl
  have tget : ∀ i, i < ns.length → ((tab ns).map PV.int)[i]? = some (.int (bord (at0 ns) (i + 1) : Nat)) := fun i hi => by
    unfold tab
    rw [List.map_map, List.getElem?_map, List.getElem?_range hi]; rfl
  have e1 : ((size : Int) - 1).toNat = size - 1 := by omega
  have e2 : size - 1 + 1 = size := by omega
  refine ex_assign (p := .int (bord (at0 ns) size : Nat)) I (ev_item (I.ev rfl).o (ev_sub (I.ev rfl) (ev_int 1 _ _)) (by omega) (by omega) (by rw [e1, tget _ (by omega), e2])) (.inl rfl) (OwnNe.none _) fun s1 I1 => ?_
  refine ex_while (α := Nat) (fun c => [(Str.ofString "border", .int (c : Int)), (Str.ofString "table", .list ((tab ns).map .int)), (Str.ofString "size", .int (size : Int)), (Str.ofString "step", .int (step : Int))]) (fun _ => none)
    (fun n c => n = c ∧ isB (at0 ns) size c ∧ ∀ k, isB (at0 ns) size k → k ≤ size - step → k ≤ c) (fun c => decide ((c : Int) > size - step)) _ (bord (at0 ns) size) I1 ⟨rfl, bord_is (by omega), fun k hk _ => bord_max hk⟩ ?_ ?_ ?_
  · rintro n c s2 ⟨rfl, hb, hk⟩ I2
    exact tst_cmp (I2.ev rfl) (ev_sub (I2.ev rfl) (I2.ev rfl)) cmp_gt
  · rintro n c s2 E2 ⟨rfl, hb, hk⟩ hbt I2
    have h : (n : Int) > size - step := of_decide_eq_true hbt
    have hn := hb.1
    have hbn := bord_is (f := at0 ns) (n := n) (by omega)
    have e3 : ((n : Int) - 1).toNat = n - 1 := by omega
    have e4 : n - 1 + 1 = n := by omega
    refine ex_assign (p := .int (bord (at0 ns) n : Nat)) I2 (ev_item (I2.ev rfl).o (ev_sub (I2.ev rfl) (ev_int 1 _ _)) (by omega) (by omega) (by rw [e3, tget _ (by omega), e4])) (.inl rfl) (OwnNe.none _) fun s3 I3 =>
      ex_nil ⟨bord (at0 ns) n, bord (at0 ns) n, hbn.1, ⟨rfl, isB_outer hb hbn, fun k hkb hks => bord_max (isB_inner hb hkb (by omega))⟩, I3.to ⟨rfl, rfl, rfl, rfl, trivial⟩⟩
  · rintro n c s2 E2 ⟨rfl, hb, hk⟩ hbt I2
    have h : ¬ (n : Int) > size - step := of_decide_eq_false hbt
    refine ex_nil (ex_ret I2 ((ev_cmp (I2.ev rfl) (ev_sub (I2.ev rfl) (I2.ev rfl)) cmp_eq).of ?_) fun _ x => x)
    congr 1
    rw [Bool.eq_iff_iff, decide_eq_true_iff, isBb_iff]
    constructor
    · intro e
      have : size - step = n := by omega
      rw [this]; exact hb
    · intro hq
      have := hk _ hq (Nat.le_refl _)
      omega
end
end Mine
end

-- part C5
section
namespace Mine
open PySem PySem.Calls PyProof.Rows

def worths (base : Int) : List Int := if base = 2 then [8, 4, 2, 1] else if base = 4 then [4, 1] else [1]
def figs (ks : List Int) (base : Int) : List Int := ks.flatMap fun k => (worths base).map fun wt => (k - 65) / wt % base
theorem worths_ok {base wt : Int} (h : wt ∈ worths base) : 0 < wt ∧ wt ≤ 8 := by
  unfold worths at h
  split at h
  · simp at h; omega
  · split at h
    · simp at h; omega
    · simp at h; omega
theorem worths_len (base : Int) : (worths base).length ≤ 4 := by
  unfold worths
  split
  · decide
  · split <;> decide
def figAt (base k : Int) : PV → PV
  | .int wt => .int ((k - 65) / wt % base)
  | _ => .none
section
variable {w : World}
set_option maxHeartbeats 4000000 in
theorem fn_figures (ks : List Int) (base : Int) (hb : 0 < base) (hl : ks.length ≤ 1000) : Fn PG w fnsP 1 7 [.bytes ks, .int base] (.list ((figs ks base).map .int)) := by
  refine fn_of (k := 0) (names := [Str.ofString "word", Str.ofString "base"]) (fun pm cd doc vs hl => ?_) (by decide) (by rfl) (fun n x hx => ?_) fun A X s s₁ f c' pm doc hA G hX I => ?_
  · match vs, hl with
    | [a, b], _ => rfl
  · simp only [List.mem_cons, List.mem_nil_iff, or_false] at hx
    rcases hx with rfl | rfl
    · exact .inl rfl
    · exact .inr ⟨rfl, rfl⟩
  have hX1 := I.xok hX
  refine ex_assign (p := .list ((worths base).map .int)) I (ev_ite (tst_cmp (I.ev rfl) (ev_int 2 _ _) cmp_eq) (fun h => ?_) fun h => ev_ite (tst_cmp (I.ev rfl) (ev_int 4 _ _) cmp_eq) (fun h' => ?_) fun h' => ?_) (.inr ⟨rfl, rfl⟩) (OwnNe.none _) fun s1 I1 => ?_
  · have h := of_decide_eq_true h
    refine (ev_list (evArgs_cons (ev_int 8 _ _) (evArgs_cons (ev_int 4 _ _) (evArgs_cons (ev_int 2 _ _) (evArgs_cons (ev_int 1 _ _) evArgs_nil)))) hX1 (by decide)).of ?_
    unfold worths; rw [if_pos h]; rfl
  · have h := of_decide_eq_false h
    have h' := of_decide_eq_true h'
    refine (ev_list (evArgs_cons (ev_int 4 _ _) (evArgs_cons (ev_int 1 _ _) evArgs_nil)) hX1 (by decide)).of ?_
    unfold worths; rw [if_neg h, if_pos h']; rfl
  · have h := of_decide_eq_false h
    have h' := of_decide_eq_false h'
    refine (ev_list (evArgs_cons (ev_int 1 _ _) evArgs_nil) hX1 (by decide)).of ?_
    unfold worths; rw [if_neg h, if_neg h']; rfl
  refine ex_ret I1 (Ev.of (EvNew.ev (CompTo.evNew (compTo_two (ks := ks) (ps := (worths base).map .int) (figAt base) [(Str.ofString "worths", .list ((worths base).map .int)), (Str.ofString "base", .int base)] hA.handled I1.know (scOk rfl) rfl (by decide) ⟨rfl, rfl, rfl, rfl, rfl, rfl, trivial⟩ (I1.xok hX) (I1.ev rfl)
    (fun X' C b' k hXX kb hX' hk K => K.ev rfl) (fun X' C b' k p hXX kb hX' hk hp K => ?_) ?_) (scOk (x := Str.ofString "octet") rfl)) (I1.xok hX)) ?_) fun _ x => x
  · obtain ⟨wt, hw, rfl⟩ := List.mem_map.mp hp
    have := worths_ok hw
    exact ev_mod (ev_div (ev_sub (K.ev rfl) (ev_int 65 _ _)) (K.ev rfl) (by omega) (by omega)) (K.ev rfl) hb
  · have := worths_len base
    rw [List.length_map]
    have h2 := Nat.mul_le_mul hl this
    omega
  · unfold figs
    congr 1
    rw [List.map_flatMap]
    congr 1
    funext k
    rw [List.map_map, List.map_map]
    rfl
end
end Mine
end

-- part Q1
section
namespace Mine

theorem lw_gen : ∀ (K n : Nat), n < 16 ^ K → ((List.range K).filter fun i => decide (16 ^ (K - 1 - i) ≤ n)).map (fun i => 65 + ((n / 16 ^ (K - 1 - i) % 16 : Nat) : Int)) = word n
  | 0, n, h => by
    have : n = 0 := by simpa using h
    subst this; rw [word_zero]; rfl
  | K + 1, n, h => by
    have ih := lw_gen K (n / 16) (by rw [Nat.pow_succ] at h; omega)
    rw [List.range_succ, List.filter_append, List.map_append]
    have e0 : ∀ i, i ∈ List.range K → K + 1 - 1 - i = (K - 1 - i) + 1 := fun i hi => by have := List.mem_range.mp hi; omega
    have e1 : ((List.range K).filter fun i => decide (16 ^ (K + 1 - 1 - i) ≤ n)) = (List.range K).filter fun i => decide (16 ^ (K - 1 - i) ≤ n / 16) := List.filter_congr fun i hi => by
      rw [e0 i hi]
      refine decide_eq_decide.mpr ?_
      rw [Nat.le_div_iff_mul_le (by decide), Nat.pow_succ]
    rw [e1]
    have e2 : ((List.range K).filter fun i => decide (16 ^ (K - 1 - i) ≤ n / 16)).map (fun i => 65 + ((n / 16 ^ (K + 1 - 1 - i) % 16 : Nat) : Int)) = ((List.range K).filter fun i => decide (16 ^ (K - 1 - i) ≤ n / 16)).map (fun i => 65 + ((n / 16 / 16 ^ (K - 1 - i) % 16 : Nat) : Int)) := List.map_congr_left fun i hi => by
      rw [e0 i (List.mem_filter.mp hi).1, Nat.div_div_eq_div_mul, Nat.pow_succ, Nat.mul_comm]
    rw [e2, ih]
    have e3 : K + 1 - 1 - K = 0 := by omega
    rcases Nat.eq_zero_or_pos n with h0 | h0
    · subst h0
      rw [word_zero]; simp
    · rw [word_pos h0]
      have e4 : decide (16 ^ (K + 1 - 1 - K) ≤ n) = true := by rw [e3]; exact decide_eq_true h0
      rw [List.filter_cons_of_pos (p := fun i => decide (16 ^ (K + 1 - 1 - i) ≤ n)) e4, List.filter_nil, List.map_cons, List.map_nil, e3, Nat.pow_zero, Nat.div_one]
theorem q_word (n : Nat) (h : n < 16 ^ 20) : lword n = word n := lw_gen 20 n h

theorem getD_left (w : List Int) (c : Int) {k : Nat} (h : k < w.length) : (w ++ [c]).getD k 0 = w.getD k 0 := by
  rw [List.getD_eq_getElem?_getD, List.getD_eq_getElem?_getD, List.getElem?_append_left h]
theorem getD_last (w : List Int) (c : Int) : (w ++ [c]).getD w.length 0 = c := by
  rw [List.getD_eq_getElem?_getD, List.getElem?_append_right (Nat.le_refl _)]; simp
theorem keptOf_app (w : List Int) (c : Int) : ∀ k, k ≤ w.length → keptOf (w ++ [c]) k = keptOf w k
  | 0, _ => rfl
  | k + 1, h => by
    unfold keptOf
    rw [getD_left w c (by omega), keptOf_app w c k (by omega)]
theorem next_carry (w : List Int) : nextW (w ++ [80]) = nextW w ++ [65] := by
  have hk : keptOf (w ++ [80]) (w ++ [80]).length = keptOf w w.length := by
    rw [List.length_append]
    show keptOf (w ++ [80]) (w.length + 1) = _
    rw [keptOf, getD_last, if_pos rfl, keptOf_app w 80 _ (Nat.le_refl _)]
  have hle := keptOf_le w w.length
  unfold nextW
  rw [hk]
  have hl : (w ++ [(80 : Int)]).length = w.length + 1 := by simp
  rw [hl]
  by_cases h0 : keptOf w w.length = 0
  · rw [if_pos h0, if_pos h0, List.replicate_succ', List.append_assoc]
  · rw [if_neg h0, if_neg h0, getD_left w 80 (by omega)]
    have e : w.length + 1 - keptOf w w.length = (w.length - keptOf w w.length) + 1 := by omega
    rw [e, List.replicate_succ', List.take_append_of_le_length (by omega)]
    simp only [List.append_assoc]
theorem next_up (w : List Int) (c : Int) (h : c ≠ 80) : nextW (w ++ [c]) = w ++ [c + 1] := by
  have hk : keptOf (w ++ [c]) (w ++ [c]).length = w.length + 1 := by
    rw [List.length_append]
    show keptOf (w ++ [c]) (w.length + 1) = _
    rw [keptOf, getD_last, if_neg h]
  unfold nextW
  rw [hk, if_neg (by omega)]
  have hl : (w ++ [c]).length = w.length + 1 := by simp
  rw [hl, Nat.add_sub_cancel, getD_last, Nat.sub_self, List.replicate_zero, List.append_nil, List.take_append_of_le_length (Nat.le_refl _), List.take_length]
theorem q_next (n : Nat) : nextW (word n) = word (n + 1) := by
  induction n using Nat.strongRecOn with
  | ind n ih =>
    rcases Nat.eq_zero_or_pos n with h0 | h0
    · subst h0
      rw [word_zero, word_pos (show 0 < 0 + 1 by decide), show (0 + 1) / 16 = 0 from rfl, word_zero]
      rfl
    · rw [word_pos h0, word_pos (show 0 < n + 1 by omega)]
      by_cases h15 : n % 16 = 15
      · have e1 : (65 + ((n % 16 : Nat) : Int)) = 80 := by omega
        have e2 : (n + 1) / 16 = n / 16 + 1 := by omega
        have e3 : (n + 1) % 16 = 0 := by omega
        rw [e1, e2, e3, next_carry, ih (n / 16) (by omega)]
        rfl
      · have e2 : (n + 1) / 16 = n / 16 := by omega
        rw [e2, next_up _ _ (by omega)]
        congr 2; omega

/-- the figures to a letter -/
def eOf (b : Nat) : Nat := if b = 2 then 4 else if b = 4 then 2 else 1
def OkB (b : Nat) : Prop := b = 2 ∨ b = 4 ∨ b = 16
theorem eOf_pow {b : Nat} (h : OkB b) : b ^ eOf b = 16 := by rcases h with rfl | rfl | rfl <;> rfl
theorem figs_app (a c : List Int) (b : Int) : figs (a ++ c) b = figs a b ++ figs c b := by
  unfold figs; rw [List.flatMap_append]
def dig (b d : Nat) : List Int := figs [65 + (d : Int)] b
theorem dig_sum {b : Nat} (h : OkB b) : ∀ d, d < 15 → (dig b (d + 1)).sum = (dig b d).sum + 1 - ((b : Int) - 1) * (noughts (dig b (d + 1)) : Nat) := by
  rcases h with rfl | rfl | rfl <;> decide +kernel
theorem dig_last {b : Nat} (h : OkB b) : (dig b 15).sum = ((b : Int) - 1) * (eOf b : Nat) := by
  rcases h with rfl | rfl | rfl <;> decide +kernel
theorem dig_zero {b : Nat} (h : OkB b) : dig b 0 = List.replicate (eOf b) 0 := by
  rcases h with rfl | rfl | rfl <;> decide +kernel
theorem dig_len {b : Nat} (h : OkB b) : ∀ d, d < 16 → (dig b d).length = eOf b := by
  rcases h with rfl | rfl | rfl <;> decide +kernel
theorem dig_nz {b : Nat} (h : OkB b) : ∀ d, d < 16 → d ≠ 0 → noughts (dig b d) < eOf b ∧ d % b ^ noughts (dig b d) = 0 ∧ d % b ^ (noughts (dig b d) + 1) ≠ 0 := by
  rcases h with rfl | rfl | rfl <;> decide +kernel

def nzq (b n : Nat) : Nat := noughts (figs (word n) b)
def sq (b n : Nat) : Int := (figs (word n) b).sum
theorem sum_app : ∀ a c : List Int, (a ++ c).sum = a.sum + c.sum
  | [], c => by simp
  | x :: a, c => by rw [List.cons_append, List.sum_cons, List.sum_cons, sum_app a c]; omega
theorem figs_step {b n : Nat} (h : 0 < n) : figs (word n) b = figs (word (n / 16)) b ++ dig b (n % 16) := by
  rw [word_pos h, figs_app]; rfl
theorem sq_zero (b : Nat) : sq b 0 = 0 := by unfold sq; rw [word_zero]; rfl
theorem sq_step {b : Nat} (hb : OkB b) (n : Nat) : sq b n = sq b (n / 16) + (dig b (n % 16)).sum := by
  rcases Nat.eq_zero_or_pos n with h0 | h0
  · subst h0
    show sq b 0 = sq b 0 + (dig b 0).sum
    rw [dig_zero hb, sq_zero]; rcases hb with rfl | rfl | rfl <;> rfl
  · unfold sq
    rw [figs_step h0, sum_app]
theorem lead_app : ∀ a c : List Int, lead (a ++ c) = if lead a = a.length then a.length + lead c else lead a
  | [], c => by simp [lead]
  | x :: a, c => by
    rw [List.cons_append]
    have ih := lead_app a c
    have u : ∀ r : List Int, lead (x :: r) = if x = 0 then lead r + 1 else 0 := fun _ => rfl
    rw [u, u]
    by_cases hx : x = 0
    · rw [if_pos hx, if_pos hx, ih]
      by_cases h2 : lead a = a.length
      · rw [if_pos h2, if_pos (by rw [h2]; rfl), List.length_cons]; omega
      · rw [if_neg h2, if_neg (by rw [List.length_cons]; omega)]
    · rw [if_neg hx, if_neg hx, if_neg (by rw [List.length_cons]; omega)]
theorem nz_app (a c : List Int) : noughts (a ++ c) = if noughts c = c.length then c.length + noughts a else noughts c := by
  unfold noughts
  rw [List.reverse_append, lead_app, List.length_reverse]
theorem nzq_zero (b : Nat) : nzq b 0 = 0 := by unfold nzq; rw [word_zero]; rfl
theorem nzq_step {b n : Nat} (hb : OkB b) (h : 0 < n) : nzq b n = if n % 16 = 0 then eOf b + nzq b (n / 16) else noughts (dig b (n % 16)) := by
  have hd := dig_len hb (n % 16) (Nat.mod_lt _ (by decide))
  unfold nzq
  rw [figs_step h, nz_app, hd]
  by_cases h0 : n % 16 = 0
  · rw [if_pos h0, if_pos]
    rw [h0, dig_zero hb]; rcases hb with rfl | rfl | rfl <;> rfl
  · rw [if_neg h0, if_neg (by have := (dig_nz hb _ (Nat.mod_lt _ (by decide)) h0).1; omega)]
/-- from a number to the next one -/
theorem sq_next {b : Nat} (hb : OkB b) (n : Nat) : sq b (n + 1) = sq b n + 1 - ((b : Int) - 1) * (nzq b (n + 1) : Nat) := by
  induction n using Nat.strongRecOn with
  | ind n ih =>
    rw [sq_step hb (n + 1), sq_step hb n, nzq_step hb (show 0 < n + 1 by omega)]
    by_cases h15 : n % 16 = 15
    · have e2 : (n + 1) / 16 = n / 16 + 1 := by omega
      have e3 : (n + 1) % 16 = 0 := by omega
      rw [e2, e3, h15, if_pos rfl, dig_last hb]
      have hz : (dig b 0).sum = 0 := by rw [dig_zero hb]; rcases hb with rfl | rfl | rfl <;> rfl
      rw [hz]
      have := ih (n / 16) (by omega)
      rw [this]
      push_cast
      rw [Int.mul_add]
      omega
    · have e2 : (n + 1) / 16 = n / 16 := by omega
      have e3 : (n + 1) % 16 = n % 16 + 1 := by omega
      rw [e2, e3, if_neg (by omega), dig_sum hb (n % 16) (by omega)]
      omega

/-- how often b goes into n -/
def IsV (b n k : Nat) : Prop := n % b ^ k = 0 ∧ n % b ^ (k + 1) ≠ 0
theorem nzq_isV {b : Nat} (hb : OkB b) (n : Nat) (h : 0 < n) : IsV b n (nzq b n) := by
  induction n using Nat.strongRecOn with
  | ind n ih =>
    have h16 := eOf_pow hb
    rw [nzq_step hb h]
    by_cases h0 : n % 16 = 0
    · rw [if_pos h0]
      have := ih (n / 16) (by omega) (by omega)
      have hn : n = 16 * (n / 16) := by omega
      unfold IsV at this ⊢
      rw [show eOf b + nzq b (n / 16) + 1 = eOf b + (nzq b (n / 16) + 1) by omega, Nat.pow_add, Nat.pow_add b (eOf b) (nzq b (n / 16) + 1), h16]
      rw [hn]
      rw [Nat.mul_mod_mul_left, Nat.mul_mod_mul_left]
      rw [← hn]
      exact ⟨by rw [this.1], fun e => this.2 (by omega)⟩
    · rw [if_neg h0]
      obtain ⟨h1, h2, h3⟩ := dig_nz hb (n % 16) (Nat.mod_lt _ (by decide)) h0
      generalize noughts (dig b (n % 16)) = z at h1 h2 h3
      have dv : ∀ k, k ≤ eOf b → n % 16 % b ^ k = n % b ^ k := fun k hk => by
        refine Nat.mod_mod_of_dvd n ⟨b ^ (eOf b - k), ?_⟩
        rw [← Nat.pow_add, show k + (eOf b - k) = eOf b by omega, h16]
      rw [dv z (by omega)] at h2
      rw [dv (z + 1) (by omega)] at h3
      exact ⟨h2, h3⟩
end Mine
end

-- part Q2
section
namespace Mine

theorem isV_iff {b n k : Nat} : IsV b n k ↔ b ^ k ∣ n ∧ ¬ b ^ (k + 1) ∣ n := by
  unfold IsV
  rw [Nat.dvd_iff_mod_eq_zero, Nat.dvd_iff_mod_eq_zero]
theorem IsV.le {b n k j : Nat} (h : IsV b n k) : b ^ j ∣ n ↔ j ≤ k := by
  rw [isV_iff] at h
  constructor
  · intro hj
    rcases Nat.lt_or_ge k j with hlt | hge
    · exact absurd (Nat.dvd_trans (Nat.pow_dvd_pow b (show k + 1 ≤ j from hlt)) hj) h.2
    · exact hge
  · intro hj
    exact Nat.dvd_trans (Nat.pow_dvd_pow b hj) h.1
theorem min_same {b x s k l o : Nat} (hx : IsV b x k) (hy : IsV b (x + s) l) (hs : b ^ o ∣ s) : min k o = min l o := by
  have key : ∀ j, j ≤ o → (j ≤ k ↔ j ≤ l) := fun j hj => by
    rw [← hx.le, ← hy.le]
    have hjs : b ^ j ∣ s := Nat.dvd_trans (Nat.pow_dvd_pow b hj) hs
    exact ⟨fun h => Nat.dvd_add h hjs, fun h => (Nat.dvd_add_left hjs).mp h⟩
  have h1 := key (min k o) (Nat.min_le_right ..)
  have h2 := key (min l o) (Nat.min_le_right ..)
  omega
theorem not_both {b x s k l o : Nat} (hx : IsV b x k) (hy : IsV b (x + s) l) (hs : IsV b s o) : ¬ (o < k ∧ o < l) := fun ⟨h1, h2⟩ => by
  have a1 : b ^ (o + 1) ∣ x := hx.le.mpr h1
  have a2 : b ^ (o + 1) ∣ x + s := hy.le.mpr h2
  have := hs.le.mp ((Nat.dvd_add_right a1).mp a2)
  omega

/-- multiples of b, b², .., b^o up to x -/
def FF (b : Nat) : Nat → Nat → Nat
  | 0, _ => 0
  | o + 1, x => FF b o x + x / b ^ (o + 1)
theorem FF_succ {b x k : Nat} (h : IsV b (x + 1) k) : ∀ o, FF b o (x + 1) = FF b o x + min k o
  | 0 => by simp [FF]
  | o + 1 => by
    unfold FF
    rw [FF_succ h o, Nat.succ_div]
    have := h.le (j := o + 1)
    by_cases hd : b ^ (o + 1) ∣ x + 1
    · rw [if_pos hd]; have := this.mp hd; omega
    · rw [if_neg hd]
      have : ¬ o + 1 ≤ k := fun q => hd (this.mpr q)
      omega
theorem FF_add {b s : Nat} (hb : 0 < b) (x : Nat) : ∀ o, b ^ o ∣ s → FF b o (x + s) = FF b o x + FF b o s
  | 0, _ => rfl
  | o + 1, h => by
    unfold FF
    have hp : 0 < b ^ (o + 1) := Nat.pow_pos hb
    have e : (x + s) / b ^ (o + 1) = x / b ^ (o + 1) + s / b ^ (o + 1) := by
      obtain ⟨u, hu⟩ := h
      rw [hu, Nat.add_mul_div_left _ _ hp, Nat.mul_div_cancel_left _ hp]
    rw [FF_add hb x o (Nat.dvd_trans (Nat.pow_dvd_pow b (Nat.le_succ o)) h), e]
    generalize x / b ^ (o + 1) = u
    generalize s / b ^ (o + 1) = v
    omega
theorem FF_full {b s : Nat} (hb : 0 < b) : ∀ o, b ^ o ∣ s → ((b : Int) - 1) * (FF b o s : Nat) = (s : Int) - (s / b ^ o : Nat)
  | 0, _ => by simp [FF]
  | o + 1, h => by
    have ih := FF_full (s := s) hb o (Nat.dvd_trans (Nat.pow_dvd_pow b (Nat.le_succ o)) h)
    unfold FF
    obtain ⟨t, rfl⟩ := h
    have hp : 0 < b ^ (o + 1) := Nat.pow_pos hb
    have e1 : b ^ (o + 1) * t / b ^ (o + 1) = t := Nat.mul_div_cancel_left t hp
    have e2 : b ^ (o + 1) * t / b ^ o = b * t := by
      rw [Nat.pow_succ, Nat.mul_assoc, Nat.mul_div_cancel_left _ (Nat.pow_pos hb)]
    rw [e2] at ih
    rw [e1]
    push_cast at ih ⊢
    rw [Int.mul_add, ih]
    have : ((b : Int) - 1) * (t : Int) = (b : Int) * t - t := by rw [Int.sub_mul, Int.one_mul]
    rw [this]
    omega

section
variable (b N : Nat)
def zq (i : Nat) : Nat := nzq b (N + i)
/-- the height, before the divisor is asked -/
def Dq : Nat → Int
  | 0 => 0
  | i + 1 => Dq i + 1 - ((b : Int) - 1) * (zq b N (i + 1) : Nat)
/-- what a number ends with beyond o -/
def kq (o p : Nat) : Int := ((b : Int) - 1) * ((zq b N p : Int) - (min (zq b N p) o : Nat))
def Ks (o : Nat) : Nat → Int
  | 0 => 0
  | i + 1 => Ks o i + kq b N o (i + 1)
end
section
variable {b N : Nat} (hb : OkB b)
theorem sq_D (hb : OkB b) (i : Nat) : sq b (N + i) = sq b N + Dq b N i := by
  induction i with
  | zero => simp [Dq]
  | succ i ih =>
    have := sq_next hb (N + i)
    have e : Dq b N (i + 1) = Dq b N i + 1 - ((b : Int) - 1) * (nzq b (N + i + 1) : Nat) := rfl
    rw [show N + (i + 1) = N + i + 1 by omega, this, ih, e]
    generalize ((b : Int) - 1) * (nzq b (N + i + 1) : Nat) = q
    omega
theorem zq_isV (hb : OkB b) {p : Nat} (hp : 1 ≤ p) : IsV b (N + p) (zq b N p) := nzq_isV hb _ (by omega)
/-- the whole height is the rest, less what is beyond -/
theorem D_FF (hb : OkB b) (o : Nat) (i : Nat) : Dq b N i = (i : Int) - ((b : Int) - 1) * ((FF b o (N + i) : Int) - (FF b o N : Int)) - Ks b N o i := by
  induction i with
  | zero => simp [Dq, Ks]
  | succ i ih =>
    have hv : IsV b (N + i + 1) (zq b N (i + 1)) := zq_isV (N := N) hb (show 1 ≤ i + 1 by omega)
    have h1 := FF_succ hv o
    have e1 : Dq b N (i + 1) = Dq b N i + 1 - ((b : Int) - 1) * (zq b N (i + 1) : Nat) := rfl
    have e2 : Ks b N o (i + 1) = Ks b N o i + kq b N o (i + 1) := rfl
    rw [show N + (i + 1) = N + i + 1 by omega, e1, e2, ih, h1]
    unfold kq
    push_cast
    generalize ((b : Int) - 1) = c
    generalize (FF b o (N + i) : Int) = u
    generalize (FF b o N : Int) = v
    generalize (zq b N (i + 1) : Int) = z
    generalize (min z (o : Int)) = q
    rw [Int.mul_sub, Int.mul_sub, Int.mul_sub, Int.mul_add]
    omega
theorem D_step (hb : OkB b) {s o : Nat} (hs : IsV b s o) : Dq b N s = ((s / b ^ o : Nat) : Int) - Ks b N o s := by
  have hd : b ^ o ∣ s := hs.le.mpr (Nat.le_refl _)
  have hb0 : 0 < b := by rcases hb with rfl | rfl | rfl <;> decide
  have h2 := FF_full hb0 o hd
  rw [D_FF hb o, FF_add hb0 N o hd]
  push_cast at h2 ⊢
  have e : (FF b o N : Int) + (FF b o s : Int) - (FF b o N : Int) = (FF b o s : Int) := by omega
  rw [e, h2]
  omega
theorem k_zero {o p : Nat} (h : zq b N p ≤ o) : kq b N o p = 0 := by
  unfold kq
  rw [Nat.min_eq_left h]; simp
theorem D_shift (hb : OkB b) {s o : Nat} (hs : IsV b s o) (j : Nat) : Dq b N (j + 1 + s) - Dq b N (j + 1) = Dq b N (j + s) - Dq b N j + kq b N o (j + 1) - kq b N o (j + 1 + s) := by
  have hd : b ^ o ∣ s := hs.le.mpr (Nat.le_refl _)
  have h1 := zq_isV (N := N) hb (show 1 ≤ j + 1 by omega)
  have h2 := zq_isV (N := N) hb (show 1 ≤ j + 1 + s by omega)
  rw [← Nat.add_assoc N (j + 1) s] at h2
  have hm := min_same h1 h2 hd
  rw [show j + 1 + s = (j + s) + 1 by omega]
  unfold kq
  rw [show j + s + 1 = j + 1 + s by omega, ← hm]
  rw [show j + 1 + s = (j + s) + 1 by omega]
  show Dq b N (j + s) + 1 - ((b : Int) - 1) * (zq b N (j + s + 1) : Nat) - (Dq b N j + 1 - ((b : Int) - 1) * (zq b N (j + 1) : Nat)) = _
  generalize ((b : Int) - 1) = c
  generalize (zq b N (j + s + 1) : Int) = u
  generalize (zq b N (j + 1) : Int) = v
  generalize ((min (zq b N (j + 1)) o : Nat) : Int) = q
  rw [Int.mul_sub, Int.mul_sub]
  omega
theorem k_one (hb : OkB b) {s o : Nat} (hs : IsV b s o) {p : Nat} (hp : 1 ≤ p) : kq b N o p = 0 ∨ kq b N o (p + s) = 0 := by
  have h1 := zq_isV (N := N) hb hp
  have h2 := zq_isV (N := N) hb (show 1 ≤ p + s by omega)
  rw [← Nat.add_assoc N p s] at h2
  have := not_both h1 h2 hs
  by_cases h : zq b N p ≤ o
  · exact .inl (k_zero h)
  · exact .inr (k_zero (by omega))
theorem Ks_dvd {m : Int} {o : Nat} : ∀ i, (∀ p, 1 ≤ p → p ≤ i → m ∣ kq b N o p) → m ∣ Ks b N o i
  | 0, _ => ⟨0, by simp [Ks]⟩
  | i + 1, h => by
    unfold Ks
    exact Int.dvd_add (Ks_dvd i fun p h1 h2 => h p h1 (by omega)) (h (i + 1) (by omega) (Nat.le_refl _))
/-- it comes again as long as all keep step -/
theorem D_comes (hb : OkB b) {m : Int} {s o F : Nat} (hs : IsV b s o) (ht : m ∣ ((s / b ^ o : Nat) : Int)) (hF : s < F) (hk : ∀ p, 1 ≤ p → p < F → m ∣ kq b N o p) : ∀ j, j + s < F → m ∣ Dq b N (j + s) - Dq b N j
  | 0, _ => by
    rw [Nat.zero_add, D_step hb hs]
    show m ∣ _ - 0
    rw [Int.sub_zero]
    exact Int.dvd_sub ht (Ks_dvd s fun p h1 h2 => hk p h1 (by omega))
  | j + 1, h => by
    rw [D_shift hb hs]
    exact Int.dvd_sub (Int.dvd_add (D_comes hb hs ht hF hk j (by omega)) (hk (j + 1) (by omega) (by omega))) (hk (j + 1 + s) (by omega) h)
theorem D_keeps (hb : OkB b) {m : Int} {s o : Nat} (hs : IsV b s o) (h : ∀ j, j ≤ s → m ∣ Dq b N (j + s) - Dq b N j) : (∀ p, 1 ≤ p → p ≤ 2 * s → m ∣ kq b N o p) ∧ m ∣ ((s / b ^ o : Nat) : Int) := by
  have hk : ∀ j, j < s → m ∣ kq b N o (j + 1) ∧ m ∣ kq b N o (j + 1 + s) := fun j hj => by
    have h1 := h (j + 1) hj
    have h0 := h j (by omega)
    rw [D_shift hb hs] at h1
    have h2 : m ∣ kq b N o (j + 1) - kq b N o (j + 1 + s) := by
      have := Int.dvd_sub h1 h0
      have e : Dq b N (j + s) - Dq b N j + kq b N o (j + 1) - kq b N o (j + 1 + s) - (Dq b N (j + s) - Dq b N j) = kq b N o (j + 1) - kq b N o (j + 1 + s) := by omega
      rwa [e] at this
    rcases k_one (N := N) hb hs (show 1 ≤ j + 1 by omega) with e | e
    · rw [e] at h2 ⊢
      refine ⟨Int.dvd_zero m, ?_⟩
      have := Int.dvd_neg.mpr h2
      rwa [Int.zero_sub, Int.neg_neg] at this
    · rw [e] at h2 ⊢
      rw [Int.sub_zero] at h2
      exact ⟨h2, Int.dvd_zero m⟩
  have all : ∀ p, 1 ≤ p → p ≤ 2 * s → m ∣ kq b N o p := fun p h1 h2 => by
    rcases Nat.lt_or_ge s p with hp | hp
    · have := (hk (p - s - 1) (by omega)).2
      rwa [show p - s - 1 + 1 + s = p by omega] at this
    · have := (hk (p - 1) (by omega)).1
      rwa [show p - 1 + 1 = p by omega] at this
  refine ⟨all, ?_⟩
  have h0 := h 0 (Nat.zero_le _)
  rw [Nat.zero_add, D_step hb hs] at h0
  have h0 : m ∣ ((s / b ^ o : Nat) : Int) - Ks b N o s - 0 := h0
  rw [Int.sub_zero] at h0
  have := Int.dvd_add h0 (Ks_dvd (m := m) (b := b) (N := N) (o := o) s fun p h1 h2 => all p h1 (by omega))
  rwa [Int.sub_add_cancel] at this
theorem D_ends (hb : OkB b) {m : Int} {s o F : Nat} (hs : IsV b s o) (hF : s < F) (hz : o < zq b N F) (hbad : ¬ m ∣ kq b N o F) (h0 : m ∣ Dq b N (F - 1) - Dq b N (F - 1 - s)) : ¬ m ∣ Dq b N F - Dq b N (F - s) := fun h => by
  have e := D_shift (N := N) hb hs (F - 1 - s)
  rw [show F - 1 - s + 1 + s = F by omega, show F - 1 - s + 1 = F - s by omega, show F - 1 - s + s = F - 1 by omega] at e
  rw [e] at h
  have hk : kq b N o (F - s) = 0 := by
    rcases k_one (N := N) hb hs (show 1 ≤ F - s by omega) with q | q
    · exact q
    · rw [show F - s + s = F by omega] at q
      exact absurd (q ▸ Int.dvd_zero m) hbad
  rw [hk, Int.add_zero] at h
  have := Int.dvd_sub h0 h
  rw [show Dq b N (F - 1) - Dq b N (F - 1 - s) - (Dq b N (F - 1) - Dq b N (F - 1 - s) - kq b N o F) = kq b N o F by omega] at this
  exact hbad this
theorem two_multiples {b B N : Nat} (hb : 2 ≤ b) (hB : 0 < B) : ∃ q, ¬ b ∣ q ∧ N < B * q ∧ B * q ≤ N + 2 * B := by
  have h1 := Nat.div_add_mod N B
  have h2 := Nat.mod_lt N hB
  by_cases hq : b ∣ N / B + 1
  · refine ⟨N / B + 2, fun hq2 => ?_, ?_, ?_⟩
    · have := (Nat.dvd_add_right hq).mp (show b ∣ N / B + 1 + 1 from hq2)
      have := Nat.le_of_dvd (by decide) this
      omega
    · rw [Nat.mul_add]; omega
    · rw [Nat.mul_add]; omega
  · refine ⟨N / B + 1, hq, ?_, ?_⟩
    · rw [Nat.mul_add]; omega
    · rw [Nat.mul_add]; omega
/-- the divisor is less than the base -/
theorem D_div (hb : OkB b) {m s o : Nat} (hs0 : 0 < s) (hs : IsV b s o) (hm : m ≤ b + 1) (ht : (m : Int) ∣ ((s / b ^ o : Nat) : Int)) (hk : ∀ p, 1 ≤ p → p ≤ 2 * s → (m : Int) ∣ kq b N o p) : m < b := by
  have hb0 : 2 ≤ b := by rcases hb with rfl | rfl | rfl <;> decide
  have hd : b ^ o ∣ s := hs.le.mpr (Nat.le_refl _)
  have hbo : 0 < b ^ o := Nat.pow_pos (by omega)
  obtain ⟨t, rfl⟩ := hd
  rw [Nat.mul_div_cancel_left _ hbo] at ht
  have ht' : m ∣ t := Int.ofNat_dvd.mp ht
  have ht0 : 0 < t := Nat.pos_of_mul_pos_left hs0 |> fun _ => by
    rcases Nat.eq_zero_or_pos t with h | h
    · subst h; simp at hs0
    · exact h
  rcases Nat.lt_or_ge m b with h | h
  · exact h
  · exfalso
    rcases Nat.lt_or_ge b m with hgt | hle
    · -- the divisor is the base and one
      have hmb : m = b + 1 := by omega
      subst hmb
      have htb : b + 1 ≤ t := Nat.le_of_dvd ht0 ht'
      have hB : b ^ (o + 1) = b ^ o * b := Nat.pow_succ ..
      have hB0 : 0 < b ^ (o + 1) := Nat.pow_pos (by omega)
      have h2s : 2 * b ^ (o + 1) ≤ 2 * (b ^ o * t) := Nat.mul_le_mul_left 2 (by rw [hB]; exact Nat.mul_le_mul_left _ (by omega))
      obtain ⟨q, hq, hlo, hhi⟩ := two_multiples (N := N) hb0 hB0
      have hp1 : 1 ≤ b ^ (o + 1) * q - N := by omega
      have hp2 : b ^ (o + 1) * q - N ≤ 2 * (b ^ o * t) := by omega
      have hv := zq_isV (N := N) hb hp1
      rw [show N + (b ^ (o + 1) * q - N) = b ^ (o + 1) * q by omega] at hv
      have hz1 : o + 1 ≤ zq b N (b ^ (o + 1) * q - N) := hv.le.mp ⟨q, rfl⟩
      have hz2 : ¬ o + 1 + 1 ≤ zq b N (b ^ (o + 1) * q - N) := fun h => by
        have := hv.le.mpr h
        rw [Nat.pow_succ] at this
        exact hq (Nat.dvd_of_mul_dvd_mul_left hB0 this)
      have hk' := hk _ hp1 hp2
      unfold kq at hk'
      have hz : zq b N (b ^ (o + 1) * q - N) = o + 1 := by omega
      rw [hz, Nat.min_eq_right (Nat.le_succ o)] at hk'
      have e : ((b : Int) - 1) * (((o + 1 : Nat) : Int) - (o : Int)) = ((b - 1 : Nat) : Int) := by
        rw [show ((o + 1 : Nat) : Int) - (o : Int) = 1 by omega]; omega
      rw [e] at hk'
      have := Nat.le_of_dvd (by omega) (Int.ofNat_dvd.mp hk')
      omega
    · have hmb : m = b := by omega
      subst hmb
      obtain ⟨u, rfl⟩ := ht'
      refine (isV_iff.mp hs).2 ⟨u, ?_⟩
      rw [Nat.pow_succ, Nat.mul_assoc]
end
end Mine
end

-- part P4
section
namespace Mine
/-- the bases, the divisors, the numbers asked -/
structure Ok1 (b m N : Nat) : Prop where
  hb : b = 2 ∨ b = 4 ∨ b = 16
  hm1 : 2 ≤ m
  hm2 : m ≤ b + 1
  hN : N < 16 ^ 19
def nz (b n : Nat) : Nat := noughts (figs (word n) b)
def zsOf (b N : Nat) : List Int := (List.range 33).map fun i => ((nz b (N + i) : Nat) : Int)
def rowOf (b m N : Nat) : List Int := (List.range 33).map fun i => (figs (word (N + i)) b).sum % (m : Int)
def htsOf (b m N : Nat) : List Int := (List.range 33).map fun (i : Nat) => ((i : Int) - ((b : Int) - 1) * (((zsOf b N).drop 1).take i).sum) % (m : Int)
def farN (b m N own : Nat) : Nat := farOf (zsOf b N) (own : Int) (b : Int) (m : Int)
def ovl (b m N s : Nat) : Bool := decide ((s : Int) / (b : Int) ^ nz b s % (m : Int) = 0) && decide ((farN b m N (nz b s) : Int) > 2 * (s : Int))
theorem m_word (n : Nat) (h : n < 16 ^ 20) : lword n = word n := q_word n h
theorem m_next (n : Nat) : nextW (word n) = word (n + 1) := q_next n
section
variable {b m N : Nat}
theorem row_at {i : Nat} (hb : OkB b) (hi : i < 33) : at0 (rowOf b m N) i = (sq b N + Dq b N i) % (m : Int) := by
  unfold at0 rowOf
  rw [List.getD_eq_getElem?_getD, List.getElem?_map, List.getElem?_range hi]
  show sq b (N + i) % (m : Int) = _
  rw [sq_D hb]
theorem zs_get {i : Nat} (hi : i < 33) : (zsOf b N)[i]? = some ((zq b N i : Nat) : Int) := by
  unfold zsOf
  rw [List.getElem?_map, List.getElem?_range hi]; rfl
theorem zs_getD {i : Nat} (hi : i < 33) : (zsOf b N).getD i 0 = (zq b N i : Nat) := by
  rw [List.getD_eq_getElem?_getD, zs_get hi]; rfl
theorem D_sum : ∀ i, i < 33 → Dq b N i = (i : Int) - ((b : Int) - 1) * (((zsOf b N).drop 1).take i).sum
  | 0, _ => by simp [Dq]
  | i + 1, h => by
    have ih := D_sum i (by omega)
    have e1 : Dq b N (i + 1) = Dq b N i + 1 - ((b : Int) - 1) * (zq b N (i + 1) : Nat) := rfl
    have hg : ((zsOf b N).drop 1)[i]? = some ((zq b N (i + 1) : Nat) : Int) := by
      rw [List.getElem?_drop, Nat.add_comm 1 i, zs_get h]
    rw [e1, ih, List.take_add_one, hg, sum_app]
    have e2 : (some ((zq b N (i + 1) : Nat) : Int)).toList.sum = (zq b N (i + 1) : Nat) := by simp
    rw [e2, Int.mul_add]
    push_cast
    omega
theorem hts_at {i : Nat} (hi : i < 33) : at0 (htsOf b m N) i = Dq b N i % (m : Int) := by
  unfold at0 htsOf
  rw [List.getD_eq_getElem?_getD, List.getElem?_map, List.getElem?_range hi, D_sum i hi]; rfl
theorem emod_dvd {x y m : Int} : x % m = y % m ↔ m ∣ y - x := by
  constructor
  · intro h
    exact Int.dvd_of_emod_eq_zero (Int.emod_eq_emod_iff_emod_sub_eq_zero.mp h.symm)
  · intro h
    exact (Int.emod_eq_emod_iff_emod_sub_eq_zero.mpr (Int.emod_eq_zero_of_dvd h)).symm
theorem row_eq {i j : Nat} (hb : OkB b) (hi : i < 33) (hj : j < 33) : at0 (rowOf b m N) i = at0 (rowOf b m N) j ↔ (m : Int) ∣ Dq b N j - Dq b N i := by
  rw [row_at hb hi, row_at hb hj, emod_dvd, show sq b N + Dq b N j - (sq b N + Dq b N i) = Dq b N j - Dq b N i by omega]
theorem topOf_congr {p q : Nat → Bool} : ∀ n, (∀ k, k ≤ n → p k = q k) → topOf p n = topOf q n
  | 0, _ => rfl
  | n + 1, h => by
    unfold topOf
    rw [h (n + 1) (Nat.le_refl _), topOf_congr n fun k hk => h k (by omega)]
theorem bord_congr {f g : Nat → Int} {n : Nat} (h : ∀ i j, i < n → j < n → (f i = f j ↔ g i = g j)) : bord f n = bord g n := by
  unfold bord
  refine topOf_congr _ fun k hk => ?_
  rcases Nat.eq_zero_or_pos n with h0 | h0
  · subst h0
    have : k = 0 := by omega
    subst this; rfl
  · rw [Bool.eq_iff_iff, isBb_iff, isBb_iff]
    unfold isB
    constructor
    · rintro ⟨h1, h2⟩
      exact ⟨h1, fun j hj => (h _ _ (by omega) (by omega)).mp (h2 j hj)⟩
    · rintro ⟨h1, h2⟩
      exact ⟨h1, fun j hj => (h _ _ (by omega) (by omega)).mpr (h2 j hj)⟩
theorem m_table (h : Ok1 b m N) : tab (rowOf b m N) = tab (htsOf b m N) := by
  unfold tab
  have e1 : (rowOf b m N).length = 33 := by simp [rowOf]
  have e2 : (htsOf b m N).length = 33 := by simp [htsOf]
  rw [e1, e2]
  refine List.map_congr_left fun j hj => ?_
  have hj := List.mem_range.mp hj
  congr 1
  refine bord_congr fun x y hx hy => ?_
  rw [row_eq h.hb (by omega) (by omega), hts_at (by omega), hts_at (by omega), emod_dvd]
theorem isV_small {n k c : Nat} (hb : OkB b) (h0 : 0 < n) (hn : n < 2 ^ c) (h : IsV b n k) : k < c := by
  have h1 := Nat.le_of_dvd h0 (h.le.mpr (Nat.le_refl k))
  have h2 : 2 ^ k ≤ b ^ k := Nat.pow_le_pow_left (by rcases hb with rfl | rfl | rfl <;> decide) k
  rcases Nat.lt_or_ge k c with hlt | hge
  · exact hlt
  · have := Nat.pow_le_pow_right (show 0 < 2 by decide) hge
    omega
theorem m_own (h : Ok1 b m N) {s : Nat} (h1 : 1 ≤ s) (h2 : s ≤ 16) : nz b s < 5 := isV_small h.hb (n := s) (by omega) (by omega) (nzq_isV h.hb s (by omega))
theorem m_nz (h : Ok1 b m N) {i : Nat} (hi : i < 33) : nz b (N + i) < 1000 := by
  have hN := h.hN
  rcases Nat.eq_zero_or_pos (N + i) with h0 | h0
  · have : nz b (N + i) = 0 := by rw [h0]; exact nzq_zero b
    omega
  · have := isV_small (c := 80) h.hb h0 (by omega) (nzq_isV h.hb _ h0)
    have e : nz b (N + i) = nzq b (N + i) := rfl
    omega
theorem farFrom_spec (zs : List Int) (own base divisor : Int) : ∀ (k p : Nat), p ≤ farFrom zs own base divisor p k ∧ farFrom zs own base divisor p k ≤ p + k ∧ (∀ q, p ≤ q → q < farFrom zs own base divisor p k → farBad zs own base divisor q = false) ∧ (farFrom zs own base divisor p k < p + k → farBad zs own base divisor (farFrom zs own base divisor p k) = true)
  | 0, p => ⟨Nat.le_refl _, Nat.le_refl _, fun q h1 h2 => by unfold farFrom at h2; omega, fun h => by unfold farFrom at h; omega⟩
  | k + 1, p => by
    unfold farFrom
    by_cases hb : farBad zs own base divisor p = true
    · rw [if_pos hb]
      exact ⟨Nat.le_refl _, by omega, fun q h1 h2 => by omega, fun _ => hb⟩
    · rw [if_neg hb]
      obtain ⟨h1, h2, h3, h4⟩ := farFrom_spec zs own base divisor k (p + 1)
      refine ⟨by omega, by omega, fun q hq1 hq2 => ?_, fun h => h4 (by omega)⟩
      rcases Nat.lt_or_ge p q with hlt | hge
      · exact h3 q hlt hq2
      · have : q = p := by omega
        subst this
        simpa using hb
theorem bad_iff {o p : Nat} (hp : p < 33) : farBad (zsOf b N) (o : Int) (b : Int) (m : Int) p = true ↔ o < zq b N p ∧ ¬ (m : Int) ∣ kq b N o p := by
  unfold farBad
  rw [zs_getD hp, Bool.and_eq_true, decide_eq_true_iff, decide_eq_true_iff]
  constructor
  · rintro ⟨h1, h2⟩
    have h1 : o < zq b N p := by omega
    refine ⟨h1, fun hd => h2 ?_⟩
    unfold kq at hd
    rw [Nat.min_eq_right (Nat.le_of_lt h1)] at hd
    exact Int.emod_eq_zero_of_dvd hd
  · rintro ⟨h1, h2⟩
    refine ⟨by omega, fun hd => h2 ?_⟩
    unfold kq
    rw [Nat.min_eq_right (Nat.le_of_lt h1)]
    exact Int.dvd_of_emod_eq_zero hd
theorem keep_iff {o p : Nat} (hp : p < 33) : farBad (zsOf b N) (o : Int) (b : Int) (m : Int) p = false ↔ (m : Int) ∣ kq b N o p := by
  rw [← Bool.not_eq_true, bad_iff hp]
  constructor
  · intro h
    by_cases h1 : o < zq b N p
    · exact Decidable.not_not.mp fun q => h ⟨h1, q⟩
    · rw [k_zero (by omega)]; exact Int.dvd_zero _
  · rintro h ⟨_, q⟩
    exact q h
theorem far_spec (own : Nat) : 1 ≤ farN b m N own ∧ farN b m N own ≤ 33 ∧ (∀ p, 1 ≤ p → p < farN b m N own → (m : Int) ∣ kq b N own p) ∧ (farN b m N own < 33 → own < zq b N (farN b m N own) ∧ ¬ (m : Int) ∣ kq b N own (farN b m N own)) := by
  have hl : (zsOf b N).length = 33 := by simp [zsOf]
  obtain ⟨h1, h2, h3, h4⟩ := farFrom_spec (zsOf b N) (own : Int) (b : Int) (m : Int) ((zsOf b N).length - 1) 1
  have e : farN b m N own = farFrom (zsOf b N) (own : Int) (b : Int) (m : Int) 1 ((zsOf b N).length - 1) := rfl
  rw [← e] at h1 h2 h3 h4
  rw [hl] at h2 h4
  refine ⟨h1, h2, fun p hp1 hp2 => (keep_iff (by omega)).mp (h3 p hp1 hp2), fun h => ?_⟩
  exact (bad_iff h).mp (h4 (by omega))
theorem m_far (h : Ok1 b m N) (own : Nat) : 1 ≤ farN b m N own ∧ farN b m N own ≤ 33 := ⟨(far_spec own).1, (far_spec own).2.1⟩
theorem ovl_iff {s : Nat} : ovl b m N s = true ↔ (m : Int) ∣ ((s / b ^ nz b s : Nat) : Int) ∧ 2 * s < farN b m N (nz b s) := by
  unfold ovl
  rw [Bool.and_eq_true, decide_eq_true_iff, decide_eq_true_iff]
  have e : (s : Int) / (b : Int) ^ nz b s = ((s / b ^ nz b s : Nat) : Int) := by push_cast; rfl
  rw [e]
  constructor
  · rintro ⟨h1, h2⟩
    exact ⟨Int.dvd_of_emod_eq_zero h1, by omega⟩
  · rintro ⟨h1, h2⟩
    exact ⟨Int.emod_eq_zero_of_dvd h1, by omega⟩
theorem m_again (h : Ok1 b m N) {s : Nat} (h1 : 1 ≤ s) (h2 : s ≤ 16) : isBb (at0 (rowOf b m N)) (2 * s + 1) (2 * s + 1 - s) = ovl b m N s := by
  have hs := nzq_isV h.hb s (by omega)
  obtain ⟨f1, f2, f3, f4⟩ := far_spec (b := b) (m := m) (N := N) (nz b s)
  rw [Bool.eq_iff_iff, isBb_iff, ovl_iff]
  have eo : nz b s = nzq b s := rfl
  constructor
  · rintro ⟨_, hj⟩
    obtain ⟨k1, k2⟩ := D_keeps (m := (m : Int)) (N := N) h.hb hs fun j hjs => by
      have := hj j (by omega)
      rw [show 2 * s + 1 - (2 * s + 1 - s) + j = j + s by omega] at this
      exact (row_eq h.hb (by omega) (by omega)).mp this
    refine ⟨k2, ?_⟩
    rcases Nat.lt_or_ge (2 * s) (farN b m N (nz b s)) with hlt | hge
    · exact hlt
    · exact absurd (k1 _ f1 hge) (f4 (by omega)).2
  · rintro ⟨k1, k2⟩
    refine ⟨by omega, fun j hj => ?_⟩
    rw [show 2 * s + 1 - (2 * s + 1 - s) + j = j + s by omega]
    exact (row_eq h.hb (by omega) (by omega)).mpr (D_comes h.hb hs k1 (F := farN b m N (nz b s)) (by omega) f3 j (by omega))
theorem m_div (h : Ok1 b m N) {s : Nat} (h1 : 1 ≤ s) (h2 : s ≤ 16) (ho : ovl b m N s = true) : m < b := by
  obtain ⟨k1, k2⟩ := ovl_iff.mp ho
  obtain ⟨f1, f2, f3, f4⟩ := far_spec (b := b) (m := m) (N := N) (nz b s)
  exact D_div (N := N) h.hb (by omega) (nzq_isV h.hb s (by omega)) h.hm2 k1 fun p hp1 hp2 => f3 p hp1 (by omega)
theorem m_comes (h : Ok1 b m N) {s : Nat} (h1 : 1 ≤ s) (h2 : s ≤ 16) (ho : ovl b m N s = true) : isBb (at0 (rowOf b m N)) (farN b m N (nz b s)) (farN b m N (nz b s) - s) = true := by
  obtain ⟨k1, k2⟩ := ovl_iff.mp ho
  obtain ⟨f1, f2, f3, f4⟩ := far_spec (b := b) (m := m) (N := N) (nz b s)
  refine isBb_iff.mpr ⟨by omega, fun j hj => ?_⟩
  rw [show farN b m N (nz b s) - (farN b m N (nz b s) - s) + j = j + s by omega]
  exact (row_eq h.hb (by omega) (by omega)).mpr (D_comes h.hb (nzq_isV h.hb s (by omega)) k1 (F := farN b m N (nz b s)) (by omega) f3 j (by omega))
theorem m_ends (h : Ok1 b m N) {s : Nat} (h1 : 1 ≤ s) (h2 : s ≤ 16) (ho : ovl b m N s = true) (hf : farN b m N (nz b s) < 33) : isBb (at0 (rowOf b m N)) (farN b m N (nz b s) + 1) (farN b m N (nz b s) + 1 - s) = false := by
  obtain ⟨k1, k2⟩ := ovl_iff.mp ho
  obtain ⟨f1, f2, f3, f4⟩ := far_spec (b := b) (m := m) (N := N) (nz b s)
  obtain ⟨g1, g2⟩ := f4 hf
  generalize farN b m N (nz b s) = F at *
  rw [← Bool.not_eq_true, isBb_iff]
  rintro ⟨_, hj⟩
  have h3 := hj (F - s) (by omega)
  rw [show F + 1 - (F + 1 - s) + (F - s) = F by omega] at h3
  have hs := nzq_isV h.hb s (by omega)
  have h4 := D_comes h.hb hs k1 (F := F) (N := N) (by omega) f3 (F - 1 - s) (by omega)
  rw [show F - 1 - s + s = F - 1 by omega] at h4
  exact D_ends h.hb hs (by omega) g1 g2 h4 ((row_eq h.hb (by omega) (by omega)).mp h3)
end
end Mine
end

-- part C6
section
namespace Mine
open PySem PySem.Calls PyProof.Rows

abbrev envL (pm : Value) (c' : Addr) (doc : Value) (s : Shared) (f : Addr) : Env := callEnvC (docDef (fnName PG 12) (fnParams PG 12) (fnBody PG 12) (fnScope PG 12) pm (.ref c') doc) s.heap.objs.size f

def wordPV (N : Nat) (i : Nat) : PV := .bytes (word (N + i))
def figPV (b N : Nat) (i : Nat) : PV := .list ((figs (word (N + i)) b).map .int)
theorem list_item {α : Type} (g : Nat → α) (f : α → PV) {n i : Nat} (h : i < n) : ((List.range n).map fun j => f (g j))[i]? = some (f (g i)) := by
  rw [List.getElem?_map, List.getElem?_range h]; rfl
theorem zs_map (b N : Nat) : ((List.range 33).map fun i => PV.int ((nz b (N + i) : Nat) : Int)) = (zsOf b N).map PV.int := by
  unfold zsOf; rw [List.map_map]; rfl
theorem words_tail (N : Nat) : pick ((List.range 33).map (wordPV N)) (some 1) none none = (List.range 32).map (wordPV (N + 1)) := by
  have e := pick_from ((List.range 33).map (wordPV N)) 1
  rw [show ((1 : Nat) : Int) = 1 from rfl] at e
  rw [e]
  refine List.ext_getElem? fun i => ?_
  rw [List.getElem?_drop, List.getElem?_map, List.getElem?_map]
  by_cases h : i < 32
  · rw [List.getElem?_range (by omega), List.getElem?_range h]
    show some (wordPV N (1 + i)) = some (wordPV (N + 1) i)
    unfold wordPV
    congr 3; omega
  · rw [List.getElem?_eq_none (by simp; omega), List.getElem?_eq_none (by simp; omega)]; rfl
theorem words_init (N : Nat) : pick ((List.range 33).map (wordPV N)) none (some (-1)) none = (List.range 32).map (wordPV N) := by
  rw [pick_init]
  refine List.ext_getElem? fun i => ?_
  rw [List.getElem?_take, List.length_map, List.length_range]
  by_cases h : i < 32
  · rw [if_pos (by omega), List.getElem?_map, List.getElem?_map, List.getElem?_range (by omega), List.getElem?_range h]
  · rw [if_neg (by omega), List.getElem?_eq_none (by simp; omega)]

theorem sum_bound : ∀ (l : List Int), (∀ z ∈ l, 0 ≤ z ∧ z < 1000) → 0 ≤ l.sum ∧ l.sum ≤ 1000 * l.length
  | [], _ => by simp
  | a :: l, h => by
    have h1 := h a (.head _)
    have h2 := sum_bound l fun z hz => h z (.tail _ hz)
    rw [List.sum_cons, List.length_cons]
    push_cast
    omega
theorem hasTy_words (N n : Nat) : HasTy (.list .bytes) (.list ((List.range n).map (wordPV N))) := ⟨_, rfl, fun q hq => by
  obtain ⟨i, _, rfl⟩ := List.mem_map.mp hq
  exact ⟨_, rfl⟩⟩
theorem zs_bound {b m N : Nat} (h : Ok1 b m N) : ∀ z ∈ zsOf b N, 0 ≤ z ∧ z < 1000 := fun z hz => by
  unfold zsOf at hz
  obtain ⟨i, hi, rfl⟩ := List.mem_map.mp hz
  have := m_nz h (List.mem_range.mp hi)
  omega
theorem zs_len (b N : Nat) : (zsOf b N).length = 33 := by simp [zsOf]
theorem row_len (b m N : Nat) : (rowOf b m N).length = 33 := by simp [rowOf]

section
variable {w : World}
set_option maxHeartbeats 4000000 in
theorem law_a {b m N : Nat} (h : Ok1 b m N) {A : Around} {X : Addr → Prop} {s s₁ : Shared} {f c' : Addr} {pm doc : Value} (hA : AOk 1 A) (G : Gl PG fnsP s.heap) (hX : XOk X s)
    (I : In s s.heap.get? (envL pm c' doc s f) X [(Str.ofString "number", .int (N : Int)), (Str.ofString "divisor", .int (m : Int)), (Str.ofString "base", .int (b : Int))] none s₁)
    (hb0 : 0 < b) (hb16 : b ≤ 16) :
    wpAny (model PG w) A (execs ((fnBody PG 12).drop 4) (envL pm c' doc s f)) (Ret s X (.bool true)) (fun _ _ => False) s₁ := by
  have hN := h.hN
  have hwl : ∀ i, i < 33 → (word (N + i)).length ≤ 20 := fun i hi => word_len 20 _ (by omega)
  refine ex_assign_map (its := List.range 33) (q := fun i => .int (0 + (i : Int) * 1)) (wordPV N) [(Str.ofString "number", .int (N : Int))] I (scOk rfl) ⟨rfl, rfl, rfl, trivial⟩ (I.xok hX)
    (evSrc_range hA.handled ((evRange_1 (X := X) (n := 33) (I.gl G) (ev_int 33 _ _) (by omega) (by omega)))) (fun X' C b' i hXX kb hX' hi K => ?_) (by decide) (.inl rfl) (OwnNe.none _) fun s2 I2 => ?_
  · have hi := List.mem_range.mp hi
    have hna : ((((N : Int) + (0 + (i : Int) * 1)) * (1 - 2 * ((0 + (i : Int) * 1) % 2)))).natAbs = N + i := by
      have : (0 + (i : Int) * 1) % 2 = 0 ∨ (0 + (i : Int) * 1) % 2 = 1 := by omega
      rcases this with e | e
      · rw [e]; omega
      · rw [e]; omega
    refine (ev_call (fn_int2ap _ ?_) (G.keep (keeps_grow (keeps_trans I.keeps kb))) (by decide) hA hX' (evArgs_cons (ev_mul (ev_add (K.ev rfl) (K.ev rfl)) (ev_sub (ev_int 1 _ _) (ev_mul (ev_int 2 _ _) (ev_mod (K.ev rfl) (ev_int 2 _ _) (by decide)) (by decide) (by omega))) (by omega) (by omega)) evArgs_nil)).of ?_
    · rw [hna]; omega
    · rw [hna]; rfl
  refine ex_if' (bb := false) I2 (Tst.of (tst_or (b := false) (c := false) (Tst.of (tst_cmp (p := .bytes (word N)) (q := .bytes (lword N)) (ev_item (I2.ev rfl).o (ev_int 0 _ _) (by decide) (by decide) rfl) (ev_call (fn_word N) (I2.gl G) (by decide) hA (I2.xok hX) (evArgs_cons (I2.ev rfl) evArgs_nil)) cmp_ne_bytes) ?_)
    fun _ => tst_cmp (p := .list ((List.range 32).map (wordPV (N + 1)))) (q := .list ((List.range 32).map fun i => .bytes (nextW (word (N + i))))) ((ev_slice (I2.ev rfl).o (evPart_some (X := X) (ev_int 1 _ _)) evPart_none evPart_none (I2.xok hX) (by simp) (by simp)).of ?_)
      (EvNew.ev (evNew_map (its := List.range 32) (q := wordPV N) (fun i => .bytes (nextW (word (N + i)))) [] I2.know (scOk rfl) trivial (I2.xok hX) (evSrc_listM hA.handled (Ev.o ((ev_slice (I2.ev rfl).o evPart_none (evPart_some (X := X) (ev_neg (ev_int 1 _ _))) evPart_none (I2.xok hX) (by simp) (by simp)).of ?_))) (fun X' C b' i hXX kb hX' hi K => ?_) (by decide)) (I2.xok hX)) (cmp_ne_list (τ := .bytes) (hasTy_words _ _) ?_ ?_ ?_)) rfl) (fun h => by cases h) fun _ s3 I3 => ex_nil ?_
  · rw [m_word N (by omega)]; simp
  · rw [words_tail]
  · rw [words_init]
  · have hi := List.mem_range.mp hi
    refine ev_call (fn_next (word (N + i)) (fun c hc => ?_) ?_) (G.keep (keeps_grow (keeps_trans I2.keeps kb))) (by decide) hA hX' (evArgs_cons (K.ev rfl) evArgs_nil)
    · have := word_range c hc; omega
    · have := hwl i (by omega); omega
  · refine ⟨_, rfl, fun q hq => ?_⟩
    obtain ⟨i, _, rfl⟩ := List.mem_map.mp hq
    exact ⟨_, rfl⟩
  · have := hA.units'
    show A.units + 0 + 1 < cLine
    omega
  · have e : ((List.range 32).map fun i => PV.bytes (nextW (word (N + i)))) = (List.range 32).map (wordPV (N + 1)) := List.map_congr_left fun i _ => by
      unfold wordPV
      rw [m_next]
      congr 2; omega
    rw [e]; simp
  refine ex_assign_map (its := List.range 33) (q := wordPV N) (figPV b N) [(Str.ofString "base", .int (b : Int))] I3 (scOk rfl) ⟨rfl, rfl, rfl, trivial⟩ (I3.xok hX) (evSrc_listM hA.handled (I3.ev rfl).o) (fun X' C b' i hXX kb hX' hi K => ?_) (by decide) (.inl rfl) (OwnNe.none _) fun s4 I4 => ?_
  · have hi := List.mem_range.mp hi
    refine ev_call (fn_figures (word (N + i)) b (by omega) ?_) (G.keep (keeps_grow (keeps_trans I3.keeps kb))) (by decide) hA hX' (evArgs_cons (K.ev rfl) (evArgs_cons (K.ev rfl) evArgs_nil))
    have := hwl i hi; omega
  have hfl : ∀ i, i < 33 → (figs (word (N + i)) b).length ≤ 1000 := fun i hi => by
    have h1 := hwl i hi
    have h2 := worths_len (b : Int)
    have e1 : ∀ l : List Int, (figs l b).length = l.length * (worths b).length := fun l => by
      unfold figs
      induction l with
      | nil => simp
      | cons a l ih => rw [List.flatMap_cons, List.length_append, ih, List.length_map, List.length_cons, Nat.succ_mul]; omega
    rw [e1]
    have := Nat.mul_le_mul h1 h2
    omega
  refine ex_assign (p := .list ((zsOf b N).map .int)) I4 (Ev.of (EvNew.ev (evNew_map (its := List.range 33) (q := figPV b N) (fun i => .int ((nz b (N + i) : Nat) : Int)) [] I4.know (scOk rfl) trivial (I4.xok hX) (evSrc_listM hA.handled (I4.ev rfl).o) (fun X' C b' i hXX kb hX' hi K => ?_) (by decide)) (I4.xok hX)) ?_) (.inr ⟨rfl, rfl⟩) (OwnNe.none _) fun s5 I5 => ?_
  · have hi := List.mem_range.mp hi
    exact ev_call (fn_noughts (figs (word (N + i)) b) (hfl i hi)) (G.keep (keeps_grow (keeps_trans I4.keeps kb))) (by decide) hA hX' (evArgs_cons (K.ev rfl) evArgs_nil)
  · rw [zs_map]
  have hzb := zs_bound h
  have hm1 := h.hm1
  have hm2 := h.hm2
  refine ex_assign_map (its := List.range 33) (q := fun i => .int (0 + (i : Int) * 1)) (fun (i : Nat) => .int (((i : Int) - ((b : Int) - 1) * (((zsOf b N).drop 1).take i).sum) % (m : Int))) [(Str.ofString "noughts", .list ((zsOf b N).map .int)), (Str.ofString "base", .int (b : Int)), (Str.ofString "divisor", .int (m : Int))] I5 (scOk rfl) ⟨rfl, rfl, rfl, rfl, rfl, rfl, rfl, rfl, rfl, trivial⟩ (I5.xok hX)
    (evSrc_range hA.handled ((evRange_1 (X := X) (n := 33) (I5.gl G) (ev_int 33 _ _) (by omega) (by omega)))) (fun X' C b' i hXX kb hX' hi K => ?_) (by decide) (.inl rfl) (OwnNe.none _) fun s6 I6 => ?_
  · have hi := List.mem_range.mp hi
    have hsb : 0 ≤ (((zsOf b N).drop 1).take i).sum ∧ (((zsOf b N).drop 1).take i).sum ≤ 33000 := by
      have h1 := sum_bound (((zsOf b N).drop 1).take i) fun z hz => hzb z (List.mem_of_mem_drop (List.mem_of_mem_take hz))
      have h2 : (((zsOf b N).drop 1).take i).length ≤ 33 := by rw [List.length_take]; omega
      omega
    refine (ev_mod (ev_sub (K.ev rfl) (ev_mul (ev_sub (K.ev rfl) (ev_int 1 _ _)) (ev_sum (ns := ((zsOf b N).drop 1).take i) (G.keep (keeps_grow (keeps_trans I5.keeps kb))) hA.handled
      ((ev_slice (K.ev rfl).o (evPart_some (X := X') (ev_int 1 _ _)) (evPart_some (ev_add (K.ev rfl) (ev_int 1 _ _))) evPart_none hX' (by simp) (by rw [List.length_map, zs_len]; decide)).of ?_)) (by omega) (by omega))) (K.ev rfl) (by omega)).of ?_
    · have e := pick_mid (zsOf b N) 1 (i + 1)
      have e1 : (((i + 1 : Nat)) : Int) = 0 + (i : Int) * 1 + 1 := by omega
      rw [e1, show ((1 : Nat) : Int) = 1 from rfl] at e
      rw [pick_map, e]; rfl
    · congr 2; omega
  refine ex_assign (p := .list ((tab (rowOf b m N)).map .int)) I6 (ev_call (fn_overlap (rowOf b m N) (by rw [row_len]; decide) (by rw [row_len]; decide)) (I6.gl G) (by decide) hA (I6.xok hX) (evArgs_cons (Ev.of (EvNew.ev (evNew_map (its := List.range 33) (q := figPV b N) (fun i => .int ((figs (word (N + i)) b).sum % (m : Int))) [(Str.ofString "divisor", .int (m : Int))] I6.know (scOk rfl) ⟨rfl, rfl, rfl, trivial⟩ (I6.xok hX) (evSrc_listM hA.handled (I6.ev rfl).o) (fun X' C b' i hXX kb hX' hi K => ?_) (by decide)) (I6.xok hX)) ?_) evArgs_nil)) (.inl rfl) (OwnNe.none _) fun s7 I7 => ?_
  · exact ev_mod (ev_sum (G.keep (keeps_grow (keeps_trans I6.keeps kb))) hA.handled (K.ev rfl)) (K.ev rfl) (by omega)
  · unfold rowOf; rw [List.map_map]; rfl
  refine ex_if' (bb := false) I7 (tst_cmp (I7.ev rfl) (Ev.of (p := .list ((tab (htsOf b m N)).map .int)) (ev_call (fn_table (htsOf b m N) (by simp [htsOf])) (I7.gl G) (by decide) hA (I7.xok hX) (evArgs_cons ((I7.ev rfl).of ?_) evArgs_nil)) rfl) (cmp_ne_list (τ := .int) (hasTy_ints _) (hasTy_ints _) ?_ ?_)) (fun h => by cases h) fun _ s8 I8 => ex_nil ?_
  · unfold htsOf; rw [List.map_map]; rfl
  · have := hA.units'
    show A.units + 0 + 1 < cLine
    omega
  · rw [m_table h]; simp
  refine ex_assign_map (its := List.range 5) (q := fun i => .int (0 + (i : Int) * 1)) (fun (i : Nat) => .int ((farN b m N i : Nat) : Int)) [(Str.ofString "noughts", .list ((zsOf b N).map .int)), (Str.ofString "base", .int (b : Int)), (Str.ofString "divisor", .int (m : Int))] I8 (scOk rfl) ⟨rfl, rfl, rfl, rfl, rfl, rfl, rfl, rfl, rfl, trivial⟩ (I8.xok hX)
    (evSrc_range hA.handled ((evRange_1 (X := X) (n := 5) (I8.gl G) (ev_int 5 _ _) (by omega) (by omega)))) (fun X' C b' i hXX kb hX' hi K => ?_) (by decide) (.inl rfl) (OwnNe.none _) fun s9 I9 => ?_
  · have hi := List.mem_range.mp hi
    refine (ev_call (fn_far (zsOf b N) (i : Int) (b : Int) (m : Int) (by rw [zs_len]; decide) (by rw [zs_len]; decide) (by omega) (by omega) (by omega) (fun z hz => ?_)) (G.keep (keeps_grow (keeps_trans I8.keeps kb))) (by decide) hA hX' (evArgs_cons (K.ev rfl) (evArgs_cons ((K.ev rfl).of ?_) (evArgs_cons (K.ev rfl) (evArgs_cons (K.ev rfl) evArgs_nil))))).of rfl
    · have := hzb z hz; omega
    · congr 1; omega
  have σ9 := I9
  refine ex_for_range (α := Unit) (fun _ => [(Str.ofString "fars", .list ((List.range 5).map fun i => .int ((farN b m N i : Nat) : Int))), (Str.ofString "table", .list ((tab (rowOf b m N)).map .int)), (Str.ofString "base", .int (b : Int)), (Str.ofString "divisor", .int (m : Int))]) (fun _ => none) (fun _ _ => True) () (I9.to ⟨rfl, rfl, rfl, rfl, trivial⟩) trivial hA.handled
    (evRange_2 (X := X) (n := 17) (I9.gl G) (ev_int 1 _ _) (ev_int 17 _ _) (by omega) (by omega) (by omega)) (.inl rfl) (fun _ => OwnNe.none _) ?_ ?_
  · rintro B' i _ s10 E10 hi _ I10
    have hi' : i + 1 ≤ 16 := by omega
    have ei : (1 + (i : Int) * 1) = ((i + 1 : Nat) : Int) := by omega
    rw [ei] at I10
    generalize hst : i + 1 = st at I10 hi'
    have hs1 : 1 ≤ st := by omega
    have hwst : (word st).length ≤ 20 := word_len 20 _ (by omega)
    have hfst : (figs (word st) b).length ≤ 1000 := by
      have h2 := worths_len (b : Int)
      have e1 : ∀ l : List Int, (figs l b).length = l.length * (worths b).length := fun l => by
        unfold figs
        induction l with
        | nil => simp
        | cons a l ih => rw [List.flatMap_cons, List.length_append, ih, List.length_map, List.length_cons, Nat.succ_mul]; omega
      rw [e1]
      have := Nat.mul_le_mul hwst h2
      omega
    have hown := m_own h hs1 hi'
    obtain ⟨hf1, hf2⟩ := m_far h (nz b st)
    have hrl := row_len b m N
    refine ex_assign (p := .int ((nz b st : Nat) : Int)) I10 (ev_call (fn_noughts (figs (word st) b) hfst) (I10.gl G) (by decide) hA (I10.xok hX) (evArgs_cons (ev_call (fn_figures (word st) b (by omega) (by omega)) (I10.gl G) (by decide) hA (I10.xok hX) (evArgs_cons ((ev_call (fn_int2ap (st : Int) (by omega)) (I10.gl G) (by decide) hA (I10.xok hX) (evArgs_cons (I10.ev rfl) evArgs_nil)).of (by rw [Int.natAbs_natCast])) (evArgs_cons (I10.ev rfl) evArgs_nil))) evArgs_nil)) (.inl rfl) (OwnNe.none _) fun s11 I11 => ?_
    refine ex_assign (p := .int ((farN b m N (nz b st) : Nat) : Int)) I11 (ev_item (I11.ev rfl).o (I11.ev rfl) (by omega) (by omega) ?_) (.inl rfl) (OwnNe.none _) fun s12 I12 => ?_
    · rw [Int.toNat_natCast]
      exact list_item (fun i => ((farN b m N i : Nat) : Int)) .int hown
    have hbp : (b : Int) ^ nz b st = ((b ^ nz b st : Nat) : Int) := by push_cast; rfl
    have hbp1 : 0 < b ^ nz b st := Nat.pow_pos (by omega)
    have hbp2 : b ^ nz b st ≤ 16 ^ 5 := Nat.le_trans (Nat.pow_le_pow_left hb16 _) (Nat.pow_le_pow_right (by decide) (by omega))
    refine ex_assign (p := .bool (ovl b m N st)) I12 (ev_and (ev_cmp (ev_mod (ev_div (I12.ev rfl) (ev_pow (n := nz b st) (I12.ev rfl) (I12.ev rfl) (by omega) (by omega)) (by rw [hbp]; omega) (by rw [hbp]; omega)) (I12.ev rfl) (by omega)) (ev_int 0 _ _) cmp_eq) fun _ => ev_cmp (I12.ev rfl) (ev_mul (ev_int 2 _ _) (I12.ev rfl) (by decide) (by omega)) cmp_gt) (.inl rfl) (OwnNe.none _) fun s13 I13 => ?_
    refine ex_assign (p := .bool (isBb (at0 (rowOf b m N)) (2 * st + 1) (2 * st + 1 - st))) I13 (ev_call (fn_again (rowOf b m N) (2 * st + 1) st (by omega) hs1 (by omega) (by omega) (by omega)) (I13.gl G) (by decide) hA (I13.xok hX) (evArgs_cons (I13.ev rfl) (evArgs_cons ((ev_add (ev_mul (ev_int 2 _ _) (I13.ev rfl) (by decide) (by omega)) (ev_int 1 _ _)).of (by congr 1)) (evArgs_cons (I13.ev rfl) evArgs_nil)))) (.inl rfl) (OwnNe.none _) fun s14 I14 => ?_
    rw [m_again h hs1 hi'] at I14
    refine ex_if' (bb := false) I14 (Tst.of (tst_or (tst_cmp (I14.ev rfl) (I14.ev rfl) cmp_ne_bool) fun _ => tst_and (tst_bool (I14.ev rfl)) fun _ => tst_cmp (I14.ev rfl) (I14.ev rfl) cmp_ge) ?_) (fun h => by cases h) fun _ s15 I15 => ex_nil ?_
    · cases ho : ovl b m N st with
      | false => rfl
      | true =>
        have := m_div h hs1 hi' ho
        simp; omega
    cases ho : ovl b m N st with
    | false =>
      rw [ho] at I15
      refine ex_if' (bb := false) I15 (Tst.of (tst_and (c := false) (tst_bool (I15.ev rfl)) fun hc => by cases hc) rfl) (fun h => by cases h) fun _ s16 I16 => ex_nil (ex_nil ⟨(), trivial, I16.to ⟨rfl, rfl, rfl, rfl, trivial⟩⟩)
    | true =>
      rw [ho] at I15
      have hgt : 2 * st < farN b m N (nz b st) := by
        unfold ovl at ho
        rw [Bool.and_eq_true] at ho
        have := of_decide_eq_true ho.2
        omega
      refine ex_if' (bb := false) I15 (Tst.of (tst_and (c := false) (tst_bool (I15.ev rfl)) fun _ => Tst.of (tst_or (b := false) (c := false) (Tst.of (tst_not (tst_bool (ev_call (fn_again (rowOf b m N) (farN b m N (nz b st)) st (by omega) hs1 (by omega) (by omega) (by omega)) (I15.gl G) (by decide) hA (I15.xok hX) (evArgs_cons (I15.ev rfl) (evArgs_cons (I15.ev rfl) (evArgs_cons (I15.ev rfl) evArgs_nil)))))) ?_)
        fun _ => Tst.of (tst_and (c := false) (tst_cmp (I15.ev rfl) (ev_int 33 _ _) cmp_lt) fun hlt => ?_) (Bool.and_false _)) rfl) rfl) (fun h => by cases h) fun _ s16 I16 => ex_nil (ex_nil ⟨(), trivial, I16.to ⟨rfl, rfl, rfl, rfl, trivial⟩⟩)
      · rw [m_comes h hs1 hi' ho]; rfl
      · have hlt := of_decide_eq_true hlt
        refine Tst.of (tst_bool (ev_call (fn_again (rowOf b m N) (farN b m N (nz b st) + 1) st (by omega) hs1 (by omega) (by omega) (by omega)) (I15.gl G) (by decide) hA (I15.xok hX) (evArgs_cons (I15.ev rfl) (evArgs_cons ((ev_add (I15.ev rfl) (ev_int 1 _ _)).of (by congr 1)) (evArgs_cons (I15.ev rfl) evArgs_nil))))) ?_
        exact m_ends h hs1 hi' ho (by omega)
  · rintro _ s10 _ I10
    exact ex_ret I10 ev_true fun _ x => x
end
end Mine
end

-- part C7
section
namespace Mine
open PySem PySem.Calls PyProof.Rows

def cell0 : List Int := [0, 8, 2, 173, 9]
def cellV (ns : List Int) (i : Nat) : Int := cell0.getD i 0 + (pick ns (some (i : Int)) none (some 5)).sum
def baseOf (ns : List Int) : Nat := [16, 4, 2].getD (cellV ns 0 % 3).toNat 0
def divOf (ns : List Int) : Nat := 2 + (cellV ns 1 % (baseOf ns : Int)).toNat
def numOf (ns : List Int) : Nat := ((1 + cellV ns 3 % 4096) * (baseOf ns : Int) ^ (cellV ns 2 % 15).toNat - cellV ns 4 % 33).natAbs
theorem base_ok (ns : List Int) : baseOf ns = 2 ∨ baseOf ns = 4 ∨ baseOf ns = 16 := by
  unfold baseOf
  have : (cellV ns 0 % 3).toNat = 0 ∨ (cellV ns 0 % 3).toNat = 1 ∨ (cellV ns 0 % 3).toNat = 2 := by omega
  rcases this with e | e | e <;> rw [e] <;> simp
theorem pow_bound (ns : List Int) : (1 + cellV ns 3 % 4096) * (baseOf ns : Int) ^ (cellV ns 2 % 15).toNat ≤ 4096 * 16 ^ 14 ∧ 0 ≤ (1 + cellV ns 3 % 4096) * (baseOf ns : Int) ^ (cellV ns 2 % 15).toNat ∧ (baseOf ns : Int) ^ (cellV ns 2 % 15).toNat ≤ 16 ^ 14 ∧ 0 < (baseOf ns : Int) ^ (cellV ns 2 % 15).toNat := by
  have hb := base_ok ns
  have e : (baseOf ns : Int) ^ (cellV ns 2 % 15).toNat = ((baseOf ns ^ (cellV ns 2 % 15).toNat : Nat) : Int) := by push_cast; rfl
  have h1 : baseOf ns ^ (cellV ns 2 % 15).toNat ≤ 16 ^ 14 := Nat.le_trans (Nat.pow_le_pow_left (show baseOf ns ≤ 16 by omega) _) (Nat.pow_le_pow_right (by decide) (by omega))
  have h0 : 0 < baseOf ns ^ (cellV ns 2 % 15).toNat := Nat.pow_pos (by omega)
  rw [e]
  generalize baseOf ns ^ (cellV ns 2 % 15).toNat = p at h1 h0
  have h2 : 0 ≤ cellV ns 3 % 4096 ∧ cellV ns 3 % 4096 < 4096 := by omega
  generalize cellV ns 3 % 4096 = q at h2
  have h3 : (1 + q) * (p : Int) ≤ 4096 * (p : Int) := Int.mul_le_mul_of_nonneg_right (by omega) (by omega)
  have h4 : 0 ≤ (1 + q) * (p : Int) := Int.mul_nonneg (by omega) (by omega)
  exact ⟨by omega, h4, by omega, by omega⟩
theorem ok1 (ns : List Int) : Ok1 (baseOf ns) (divOf ns) (numOf ns) := by
  have hb := base_ok ns
  refine ⟨hb, by unfold divOf; omega, ?_, ?_⟩
  · unfold divOf
    have := Int.emod_lt_of_pos (cellV ns 1) (show (0 : Int) < baseOf ns by omega)
    omega
  · unfold numOf
    obtain ⟨h1, h2, _⟩ := pow_bound ns
    generalize (1 + cellV ns 3 % 4096) * (baseOf ns : Int) ^ (cellV ns 2 % 15).toNat = p at h1 h2
    omega
section
variable {w : World}
set_option maxHeartbeats 4000000 in
theorem fn_law (ns : List Int) (hl : ns.length ≤ 1000) : FnK PG w fnsP 2 12 [.list (ns.map .int)] (.bool true) := by
  refine fnK_of (k := 1) (names := [Str.ofString "script"]) (fun pm cd doc vs hl => ?_) (by simp) (by rfl) (fun n x hx => ?_) fun A X s s₁ f c' pm doc hA G hX I => ?_
  · obtain ⟨v, rfl⟩ := List.length_eq_one_iff.mp hl
    rfl
  · rw [List.mem_singleton.mp hx]
    exact .inr ⟨rfl, rfl⟩
  have hb := base_ok ns
  obtain ⟨p1, p2, p3, p4⟩ := pow_bound ns
  have hm := Int.emod_nonneg (cellV ns 1) (show (baseOf ns : Int) ≠ 0 by omega)
  have hcell : ∀ i, i < 5 → ((List.range 5).map fun j => PV.int (cellV ns j))[((i : Nat) : Int).toNat]? = some (.int (cellV ns i)) := fun i hi => list_item (cellV ns) .int hi
  refine CompTo.assign (x := Str.ofString "place") (ps := (List.range 5).map fun j => .int (cellV ns j)) I (compTo_enum (ps := cell0.map .int) (fun j => .int (cellV ns j)) [(Str.ofString "script", .list (ns.map .int))] hA.handled (I.gl G) I.know (scOk rfl) rfl (by decide) ⟨rfl, rfl, rfl, trivial⟩ (I.xok hX)
    (Ev.o (ev_list (evArgs_cons (ev_int 0 _ _) (evArgs_cons (ev_int 8 _ _) (evArgs_cons (ev_int 2 _ _) (evArgs_cons (ev_int 173 _ _) (evArgs_cons (ev_int 9 _ _) evArgs_nil))))) (I.xok hX) (by decide))) (fun X' C b' i p hXX kb hX' hp K => ?_) (by decide)) (scOk rfl) (I.xok hX) (.inl rfl) (OwnNe.none _) fun s2 I2 => ?_
  · have hpi : p = .int (cell0.getD i 0) := by
      rw [List.getElem?_map] at hp
      cases e : cell0[i]? with
      | none => rw [e] at hp; cases hp
      | some c =>
        rw [e] at hp
        rw [List.getD_eq_getElem?_getD, e]
        cases hp; rfl
    subst hpi
    refine ev_add (K.ev rfl) (ev_sum (ns := pick ns (some (i : Int)) none (some 5)) (G.keep (keeps_grow (keeps_trans I.keeps kb))) hA.handled ((ev_slice (K.ev rfl).o (evPart_some (K.ev rfl)) evPart_none (evPart_some (X := X') (ev_int 5 _ _)) hX' (by simp) (by rw [List.length_map]; omega)).of ?_))
    rw [pick_map]
  refine ex_assign (p := .int (baseOf ns : Int)) I2 (ev_item (ps := [16, 4, 2].map PV.int) (Ev.o (ev_list (evArgs_cons (ev_int 16 _ _) (evArgs_cons (ev_int 4 _ _) (evArgs_cons (ev_int 2 _ _) evArgs_nil))) (I2.xok hX) (by decide))) (ev_mod (ev_item (I2.ev rfl).o (ev_int 0 _ _) (by decide) (by decide) (hcell 0 (by decide))) (ev_int 3 _ _) (by decide)) (by omega) (by omega) ?_) (.inr ⟨rfl, rfl⟩) (OwnNe.none _) fun s3 I3 => ?_
  · unfold baseOf
    have : (cellV ns 0 % 3).toNat = 0 ∨ (cellV ns 0 % 3).toNat = 1 ∨ (cellV ns 0 % 3).toNat = 2 := by omega
    rcases this with e | e | e <;> rw [e] <;> rfl
  refine ex_assign (p := .int (divOf ns : Int)) I3 ((ev_add (ev_int 2 _ _) (ev_mod (ev_item (I3.ev rfl).o (ev_int 1 _ _) (by decide) (by decide) (hcell 1 (by decide))) (I3.ev rfl) (by omega))).of ?_) (.inr ⟨rfl, rfl⟩) (OwnNe.none _) fun s4 I4 => ?_
  · unfold divOf
    congr 1; omega
  refine ex_assign (p := .int (numOf ns : Int)) I4 (ev_abs (I4.gl G) (ev_sub (ev_mul (ev_add (ev_int 1 _ _) (ev_mod (ev_item (I4.ev rfl).o (ev_int 3 _ _) (by decide) (by decide) (hcell 3 (by decide))) (ev_int 4096 _ _) (by decide))) (ev_pow (n := (cellV ns 2 % 15).toNat) (I4.ev rfl) ((ev_mod (ev_item (I4.ev rfl).o (ev_int 2 _ _) (by decide) (by decide) (hcell 2 (by decide))) (ev_int 15 _ _) (by decide)).of ?_) (by omega) (by omega)) (by omega) (by omega))
    (ev_mod (ev_item (I4.ev rfl).o (ev_int 4 _ _) (by decide) (by decide) (hcell 4 (by decide))) (ev_int 33 _ _) (by decide)))) (.inr ⟨rfl, rfl⟩) (OwnNe.none _) fun s5 I5 => ?_
  · congr 1; omega
  exact law_a (ok1 ns) hA G hX (I5.to ⟨rfl, rfl, rfl, trivial⟩) (by omega) (by omega)
end
end Mine
end

-- part C8
section
namespace Mine
open PySem PySem.Calls PyProof.Rows PySem.W

def fnsAll : List Nat := [1, 3, 5, 6, 7, 8, 9, 10, 11, 12]
def freeB (p : Program) (loose : List Str) : Bool := builtinsUsed.all fun x => decide (x ∉ startupNames) && decide (x ∉ loose) && decide (x ∉ (recsOf p).map (·.name)) && decide (x ∉ (litsOf p).map (·.1)) && decide (x ∉ (clssOf p loose).map (·.name)) && decide (x ≠ "__name__")
def defsOf (p : Program) : List (Str × Arguments × List Stmt × Scope) := (recsOf p).map fun d => (d.name, d.params, d.body, d.scope)
def defsAt (p : Program) (is : List Nat) : List (Str × Arguments × List Stmt × Scope) := is.map fun i => (fnName p i, fnParams p i, fnBody p i, fnScope p i)

theorem fnAt_of {p q : Program} {loose : List Str} {mean : ExcName → Option Value} {mg mb : Str → Option Value} {h : Heap} {is : List Nat} (T : Top p loose mean mg mb h) (TA : ∀ e ∈ (recsOf p).map itemOf, e.params.defaults = [] → e.At mg h)
    (hd : defsOf p = defsAt q is) (hdef : ∀ i ∈ is, (fnParams q i).defaults = []) {i : Nat} (hi : i ∈ is) : FnAt q mg h i := by
  have hm : (fnName q i, fnParams q i, fnBody q i, fnScope q i) ∈ defsOf p := by
    rw [hd]
    exact List.mem_map.mpr ⟨i, hi, rfl⟩
  obtain ⟨d, hdm, e⟩ := List.mem_map.mp hm
  simp only [Prod.mk.injEq] at e
  obtain ⟨e1, e2, e3, e4⟩ := e
  obtain ⟨a, c, P, o, pm, doc, g1, g2, g3, g4, _⟩ := TA (itemOf d) (List.mem_map.mpr ⟨d, hdm, rfl⟩) (by
    show d.params.defaults = []
    rw [e2]; exact hdef i hi)
  have n1 : (itemOf d).name = fnName q i := e1
  have n2 : (itemOf d).params = fnParams q i := e2
  have n3 : (itemOf d).body = fnBody q i := e3
  have n4 : (itemOf d).scope = fnScope q i := e4
  rw [n1, n2, n3, n4] at g3
  rw [n1] at g1 g4
  exact ⟨a, c, o, pm, doc, g1, g2, g3, g4⟩
theorem gl_of {p q : Program} {loose : List Str} {mean : ExcName → Option Value} {mg mb : Str → Option Value} {h : Heap} {is fns : List Nat} (T : Top p loose mean mg mb h) (TA : ∀ e ∈ (recsOf p).map itemOf, e.params.defaults = [] → e.At mg h)
    (hd : defsOf p = defsAt q is) (hdef : ∀ i ∈ is, (fnParams q i).defaults = []) (hf : freeB p loose = true) (hsub : ∀ i ∈ fns, i ∈ is) : Gl q fns h := by
  refine ⟨mg, mb, T.g, T.b, T.nolimit, fun x hx => ?_, fun i hi => fnAt_of T TA hd hdef (hsub i hi)⟩
  have hx := List.all_eq_true.mp hf x hx
  simp only [Bool.and_eq_true, decide_eq_true_eq] at hx
  obtain ⟨⟨⟨⟨⟨h1, h2⟩, h3⟩, h4⟩, h5⟩, h6⟩ := hx
  exact ⟨T.free x h1 h2 h3 h4 h5, T.builtins x h6⟩
theorem good_true {c : ClaimW} {cl : Str → Option Addr} {mean : ExcName → Option Value} {args : List WData} {s₁ s' : Shared} (k : Keeps s₁ s') (hg : s₁.gens = #[]) (hn : ∀ cls, c.raises args cls = false) (hp : c.post args (.bool true) args = true) :
    GoodW c cl mean args s₁ (.ok (.ret (.bool true))) s' := by
  obtain ⟨h, tk, rfl, hk⟩ := k
  exact ⟨.inl ⟨_, _, _, rfl, hn, .bool true, hp, unshared_nil⟩, hk, rfl, hg⟩
theorem caller_ok : AOk 2 callerA := ⟨rfl, by decide, by decide⟩
theorem law_end {p : Program} {loose : List Str} {mean₀ : ExcName → Option Value} {mg mb : Str → Option Value} {w : World} {s₁ : Shared} {fa l : Addr} {vs : List Value} {ns : List Int} {c : ClaimW} {cl : Str → Option Addr} {mean : ExcName → Option Value} {args : List WData}
    (T : Top p loose mean₀ mg mb s₁.heap) (TA : ∀ e ∈ (recsOf p).map itemOf, e.params.defaults = [] → e.At mg s₁.heap) (hd : defsOf p = defsAt PG fnsAll) (hf : freeB p loose = true) (hmg : mg (fnName PG 12) = some (.ref fa)) (hg : s₁.gens = #[])
    (hL : s₁.heap.IsList l vs.toArray) (hI : IntsAre vs ns) (hlen : ¬ ((63 : Int) < ns.length)) (hn : ∀ cls, c.raises args cls = false) (hp : c.post args (.bool true) args = true) :
    codeAny (model PG w) callerA (.call (.ref fa) ⟨[.ref l], []⟩) (GoodW c cl mean args s₁) s₁ := by
  have hdef : ∀ i ∈ fnsAll, (fnParams PG i).defaults = [] := by decide +kernel
  obtain ⟨f, c', o, pm, doc, e1, e2, e3, e4⟩ := fnAt_of T TA hd hdef (i := 12) (by decide)
  rw [hmg] at e1
  cases e1
  refine fn_law ns (by omega) callerA (fun _ => False) s₁ [.ref l] fa c' o pm doc _ caller_ok (gl_of T TA hd hdef hf fun i hi => hi) (fun _ h => h.elim) e2 e3 e4 ?_ fun v s' k r => ?_
  · simp only [RepL, Rep]
    exact ⟨_, _, rfl, ⟨l, vs, rfl, fun h => h, hL, RepL.ofInts hI⟩, rfl⟩
  · simp only [Rep] at r
    subst r
    exact good_true k hg hn hp
end Mine
end

open PySem PySem.W PyProof.Rows
set_option maxRecDepth 100000 in
set_option maxHeartbeats 8000000 in
theorem PySem.Challenge.cw_st0002_01_holds : PySem.Challenge.rw_st0002_01.Holds := by
  w_on; o_law; k_head
  case hw => w_witness2
  w_strict (
    k_fill
    intro w s₀ s₁ mg mb G Y fa o pm cd doc dV kV ho hd hcd hD hmg hg args vals as hpre hlay hrd hwl hlo
    refine Ground.open G ?_
    intro T B D TE TW
    try (refine guard_noD D (by decide +kernel) ?_; clear D)
    have TA := at_of_top T
    wrow_args hpre hlay hrd hwl hlo
    all_goals (
      first | refine callC_kw (enter_call ?_) | refine enter_call ?_ | refine callC_kw (enter_callW ?_) | refine enter_callW ?_
      refine codeAny_mono ?_ (fun _ _ g => GoodW.toG g)
      refine Mine.law_end T TA (by kernel_rfl) (by kernel_rfl) hmg hg (by assumption) (by assumption) (by assumption) ?_ ?_)
    case _ => exact raisesW_false (by wrow_none_raised)
    case _ => exact postW_of (by wrow_shape) (by wtm_val) (by w_fin))
