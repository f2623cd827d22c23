import PyProof.Rows.All
import Wide.All
import OpenK.AllK
import Wide.FinOn
import PySem.Challenge.RW_kq0047_01
set_option Elab.async false
set_option compiler.extract_closed false
set_option maxRecDepth 100000
section
open PySem PyProof.Rows
namespace Mine
/-! A0 -/
/-! short words: taking apart without writing the goal out again; sums of naturals -/
section
variable {a b c d e f g G : Prop}
theorem a2 (h : a ∧ b) (k : a → b → G) : G := k h.1 h.2
theorem a3 (h : a ∧ b ∧ c) (k : a → b → c → G) : G := k h.1 h.2.1 h.2.2
theorem a4 (h : a ∧ b ∧ c ∧ d) (k : a → b → c → d → G) : G := k h.1 h.2.1 h.2.2.1 h.2.2.2
theorem a5 (h : a ∧ b ∧ c ∧ d ∧ e) (k : a → b → c → d → e → G) : G := k h.1 h.2.1 h.2.2.1 h.2.2.2.1 h.2.2.2.2
theorem a6 (h : a ∧ b ∧ c ∧ d ∧ e ∧ f) (k : a → b → c → d → e → f → G) : G := k h.1 h.2.1 h.2.2.1 h.2.2.2.1 h.2.2.2.2.1 h.2.2.2.2.2
theorem a7 (h : a ∧ b ∧ c ∧ d ∧ e ∧ f ∧ g) (k : a → b → c → d → e → f → g → G) : G := k h.1 h.2.1 h.2.2.1 h.2.2.2.1 h.2.2.2.2.1 h.2.2.2.2.2.1 h.2.2.2.2.2.2
theorem x1 {α : Sort u} {p : α → Prop} (h : ∃ x, p x) (k : ∀ x, p x → G) : G := h.elim k
theorem x2 {α : Sort u} {β : Sort v} {p : α → β → Prop} (h : ∃ x y, p x y) (k : ∀ x y, p x y → G) : G := h.elim fun x h => h.elim fun y h => k x y h
theorem x3 {α : Sort u} {β : Sort v} {γ : Sort w} {p : α → β → γ → Prop} (h : ∃ x y z, p x y z) (k : ∀ x y z, p x y z → G) : G := h.elim fun x h => h.elim fun y h => h.elim fun z h => k x y z h
theorem o2 (h : a ∨ b) (k : a → G) (l : b → G) : G := h.elim k l
end
section
variable {a b c d i j k l m n o p q r x y z : Nat}
theorem n_lt (h : i < n) (h2 : b + n ≤ a) : b + i < a := Nat.lt_of_lt_of_le (Nat.add_lt_add_left h b) h2
theorem n_pred (h : i < n) : i ≤ n - 1 := Nat.le_sub_one_of_lt h
theorem n_one (h : k > 0) (h2 : ¬ k = 1) : 1 < k := Nat.lt_of_le_of_ne h (Ne.symm h2)
theorem n_measA (h : i < a) : a - (i + 1) + 1 = a - i := by rw [← Nat.sub_sub]; exact Nat.sub_add_cancel (Nat.sub_pos_of_lt h)
theorem n_half0 (h : ¬ l ≥ r) : (r - l) / 2 < r - l := Nat.div_lt_self (Nat.sub_pos_of_lt (Nat.lt_of_not_le h)) (by decide)
theorem n_mid (h : ¬ l ≥ r) : l + (r - l) / 2 < r := Nat.lt_of_lt_of_eq (Nat.add_lt_add_left (n_half0 h) l) (Nat.add_sub_of_le (Nat.le_of_lt (Nat.lt_of_not_le h)))
theorem n_midr (h : r - l + x ≤ n) (h2 : ¬ l ≥ r) : r - (l + (r - l) / 2 + 1) + (x + 1) ≤ n := by
  have e := n_measA (n_mid h2)
  have h3 := Nat.le_trans (Nat.add_le_add_right (Nat.sub_le_sub_left (Nat.le_add_right l ((r - l) / 2)) r) x) h
  rw [← e, Nat.add_right_comm _ 1 x] at h3
  exact h3
theorem n_midl (h : r - l + x ≤ n) (h2 : ¬ l ≥ r) : l + (r - l) / 2 - l + (x + 1) ≤ n := by
  rw [Nat.add_sub_cancel_left, ← Nat.add_assoc, Nat.add_right_comm]
  exact Nat.le_trans (Nat.add_le_add_right (n_half0 h2) x) h
theorem n_end (h : r - l + n ≤ n) : r ≤ l := Nat.le_of_sub_eq_zero (Nat.le_zero.mp (Nat.le_of_add_le_add_right (by rw [Nat.zero_add]; exact h)))
theorem n_min (h : l < o) (h2 : i + l < n) : i + l + 1 ≤ i + min o (n - i) := Nat.add_le_add_left (Nat.le_min.mpr ⟨h, Nat.lt_sub_of_add_lt (by rw [Nat.add_comm]; exact h2)⟩) i
theorem n_min2 (h : i < n) : i + min o (n - i) ≤ n := Nat.le_trans (Nat.add_le_add_left (Nat.min_le_right _ _) i) (Nat.le_of_eq (Nat.add_sub_of_le (Nat.le_of_lt h)))
theorem n_sub0 (h : a ≤ n) : a - b + 0 ≤ n := Nat.le_trans (Nat.sub_le a b) h
theorem n_half (h : ¬ l ≥ r) (h2 : r ≤ n) : l + (r - l) / 2 < n := Nat.lt_of_lt_of_le (n_mid h) h2
theorem n_mA (h : a - i + c + x ≤ m) (hi : i < a) : a - (i + 1) + c + (x + 1) ≤ m := by
  rw [← n_measA hi, Nat.add_right_comm _ 1 c, Nat.add_right_comm _ 1 x] at h
  exact h
theorem n_mB (h : c + (b - j) + x ≤ m) (hj : j < b) : c + (b - (j + 1)) + (x + 1) ≤ m := by
  rw [← n_measA hj, ← Nat.add_assoc, Nat.add_right_comm _ 1 x] at h
  exact h
theorem n_m1 (h : y + (x + 1) ≤ m) : y + 1 ≤ m := Nat.le_trans (Nat.add_le_add_left (Nat.le_add_left 1 x) y) h
theorem n_mono (h : a - i + (b - j) ≤ m) (hi : i ≤ k) (hj : j ≤ l) : a - k + (b - l) ≤ m := Nat.le_trans (Nat.add_le_add (Nat.sub_le_sub_left hi a) (Nat.sub_le_sub_left hj b)) h
theorem n_fill (h : i ≤ a) : i + (a - i) ≤ a := Nat.le_of_eq (Nat.add_sub_of_le h)
theorem n_fits (h : k ≤ a - i) (hi : i ≤ a) (hn : ¬ i + k = a) : i + k < a := Nat.lt_of_le_of_ne (Nat.le_trans (Nat.add_le_add_left h i) (n_fill hi)) hn
theorem n_2o : o ≤ 2 * o := Nat.le_mul_of_pos_left o (by decide)
theorem n_min3 (hh : j < n) (h1 : j + min o (n - j) ≤ i) (h2 : i < n) : j + o ≤ i := (Nat.le_total o (n - j)).elim (fun a => by rwa [Nat.min_eq_left a] at h1) (fun a => by
  rw [Nat.min_eq_right a, Nat.add_sub_of_le (Nat.le_of_lt hh)] at h1
  exact absurd h2 (Nat.not_lt.mpr h1))
theorem n_min4 (hh : j < n) (h1 : j + min o (n - j) ≤ i) (h2 : i < n) (h4 : n - j ≤ o) : False := by
  rw [Nat.min_eq_right h4, Nat.add_sub_of_le (Nat.le_of_lt hh)] at h1
  exact absurd h2 (Nat.not_lt.mpr h1)
theorem n_min5 (h : i < j + 1 - min o (j + 1)) : i ≤ j - o := (Nat.le_total o (j + 1)).elim (fun a => by
  rw [Nat.min_eq_left a] at h
  exact Nat.le_sub_of_add_le (Nat.le_of_lt_succ (Nat.add_lt_of_lt_sub h))) (fun a => by
  rw [Nat.min_eq_right a, Nat.sub_self] at h
  exact absurd h (Nat.not_lt_zero _))
theorem n_min6 (h : i < j + 1 - min o (j + 1)) (h4 : j + 1 ≤ o) : False := by
  rw [Nat.min_eq_right h4, Nat.sub_self] at h
  exact absurd h (Nat.not_lt_zero _)
theorem n_min7 (h1 : l ≤ j) (h3 : l < o) : j + 1 - min o (j + 1) ≤ j - l := Nat.le_trans (Nat.sub_le_sub_left (Nat.le_min.mpr ⟨h3, Nat.succ_le_succ h1⟩) _) (Nat.le_of_eq (Nat.add_sub_add_right j 1 l))
theorem p_lt (h : 0 < n) (h2 : n ≤ a) : n - 1 < a := Nat.lt_of_lt_of_le (Nat.sub_one_lt (Nat.ne_of_gt h)) h2
theorem p_le (h2 : n ≤ a) : n - 1 ≤ a := Nat.le_trans (Nat.sub_le n 1) h2
theorem p_one (h : 1 < n) (h' : ¬ n - 1 = 1) : 1 < n - 1 := Nat.lt_of_le_of_ne (Nat.le_sub_one_of_lt h) (Ne.symm h')
theorem p_k1 (h1 : ¬ k = 1) (h0 : ¬ k = 0) : 1 < k := Nat.lt_of_le_of_ne (Nat.pos_of_ne_zero h0) (Ne.symm h1)
theorem p_m1 (h : i + j ≤ m + 1) (h0 : 0 < i) (hk : k ≤ j) : i - 1 + k ≤ m := Nat.le_of_succ_le_succ (Nat.le_trans (by rw [Nat.succ_eq_add_one, Nat.add_right_comm, Nat.sub_add_cancel h0]; exact Nat.add_le_add_left hk i) h)
theorem p_eq (h : k ≤ n) (h0 : ¬ n - k > 0) : k = n := Nat.le_antisymm h (Nat.le_of_sub_eq_zero (Nat.eq_zero_of_not_pos h0))
theorem p_mA (h : i + c + x ≤ m) (hi : 0 < i) : i - 1 + c + (x + 1) ≤ m := by
  rw [← Nat.sub_add_cancel hi, Nat.add_right_comm _ 1 c, Nat.add_right_comm _ 1 x] at h
  exact h
theorem p_mB (h : c + j + x ≤ m) (hj : 0 < j) : c + (j - 1) + (x + 1) ≤ m := by
  rw [← Nat.sub_add_cancel hj, ← Nat.add_assoc, Nat.add_right_comm _ 1 x] at h
  exact h
theorem q_lo (h : ¬ l ≥ r) : l ≤ (l + r) / 2 := (Nat.le_div_iff_mul_le (by decide)).mpr (by rw [Nat.mul_two]; exact Nat.add_le_add_left (Nat.le_of_lt (Nat.lt_of_not_le h)) l)
theorem q_hi (h : ¬ l ≥ r) : (l + r) / 2 < r := Nat.div_lt_of_lt_mul (by rw [Nat.two_mul]; exact Nat.add_lt_add_right (Nat.lt_of_not_le h) r)
theorem q_step (h : d + x ≤ k) (hd : c < d) : c + (x + 1) ≤ k := by rw [← Nat.add_assoc, Nat.add_right_comm]; exact Nat.le_trans (Nat.add_le_add_right hd x) h
theorem q_ej (hj : j < l + (x + 1)) (hjx : ¬ j < l + x) : j = l + x := Nat.le_antisymm (Nat.le_of_lt_succ hj) (Nat.le_of_not_lt hjx)
theorem q_pos (h : a ≤ x) (ha : 1 ≤ a) : 0 < l + x := Nat.lt_of_lt_of_le (Nat.lt_of_lt_of_le ha h) (Nat.le_add_left x l)
theorem q_lt1 (h : i ≤ n) (h2 : ¬ i = n) : i ≤ n - 1 := Nat.le_sub_one_of_lt (Nat.lt_of_le_of_ne h h2)
theorem n_chain (h : m + x ≤ n) (h1 : y + 1 ≤ m) (h2 : z ≤ y) : z + (x + 1) ≤ n := Nat.le_trans (by rw [Nat.add_comm x 1, ← Nat.add_assoc]; exact Nat.add_le_add_right (Nat.le_trans (Nat.succ_le_succ h2) h1) x) h
theorem n_m2 (h : y + (a + b) ≤ m) (ha : 0 < a) : y + 1 ≤ m := Nat.le_trans (Nat.add_le_add_left (Nat.le_trans ha (Nat.le_add_right a b)) y) h
theorem n_over (h : a + m ≤ m) : a = 0 := Nat.le_zero.mp (Nat.le_of_add_le_add_right (by rw [Nat.zero_add]; exact h))
theorem n_over2 (h : a - i + c + m ≤ m) (hi : i < a) : False := Nat.lt_irrefl 0 (Nat.lt_of_lt_of_eq (Nat.sub_pos_of_lt hi) (Nat.eq_zero_of_add_eq_zero_right (n_over h)))
end
/-! S1 -/
noncomputable def gallop' : Bool → Keyed → Array Keyed → Nat → Nat → Nat → StateT SortSt Sem (Option Nat) := sortPriv% PySem.Builtin.gallop
noncomputable def setMinGallop' : Nat → StateT SortSt Sem Unit := sortPriv% PySem.Builtin.setMinGallop
noncomputable def mergeLo' : Array Keyed → Array Keyed → StateT SortSt Sem (Array Keyed) := sortPriv% PySem.Builtin.mergeLo
noncomputable def mergeHi' : Array Keyed → Array Keyed → StateT SortSt Sem (Array Keyed) := sortPriv% PySem.Builtin.mergeHi
noncomputable def beyond' (left : Bool) (key : Keyed) (arr : Array Keyed) (base : Nat) (i : Nat) : StateT SortSt Sem (Option Bool) := do
    let x ← elem' arr (base + i)
    if left then lt' x key else return (← lt' key x).map (!·)
theorem setMinGallop'_eq (g : Nat) : setMinGallop' g = modify (fun s => SortSt.mk' (kindOf s) (arrOf s) (pendingOf s) g (failedOf s)) := rfl
theorem mergeAt'_eq (i : Nat) : mergeAt' i = (do
  let s ← get
  let (some (sa, na, power), some (sb, nb, _)) := ((pendingOf s)[i]?, (pendingOf s)[i + 1]?) | unsupported "internal:list.sort.pending"
  set (setPending s (((pendingOf s).setIfInBounds i (sa, na + nb, power)).eraseIdxIfInBounds (i + 1)))
  let some k ← gallop' false (← elem' (arrOf s) sb) (arrOf s) sa na 0 | return false
  let (sa, na) := (sa + k, na - k)
  if na == 0 then return true
  let some nb ← gallop' true (← elem' (arrOf s) (sa + na - 1)) (arrOf s) sb nb (nb - 1) | return false
  if nb == 0 then return true
  let x := (arrOf s).extract sa sb
  let y := (arrOf s).extract sb (sb + nb)
  let merged ← if na ≤ nb then mergeLo' x y else mergeHi' x y
  modify fun s => setArr s (merged.toList.zipIdx.foldl (fun a (p, j) => a.setIfInBounds (sa + j) p) (arrOf s))
  return (failedOf (← get)).isNone) := by rfl

noncomputable def keyN (p : Keyed) : Int := numOf p.1
noncomputable def IsK (p : Keyed) : Prop := ∃ n t, p.1 = .int n t
noncomputable def kle (p q : Keyed) : Prop := keyN p ≤ keyN q
noncomputable def bkP (left : Bool) (key x : Keyed) : Bool := if left then decide (keyN x < keyN key) else decide (keyN x ≤ keyN key)
section
variable {prog : Program} {w : World} {A : Around} {E : Value → Shared → Prop} {s : Shared}
theorem wpS_forRangeN {β : Type} {b : Nat} {f : Nat → β → StateT SortSt Sem (ForInStep β)} (I : Nat → β → SortSt → Prop) {Q : β → SortSt → Prop}
    (hstep : ∀ F, F = f → ∀ i c st, 0 ≤ i → i < b → I i c st → wpS (model prog w) A E s (F i c) (fun r st' => match r with | .done c' => Q c' st' | .yield c' => I (i + 1) c' st') st)
    (hend : ∀ c st, I b c st → Q c st) {c : β} {st : SortSt} (h : I 0 c st) : wpS (model prog w) A E s (forIn [0:b] c f) Q st := wpS_forRange I (hstep f rfl) (Nat.zero_max b ▸ hend) h
theorem wpS_forRangeA {β : Type} {a b : Nat} {f : Nat → β → StateT SortSt Sem (ForInStep β)} (I : Nat → β → SortSt → Prop) {Q : β → SortSt → Prop}
    (hstep : ∀ F, F = f → ∀ i c st, a ≤ i → i < b → I i c st → wpS (model prog w) A E s (F i c) (fun r st' => match r with | .done c' => Q c' st' | .yield c' => I (i + 1) c' st') st)
    (hab : a ≤ b) (hend : ∀ c st, I b c st → Q c st) {c : β} {st : SortSt} (h : I a c st) : wpS (model prog w) A E s (forIn [a:b] c f) Q st := wpS_forRange I (hstep f rfl) (fun c st hh => hend c st (by rwa [Nat.max_eq_right hab] at hh)) h
theorem wpS_bindN {α β : Type} {t : StateT SortSt Sem α} {f : α → StateT SortSt Sem β} {Q : β → SortSt → Prop} {st : SortSt} (h : ∀ k, k = f → wpS (model prog w) A E s t (fun v st' => wpS (model prog w) A E s (k v) Q st') st) : wpS (model prog w) A E s (t >>= f) Q st := wpS_bind (h f rfl)
theorem wpS_elem {st : SortSt} {arr : Array Keyed} {i : Nat} {Q : Keyed → SortSt → Prop} (hi : i < arr.size) (h : Q arr[i] st) : wpS (model prog w) A E s (elem' arr i) Q st := by
  rw [elem'_eq, getElem?_pos arr i hi]
  exact wpS_pure h
theorem wpS_lt {st : SortSt} {p q : Keyed} {Q : Option Bool → SortSt → Prop} (hk : kindOf st = oneType') (hp : IsK p) (hq : IsK q) (h : Q (some (decide (keyN p < keyN q))) st) : wpS (model prog w) A E s (lt' p q) Q st := by
  obtain ⟨a, t, ha⟩ := hp
  obtain ⟨b, u, hb⟩ := hq
  unfold keyN at h
  rw [ha, hb] at h
  rw [lt'_eq]
  refine wpS_bind (wpS_get ?_)
  rw [hk, keyLt'_oneType, ha, hb]
  refine wpS_bind (wpS_lift (wpAny_attempt (oneLt_int ⟨rfl, ?_⟩)))
  exact wpS_pure h
theorem wpS_beyond {st : SortSt} {left : Bool} {key : Keyed} {arr : Array Keyed} {base i : Nat} {Q : Option Bool → SortSt → Prop} (hk : kindOf st = oneType') (hkey : IsK key) (ha : ∀ p ∈ arr.toList, IsK p) (hi : base + i < arr.size) (h : Q (some (bkP left key arr[base + i])) st) :
    wpS (model prog w) A E s (beyond' left key arr base i) Q st := by
  unfold beyond'
  refine wpS_bind (wpS_elem hi ?_)
  have hx : IsK arr[base + i] := ha _ (by simp)
  cases left with
  | true => exact wpS_lt hk hx hkey h
  | false =>
    refine wpS_bind (wpS_lt hk hkey hx (wpS_pure ?_))
    have e : (!decide (keyN key < keyN arr[base + i])) = bkP false key arr[base + i] := by
      unfold bkP
      by_cases h1 : keyN key < keyN arr[base + i]
      · have h2 : ¬ keyN arr[base + i] ≤ keyN key := by omega
        simp [h1, h2]
      · have h2 : keyN arr[base + i] ≤ keyN key := by omega
        simp [h1, h2]
    show Q (some (!decide (keyN key < keyN arr[base + i]))) st
    rw [e]
    exact h
noncomputable abbrev GR (P : Nat → Bool) (n hint : Nat) (st : SortSt) {γ : Type} (x : Nat) (c : Option γ × Nat × Nat) (st' : SortSt) : Prop := st' = st ∧ ∃ l o, c = (none, l, o) ∧ hint + l < n ∧ P (hint + l) = true ∧ l < o ∧ x + 1 ≤ o
noncomputable abbrev GRq (P : Nat → Bool) (n hint : Nat) (st : SortSt) {γ : Type} (c : Option γ × Nat × Nat) (st' : SortSt) : Prop := st' = st ∧ ∃ l o, c = (none, l, o) ∧ hint + l < n ∧ P (hint + l) = true ∧ l < o ∧ (n - hint ≤ o ∨ P (hint + o) = false)
noncomputable abbrev GL (P : Nat → Bool) (hint : Nat) (st : SortSt) {γ : Type} (x : Nat) (c : Option γ × Nat × Nat) (st' : SortSt) : Prop := st' = st ∧ ∃ l o, c = (none, l, o) ∧ l ≤ hint ∧ P (hint - l) = false ∧ l < o ∧ x + 1 ≤ o
noncomputable abbrev GLq (P : Nat → Bool) (hint : Nat) (st : SortSt) {γ : Type} (c : Option γ × Nat × Nat) (st' : SortSt) : Prop := st' = st ∧ ∃ l o, c = (none, l, o) ∧ l ≤ hint ∧ P (hint - l) = false ∧ l < o ∧ (hint + 1 ≤ o ∨ P (hint - o) = true)
noncomputable abbrev GB (P : Nat → Bool) (n : Nat) (st : SortSt) {γ : Type} (x : Nat) (c : Option γ × Nat × Nat) (st' : SortSt) : Prop := st' = st ∧ ∃ lo hi, c = (none, lo, hi) ∧ lo ≤ hi ∧ hi ≤ n ∧ hi - lo + x ≤ n ∧ (∀ i, i < lo → P i = true) ∧ (∀ i, hi ≤ i → i < n → P i = false)
noncomputable abbrev GBq (P : Nat → Bool) (n : Nat) (st : SortSt) {γ : Type} (c : Option γ × Nat × Nat) (st' : SortSt) : Prop := st' = st ∧ ∃ lo hi, c = (none, lo, hi) ∧ lo ≤ hi ∧ hi ≤ n ∧ hi ≤ lo ∧ (∀ i, i < lo → P i = true) ∧ (∀ i, hi ≤ i → i < n → P i = false)
theorem wpS_gallop {st : SortSt} {left : Bool} {key : Keyed} {arr : Array Keyed} {base n hint : Nat} {Q : Option Nat → SortSt → Prop} (hk : kindOf st = oneType') (hkey : IsK key) (ha : ∀ p ∈ arr.toList, IsK p) (hn : base + n ≤ arr.size) (hh : hint < n)
    (hs : ((arr.toList.drop base).take n).Pairwise kle)
    (h : ∀ k, k ≤ n → (∀ x ∈ ((arr.toList.drop base).take n).take k, bkP left key x = true) → (∀ x ∈ ((arr.toList.drop base).take n).drop k, bkP left key x = false) → Q (some k) st) :
    wpS (model prog w) A E s (gallop' left key arr base n hint) Q st := by
  obtain ⟨P, hP⟩ : ∃ P : Nat → Bool, ∀ i, i < n → ∀ Q : Option Bool → SortSt → Prop, Q (some (P i)) st → wpS (model prog w) A E s (beyond' left key arr base i) Q st ∧ ∃ hi : base + i < arr.size, P i = bkP left key arr[base + i] := by
    refine ⟨fun i => if hi : base + i < arr.size then bkP left key arr[base + i] else false, fun i hi Q hQ => ?_⟩
    have hi' : base + i < arr.size := n_lt hi hn
    dsimp only at hQ
    rw [dif_pos hi'] at hQ
    exact ⟨wpS_beyond hk hkey ha hi' hQ, hi', by dsimp only; rw [dif_pos hi']⟩
  have hval : ∀ i, i < n → ∃ hi : base + i < arr.size, P i = bkP left key arr[base + i] := fun i hi => (hP i hi (fun _ _ => True) trivial).2
  have hlen : ((arr.toList.drop base).take n).length = n := by
    rw [List.length_take, List.length_drop, Array.length_toList]; exact Nat.min_eq_left (Nat.le_sub_of_add_le (by rw [Nat.add_comm]; exact hn))
  have hget : ∀ i (hi : i < n), ((arr.toList.drop base).take n)[i]'(by rw [hlen]; exact hi) = arr[base + i]'(n_lt hi hn) := by
    intro i hi
    rw [List.getElem_take, List.getElem_drop, Array.getElem_toList]
  have mono : ∀ i j, i ≤ j → j < n → P j = true → P i = true := by
    intro i j hij hj hPj
    obtain ⟨hi1, e1⟩ := hval i (Nat.lt_of_le_of_lt hij hj)
    obtain ⟨hj1, e2⟩ := hval j hj
    by_cases hne : i = j
    · subst hne; exact hPj
    · have := List.pairwise_iff_getElem.mp hs i j (by rw [hlen]; exact Nat.lt_of_le_of_lt hij hj) (by rw [hlen]; exact hj) (Nat.lt_of_le_of_ne hij hne)
      rw [hget i (Nat.lt_of_le_of_lt hij hj), hget j hj] at this
      unfold kle at this
      rw [e1]
      rw [e2] at hPj
      unfold bkP at hPj ⊢
      cases left with
      | true =>
        simp only [if_true, decide_eq_true_eq] at hPj ⊢
        exact Int.lt_of_le_of_lt this hPj
      | false =>
        simp only [Bool.false_eq_true, if_false, decide_eq_true_eq] at hPj ⊢
        exact Int.le_trans this hPj
  have fin : ∀ k, k ≤ n → (∀ i, i < k → P i = true) → (∀ i, k ≤ i → i < n → P i = false) → Q (some k) st := by
    intro k hk1 h1 h2
    refine h k hk1 ?_ ?_
    · intro x hx
      obtain ⟨i, hi, rfl⟩ := List.getElem_of_mem hx
      have hik : i < k := by rw [List.length_take, hlen] at hi; exact Nat.lt_of_lt_of_le hi (Nat.min_le_left _ _)
      rw [List.getElem_take, hget i (Nat.lt_of_lt_of_le hik hk1)]
      obtain ⟨_, e⟩ := hval i (Nat.lt_of_lt_of_le hik hk1)
      rw [← e]
      exact h1 i hik
    · intro x hx
      obtain ⟨i, hi, rfl⟩ := List.getElem_of_mem hx
      have hik : k + i < n := by rw [List.length_drop, hlen] at hi; exact Nat.add_lt_of_lt_sub' hi
      rw [List.getElem_drop, hget (k + i) hik]
      obtain ⟨_, e⟩ := hval (k + i) hik
      rw [← e]
      exact h2 (k + i) (Nat.le_add_right k i) hik
  have ask : ∀ i, i < n → ∀ Q : Option Bool → SortSt → Prop, Q (some (P i)) st → wpS (model prog w) A E s (beyond' left key arr base i) Q st := fun i hi Q hQ => (hP i hi Q hQ).1
  clear hP hval hget hs h
  refine wpS_bind (ask hint hh _ ?_)
  (try dsimp only)
  by_cases hr : P hint = true
  · rw [if_pos hr]
    refine wpS_bindN (fun kk hkk => wpS_mono (wpS_forRangeN (I := GR P n hint st)
      (Q := GRq P n hint st) ?step ?fin ⟨rfl, 0, 1, rfl, hh, hr, Nat.zero_lt_one, Nat.le_refl 1⟩) ?post)
    case fin =>
      rintro c st' ⟨rfl, l, o, rfl, h1, h2, h3, h4⟩
      exact ⟨rfl, l, o, rfl, h1, h2, h3, .inl (Nat.le_trans (Nat.sub_le n hint) (Nat.le_of_succ_le h4))⟩
    case step =>
      rintro FF hFF x c st' - hx ⟨rfl, l, o, rfl, h1, h2, h3, h4⟩
      all_goals subst hFF
      all_goals (try dsimp only)
      (try dsimp only)
      by_cases ho : o ≥ n - hint
      · rw [if_pos ho]
        exact wpS_pure ⟨rfl, l, o, rfl, h1, h2, h3, .inl ho⟩
      · rw [if_neg ho]
        refine wpS_bind (ask (hint + o) (Nat.add_lt_of_lt_sub' (Nat.lt_of_not_le ho)) _ ?_)
        (try dsimp only)
        by_cases hp : P (hint + o) = true
        · rw [hp]
          simp only [Bool.not_true, Bool.false_eq_true, if_false]
          exact wpS_pure ⟨rfl, o, 2 * o + 1, rfl, Nat.add_lt_of_lt_sub' (Nat.lt_of_not_le ho), hp, Nat.lt_succ_of_le n_2o, Nat.succ_le_succ (Nat.le_trans h4 n_2o)⟩
        · rw [Bool.not_eq_true] at hp
          rw [hp]
          simp only [Bool.not_false, if_true]
          exact wpS_pure ⟨rfl, l, o, rfl, h1, h2, h3, .inr hp⟩
    case post =>
      rintro c st' ⟨rfl, l, o, rfl, h1, h2, h3, h4⟩
      all_goals subst hkk
      all_goals (try dsimp only)
      (try dsimp only)
      refine wpS_bindN (fun kk hkk => wpS_mono (wpS_forRangeN (I := GB P n st')
        (Q := GBq P n st') ?st2 ?fi2 ⟨rfl, hint + l + 1, hint + min o (n - hint), rfl, n_min h3 h1, n_min2 hh, n_sub0 (n_min2 hh), ?lo2, ?hi2⟩) ?po2)
      case lo2 => exact fun i hi => mono i (hint + l) (Nat.le_of_lt_succ hi) h1 h2
      case hi2 =>
        intro i hi1 hi2
        rcases h4 with h4 | h4
        · exact (n_min4 hh hi1 hi2 h4).elim
        · by_cases hf : P i = true
          · have := mono (hint + o) i (n_min3 hh hi1 hi2) hi2 hf
            rw [h4] at this; cases this
          · exact Bool.not_eq_true _ ▸ hf
      case fi2 =>
        rintro c st'' ⟨rfl, lo, hi, rfl, g1, g2, g3, g4, g5⟩
        exact ⟨rfl, lo, hi, rfl, g1, g2, n_end g3, g4, g5⟩
      case st2 =>
        rintro FF hFF x c st'' - hx ⟨rfl, lo, hi, rfl, g1, g2, g3, g4, g5⟩
        all_goals subst hFF
        all_goals (try dsimp only)
        (try dsimp only)
        by_cases hge : lo ≥ hi
        · rw [if_pos hge]
          exact wpS_pure ⟨rfl, lo, hi, rfl, g1, g2, hge, g4, g5⟩
        · rw [if_neg hge]
          refine wpS_bind (ask (lo + (hi - lo) / 2) (n_half hge g2) _ ?_)
          (try dsimp only)
          by_cases hp : P (lo + (hi - lo) / 2) = true
          · rw [if_pos hp]
            exact wpS_pure ⟨rfl, lo + (hi - lo) / 2 + 1, hi, rfl, n_mid hge, g2, n_midr g3 hge, fun i hi' => mono i _ (Nat.le_of_lt_succ hi') (n_half hge g2) hp, g5⟩
          · rw [if_neg hp]
            refine wpS_pure ⟨rfl, lo, lo + (hi - lo) / 2, rfl, Nat.le_add_right _ _, Nat.le_of_lt (n_half hge g2), n_midl g3 hge, g4, fun i h1' h2' => ?_⟩
            by_cases hf : P i = true
            · exact absurd (mono _ i h1' h2' hf) hp
            · exact Bool.not_eq_true _ ▸ hf
      case po2 =>
        rintro c st'' ⟨rfl, lo, hi, rfl, g1, g2, g3, g4, g5⟩
        all_goals subst hkk
        all_goals (try dsimp only)
        (try dsimp only)
        obtain rfl : lo = hi := Nat.le_antisymm g1 g3
        exact wpS_pure (fin lo g2 g4 g5)
  · rw [if_neg hr]
    have hr' : P hint = false := Bool.not_eq_true _ ▸ hr
    refine wpS_bindN (fun kk hkk => wpS_mono (wpS_forRangeN (I := GL P hint st)
      (Q := GLq P hint st) ?step ?fin ⟨rfl, 0, 1, rfl, Nat.zero_le _, hr', Nat.zero_lt_one, Nat.le_refl 1⟩) ?post)
    case fin =>
      rintro c st' ⟨rfl, l, o, rfl, h1, h2, h3, h4⟩
      exact ⟨rfl, l, o, rfl, h1, h2, h3, .inl (Nat.le_trans (Nat.succ_le_succ (Nat.le_of_lt hh)) h4)⟩
    case step =>
      rintro FF hFF x c st' - hx ⟨rfl, l, o, rfl, h1, h2, h3, h4⟩
      all_goals subst hFF
      all_goals (try dsimp only)
      (try dsimp only)
      by_cases ho : o ≥ hint + 1
      · rw [if_pos ho]
        exact wpS_pure ⟨rfl, l, o, rfl, h1, h2, h3, .inl ho⟩
      · rw [if_neg ho]
        refine wpS_bind (ask (hint - o) (Nat.lt_of_le_of_lt (Nat.sub_le hint o) hh) _ ?_)
        (try dsimp only)
        by_cases hp : P (hint - o) = true
        · rw [if_pos hp]
          exact wpS_pure ⟨rfl, l, o, rfl, h1, h2, h3, .inr hp⟩
        · rw [if_neg hp]
          exact wpS_pure ⟨rfl, o, 2 * o + 1, rfl, Nat.le_of_lt_succ (Nat.lt_of_not_le ho), Bool.not_eq_true _ ▸ hp, Nat.lt_succ_of_le n_2o, Nat.succ_le_succ (Nat.le_trans h4 n_2o)⟩
    case post =>
      rintro c st' ⟨rfl, l, o, rfl, h1, h2, h3, h4⟩
      all_goals subst hkk
      all_goals (try dsimp only)
      (try dsimp only)
      refine wpS_bindN (fun kk hkk => wpS_mono (wpS_forRangeN (I := GB P n st')
        (Q := GBq P n st') ?st2 ?fi2 ⟨rfl, hint + 1 - min o (hint + 1), hint - l, rfl, n_min7 h1 h3, Nat.le_trans (Nat.sub_le _ _) (Nat.le_of_lt hh), n_sub0 (Nat.le_trans (Nat.sub_le _ _) (Nat.le_of_lt hh)), ?lo2, ?hi2⟩) ?po2)
      case lo2 =>
        intro i hi
        rcases h4 with h4 | h4
        · exact (n_min6 hi h4).elim
        · exact mono i (hint - o) (n_min5 hi) (Nat.lt_of_le_of_lt (Nat.sub_le hint o) hh) h4
      case hi2 =>
        intro i hi1 hi2
        by_cases hf : P i = true
        · have := mono (hint - l) i hi1 hi2 hf
          rw [h2] at this; cases this
        · exact Bool.not_eq_true _ ▸ hf
      case fi2 =>
        rintro c st'' ⟨rfl, lo, hi, rfl, g1, g2, g3, g4, g5⟩
        exact ⟨rfl, lo, hi, rfl, g1, g2, n_end g3, g4, g5⟩
      case st2 =>
        rintro FF hFF x c st'' - hx ⟨rfl, lo, hi, rfl, g1, g2, g3, g4, g5⟩
        all_goals subst hFF
        all_goals (try dsimp only)
        (try dsimp only)
        by_cases hge : lo ≥ hi
        · rw [if_pos hge]
          exact wpS_pure ⟨rfl, lo, hi, rfl, g1, g2, hge, g4, g5⟩
        · rw [if_neg hge]
          refine wpS_bind (ask (lo + (hi - lo) / 2) (n_half hge g2) _ ?_)
          (try dsimp only)
          by_cases hp : P (lo + (hi - lo) / 2) = true
          · rw [if_pos hp]
            exact wpS_pure ⟨rfl, lo + (hi - lo) / 2 + 1, hi, rfl, n_mid hge, g2, n_midr g3 hge, fun i hi' => mono i _ (Nat.le_of_lt_succ hi') (n_half hge g2) hp, g5⟩
          · rw [if_neg hp]
            refine wpS_pure ⟨rfl, lo, lo + (hi - lo) / 2, rfl, Nat.le_add_right _ _, Nat.le_of_lt (n_half hge g2), n_midl g3 hge, g4, fun i h1' h2' => ?_⟩
            by_cases hf : P i = true
            · exact absurd (mono _ i h1' h2' hf) hp
            · exact Bool.not_eq_true _ ▸ hf
      case po2 =>
        rintro c st'' ⟨rfl, lo, hi, rfl, g1, g2, g3, g4, g5⟩
        all_goals subst hkk
        all_goals (try dsimp only)
        (try dsimp only)
        obtain rfl : lo = hi := Nat.le_antisymm g1 g3
        exact wpS_pure (fin lo g2 g4 g5)
end
/-! S2 -/
structure MI (R : Keyed → Keyed → Prop) (tot o rA rB : List Keyed) : Prop where
  perm : (o ++ rA ++ rB).Perm tot
  so : o.Pairwise R
  sa : rA.Pairwise R
  sb : rB.Pairwise R
  ca : ∀ x ∈ o, ∀ y ∈ rA, R x y
  cb : ∀ x ∈ o, ∀ y ∈ rB, R x y
section
variable {R : Keyed → Keyed → Prop} {tot o rA rB p : List Keyed}
theorem MI.moveA (h : MI R tot o (p ++ rA) rB) (hp : ∀ x ∈ p, ∀ y ∈ rB, R x y) : MI R tot (o ++ p) rA rB := by
  obtain ⟨h1, h2, h3, h4, h5, h6⟩ := h
  rw [List.pairwise_append] at h3
  refine ⟨by rw [List.append_assoc o p rA]; exact h1, List.pairwise_append.mpr ⟨h2, h3.1, fun x hx y hy => h5 x hx y (List.mem_append.mpr (.inl hy))⟩, h3.2.1, h4, ?_, ?_⟩
  · intro x hx y hy
    rcases List.mem_append.mp hx with hx | hx
    · exact h5 x hx y (List.mem_append.mpr (.inr hy))
    · exact h3.2.2 x hx y hy
  · intro x hx y hy
    rcases List.mem_append.mp hx with hx | hx
    · exact h6 x hx y hy
    · exact hp x hx y hy
theorem MI.moveB (h : MI R tot o rA (p ++ rB)) (hp : ∀ x ∈ p, ∀ y ∈ rA, R x y) : MI R tot (o ++ p) rA rB := by
  obtain ⟨h1, h2, h3, h4, h5, h6⟩ := h
  rw [List.pairwise_append] at h4
  refine ⟨List.Perm.trans ?_ h1, List.pairwise_append.mpr ⟨h2, h4.1, fun x hx y hy => h6 x hx y (List.mem_append.mpr (.inl hy))⟩, h3, h4.2.1, ?_, ?_⟩
  · rw [List.append_assoc, List.append_assoc, List.append_assoc]
    refine List.Perm.append_left o ?_
    rw [← List.append_assoc, ← List.append_assoc]
    exact List.Perm.append_right rB List.perm_append_comm
  · intro x hx y hy
    rcases List.mem_append.mp hx with hx | hx
    · exact h5 x hx y hy
    · exact hp x hx y hy
  · intro x hx y hy
    rcases List.mem_append.mp hx with hx | hx
    · exact h6 x hx y (List.mem_append.mpr (.inr hy))
    · exact h4.2.2 x hx y hy
theorem MI.endA (h : MI R tot o rA []) : (o ++ rA).Perm tot ∧ (o ++ rA).Pairwise R :=
  ⟨by have := h.perm; rwa [List.append_nil] at this, List.pairwise_append.mpr ⟨h.so, h.sa, h.ca⟩⟩
theorem MI.endB (h : MI R tot o [] rB) : (o ++ rB).Perm tot ∧ (o ++ rB).Pairwise R :=
  ⟨by have := h.perm; rwa [List.append_nil] at this, List.pairwise_append.mpr ⟨h.so, h.sb, h.cb⟩⟩
theorem MI.endBA (h : MI R tot o rA rB) (hl : ∀ x ∈ rB, ∀ y ∈ rA, R x y) : (o ++ rB ++ rA).Perm tot ∧ (o ++ rB ++ rA).Pairwise R := by
  have h1 : MI R tot o rA (rB ++ []) := by rw [List.append_nil]; exact h
  exact (h1.moveB hl).endA
theorem MI.endAB (h : MI R tot o rA rB) (hl : ∀ x ∈ rA, ∀ y ∈ rB, R x y) : (o ++ rA ++ rB).Perm tot ∧ (o ++ rA ++ rB).Pairwise R := by
  have h1 : MI R tot o (rA ++ []) rB := by rw [List.append_nil]; exact h
  exact (h1.moveA hl).endB
end
structure Same (st₀ st : SortSt) : Prop where
  kind : kindOf st = kindOf st₀
  arr : arrOf st = arrOf st₀
  pend : pendingOf st = pendingOf st₀
  failed : failedOf st = failedOf st₀
theorem drop_cons {l : List Keyed} {a : Array Keyed} {i : Nat} (e : l = a.toList) (h : i < a.size) : l.drop i = a[i] :: l.drop (i + 1) := by
  subst e
  rw [List.drop_eq_getElem_cons (by rw [Array.length_toList]; exact h), Array.getElem_toList]
structure LoI (st₀ : SortSt) (a b out : Array Keyed) (ia ib : Nat) (st : SortSt) : Prop where
  same : Same st₀ st
  la : ia + 1 < a.size
  lb : ib < b.size
  mi : MI kle (a.toList ++ b.toList) out.toList (a.toList.drop ia) (b.toList.drop ib)
structure Merged (R : Keyed → Keyed → Prop) (st₀ : SortSt) (tot : List Keyed) (r : List Keyed) (st : SortSt) : Prop where
  same : Same st₀ st
  perm : r.Perm tot
  sorted : r.Pairwise R
section
variable {st₀ st : SortSt} {a b out : Array Keyed} {ia ib : Nat}
noncomputable def loDone (a b out : Array Keyed) (ia ib : Nat) : Array Keyed := out ++ a.extract ia a.size ++ b.extract ib b.size
noncomputable def loLast (a b out : Array Keyed) (ia ib : Nat) : Array Keyed := out ++ b.extract ib b.size ++ a.extract ia a.size
theorem ext_drop (a : Array Keyed) (i : Nat) : (a.extract i a.size).toList = a.toList.drop i := by
  rw [Array.toList_extract, List.extract_eq_take_drop, List.take_of_length_le (by rw [List.length_drop, Array.length_toList]; exact Nat.le_refl _)]
theorem loDone_list : (loDone a b out ia ib).toList = out.toList ++ a.toList.drop ia ++ b.toList.drop ib := by
  unfold loDone; rw [Array.toList_append, Array.toList_append, ext_drop, ext_drop]
theorem loLast_list : (loLast a b out ia ib).toList = out.toList ++ b.toList.drop ib ++ a.toList.drop ia := by
  unfold loLast; rw [Array.toList_append, Array.toList_append, ext_drop, ext_drop]
noncomputable abbrev LoG (st₀ : SortSt) (a b : Array Keyed) (r : Array Keyed) (st : SortSt) : Prop := Merged kle st₀ (a.toList ++ b.toList) r.toList st
theorem lo_doneB (hS : Same st₀ st) (hib : ib = b.size) (h : MI kle (a.toList ++ b.toList) out.toList (a.toList.drop ia) (b.toList.drop ib)) : LoG st₀ a b (loDone a b out ia ib) st := by
  have e : b.toList.drop ib = [] := List.drop_eq_nil_of_le (by rw [Array.length_toList]; exact Nat.le_of_eq hib.symm)
  rw [e] at h
  obtain ⟨h1, h2⟩ := h.endA
  have e2 := loDone_list (a := a) (b := b) (out := out) (ia := ia) (ib := ib)
  rw [e, List.append_nil] at e2
  exact ⟨hS, by rw [e2]; exact h1, by rw [e2]; exact h2⟩
theorem lo_doneA (hS : Same st₀ st) (hia : ia = a.size) (h : MI kle (a.toList ++ b.toList) out.toList (a.toList.drop ia) (b.toList.drop ib)) : LoG st₀ a b (loDone a b out ia ib) st := by
  have e : a.toList.drop ia = [] := List.drop_eq_nil_of_le (by rw [Array.length_toList]; exact Nat.le_of_eq hia.symm)
  rw [e] at h
  obtain ⟨h1, h2⟩ := h.endB
  have e2 := loDone_list (a := a) (b := b) (out := out) (ia := ia) (ib := ib)
  rw [e, List.append_nil] at e2
  exact ⟨hS, by rw [e2]; exact h1, by rw [e2]; exact h2⟩
theorem lo_last (hS : Same st₀ st) (hl : ∀ y ∈ b.toList, ∀ x ∈ a.toList.drop (a.size - 1), kle y x) (hia : ia + 1 = a.size) (h : MI kle (a.toList ++ b.toList) out.toList (a.toList.drop ia) (b.toList.drop ib)) : LoG st₀ a b (loLast a b out ia ib) st := by
  obtain ⟨h1, h2⟩ := h.endBA (fun x hx y hy => hl x (List.mem_of_mem_drop hx) y (by rw [Nat.sub_eq_of_eq_add hia.symm]; exact hy))
  exact ⟨hS, by rw [loLast_list]; exact h1, by rw [loLast_list]; exact h2⟩
theorem lo_pushB (hlb : ib < b.size) (h : MI kle (a.toList ++ b.toList) out.toList (a.toList.drop ia) (b.toList.drop ib)) (hx : ∀ y ∈ a.toList.drop ia, kle b[ib] y) : MI kle (a.toList ++ b.toList) (out.push b[ib]).toList (a.toList.drop ia) (b.toList.drop (ib + 1)) := by
  rw [drop_cons rfl hlb] at h
  rw [Array.toList_push]
  exact MI.moveB (p := [b[ib]]) h (fun x hx' => by rw [List.mem_singleton.mp hx']; exact hx)
theorem lo_pushA (hla : ia < a.size) (h : MI kle (a.toList ++ b.toList) out.toList (a.toList.drop ia) (b.toList.drop ib)) (hx : ∀ y ∈ b.toList.drop ib, kle a[ia] y) : MI kle (a.toList ++ b.toList) (out.push a[ia]).toList (a.toList.drop (ia + 1)) (b.toList.drop ib) := by
  rw [drop_cons rfl hla] at h
  rw [Array.toList_push]
  exact MI.moveA (p := [a[ia]]) h (fun x hx' => by rw [List.mem_singleton.mp hx']; exact hx)
theorem ext_take (a : Array Keyed) (i k : Nat) : (a.extract i (i + k)).toList = (a.toList.drop i).take k := by
  rw [Array.toList_extract, List.extract_eq_take_drop, Nat.add_sub_cancel_left]
theorem lo_takeA {k : Nat} (h : MI kle (a.toList ++ b.toList) out.toList (a.toList.drop ia) (b.toList.drop ib)) (hx : ∀ x ∈ (a.toList.drop ia).take k, ∀ y ∈ b.toList.drop ib, kle x y) : MI kle (a.toList ++ b.toList) (out ++ a.extract ia (ia + k)).toList (a.toList.drop (ia + k)) (b.toList.drop ib) := by
  rw [Array.toList_append, ext_take, ← List.drop_drop]
  rw [← List.take_append_drop k (a.toList.drop ia)] at h
  exact h.moveA hx
theorem lo_takeB {k : Nat} (h : MI kle (a.toList ++ b.toList) out.toList (a.toList.drop ia) (b.toList.drop ib)) (hx : ∀ x ∈ (b.toList.drop ib).take k, ∀ y ∈ a.toList.drop ia, kle x y) : MI kle (a.toList ++ b.toList) (out ++ b.extract ib (ib + k)).toList (a.toList.drop ia) (b.toList.drop (ib + k)) := by
  rw [Array.toList_append, ext_take, ← List.drop_drop]
  rw [← List.take_append_drop k (b.toList.drop ib)] at h
  exact h.moveB hx
theorem head_le {l : List Keyed} (h : l.Pairwise kle) (a : Array Keyed) (i : Nat) (e : l = a.toList.drop i) (hi : i < a.size) : ∀ y ∈ l, kle a[i] y := by
  subst e
  rw [drop_cons rfl hi] at h ⊢
  intro y hy
  rcases List.mem_cons.mp hy with rfl | hy
  · exact Int.le_refl _
  · exact List.rel_of_pairwise_cons h hy
end
section
variable {prog : Program} {w : World} {A : Around} {E : Value → Shared → Prop} {s : Shared}
theorem kle_trans {x y z : Keyed} (h1 : kle x y) (h2 : kle y z) : kle x z := Int.le_trans h1 h2
theorem Same.setG {st₀ st : SortSt} (h : Same st₀ st) (g : Nat) : Same st₀ (SortSt.mk' (kindOf st) (arrOf st) (pendingOf st) g (failedOf st)) := ⟨h.kind, h.arr, h.pend, h.failed⟩
theorem wpS_setG {st : SortSt} {g : Nat} {Q : Unit → SortSt → Prop} (h : Q () (SortSt.mk' (kindOf st) (arrOf st) (pendingOf st) g (failedOf st))) : wpS (model prog w) A E s (setMinGallop' g) Q st := by
  rw [setMinGallop'_eq]; exact wpS_modify h
noncomputable abbrev LoC := Option (Array Keyed) × Array Keyed × Nat × Nat × Nat × Nat × Nat
noncomputable def loTail2 (a b : Array Keyed) (mg ac bc : Nat) (out : Array Keyed) (ia ib : Nat) : StateT SortSt Sem (ForInStep LoC) := do
  let x ← elem' a ia
  if (ia + 1 + 1 == a.size) = true then pure (ForInStep.done (some (loLast a b (out.push x) (ia + 1) ib), out.push x, ia + 1, ib, mg, ac, bc))
  else if (decide (ac < 7) && decide (bc < 7)) = true then pure (ForInStep.done (none, out.push x, ia + 1, ib, mg, ac, bc))
  else pure (ForInStep.yield (none, out.push x, ia + 1, ib, mg, ac, bc))
noncomputable def loTail1 (a b : Array Keyed) (mg ac bc : Nat) (out : Array Keyed) (ia ib : Nat) : StateT SortSt Sem (ForInStep LoC) := do
  let x ← elem' b ib
  if (ib + 1 == b.size) = true then pure (ForInStep.done (some (loDone a b (out.push x) ia (ib + 1)), out.push x, ia, ib + 1, mg, ac, bc))
  else do
    let y ← elem' a ia
    let r ← gallop' true y b (ib + 1) (b.size - (ib + 1)) 0
    match r with
    | some k =>
      if k > 0 then
        if (ib + 1 + k == b.size) = true then pure (ForInStep.done (some (loDone a b (out.push x ++ b.extract (ib + 1) (ib + 1 + k)) ia (ib + 1 + k)), out.push x ++ b.extract (ib + 1) (ib + 1 + k), ia, ib + 1 + k, mg, ac, k))
        else loTail2 a b mg ac k (out.push x ++ b.extract (ib + 1) (ib + 1 + k)) ia (ib + 1 + k)
      else loTail2 a b mg ac k (out.push x) ia (ib + 1)
    | _ => pure (ForInStep.done (some (loDone a b (out.push x) ia (ib + 1)), out.push x, ia, ib + 1, mg, ac, bc))
noncomputable def loHead (a b : Array Keyed) (mg ac bc : Nat) (out : Array Keyed) (ia ib : Nat) : StateT SortSt Sem (ForInStep LoC) := do
  setMinGallop' mg
  let y ← elem' b ib
  let r ← gallop' false y a ia (a.size - ia) 0
  match r with
  | some k =>
    if k > 0 then
      if (ia + k + 1 == a.size) = true then pure (ForInStep.done (some (loLast a b (out ++ a.extract ia (ia + k)) (ia + k) ib), out ++ a.extract ia (ia + k), ia + k, ib, mg, k, bc))
      else if (ia + k == a.size) = true then pure (ForInStep.done (some (loDone a b (out ++ a.extract ia (ia + k)) (ia + k) ib), out ++ a.extract ia (ia + k), ia + k, ib, mg, k, bc))
      else loTail1 a b mg k bc (out ++ a.extract ia (ia + k)) (ia + k) ib
    else loTail1 a b mg k bc out ia ib
  | _ => pure (ForInStep.done (some (loDone a b out ia ib), out, ia, ib, mg, ac, bc))
noncomputable def LoY (st₀ : SortSt) (a b : Array Keyed) (m : Nat) (c : LoC) (st : SortSt) : Prop :=
  ∃ o' ka kb mg ac bc, c = (none, o', ka, kb, mg, ac, bc) ∧ LoI st₀ a b o' ka kb st ∧ (a.size - ka) + (b.size - kb) ≤ m
noncomputable def LoD (st₀ : SortSt) (a b : Array Keyed) (m : Nat) (c : LoC) (st : SortSt) : Prop :=
  LoY st₀ a b m c st ∨ (∃ r c', c = (some r, c') ∧ LoG st₀ a b r st)
noncomputable def LoP (st₀ : SortSt) (a b : Array Keyed) (m : Nat) (r : ForInStep LoC) (st : SortSt) : Prop :=
  match r with | .done c => LoD st₀ a b m c st | .yield c => LoY st₀ a b m c st
theorem bk_true {key x : Keyed} (h : bkP true key x = true) : keyN x < keyN key := by simpa [bkP] using h
theorem bk_true' {key x : Keyed} (h : bkP true key x = false) : keyN key ≤ keyN x := by simpa [bkP] using h
theorem bk_false {key x : Keyed} (h : bkP false key x = true) : keyN x ≤ keyN key := by simpa [bkP] using h
theorem bk_false' {key x : Keyed} (h : bkP false key x = false) : keyN key < keyN x := by simpa [bkP] using h
theorem take_rest (a : Array Keyed) (i : Nat) : (a.toList.drop i).take (a.size - i) = a.toList.drop i := List.take_of_length_le (by rw [List.length_drop, Array.length_toList]; exact Nat.le_refl _)
theorem wpS_loTail2 {st₀ st : SortSt} {a b out : Array Keyed} {mg ac bc ia ib m : Nat} (hS : Same st₀ st) (hl : ∀ y ∈ b.toList, ∀ x ∈ a.toList.drop (a.size - 1), kle y x)
    (hla : ia + 1 < a.size) (hlb : ib < b.size) (mi : MI kle (a.toList ++ b.toList) out.toList (a.toList.drop ia) (b.toList.drop ib)) (hx : ∀ y ∈ b.toList.drop ib, kle a[ia] y) (hm : (a.size - (ia + 1)) + (b.size - ib) ≤ m) :
    wpS (model prog w) A E s (loTail2 a b mg ac bc out ia ib) (LoP st₀ a b m) st := by
  unfold loTail2
  refine wpS_bind (wpS_elem (Nat.lt_of_succ_lt hla) ?_)
  have mi2 := lo_pushA (Nat.lt_of_succ_lt hla) mi hx
  by_cases hae : ia + 1 + 1 = a.size
  · rw [if_pos (by simpa using hae)]
    exact wpS_pure (.inr ⟨_, _, rfl, lo_last hS hl hae mi2⟩)
  · rw [if_neg (by simpa using hae)]
    have hI2 : LoI st₀ a b (out.push a[ia]) (ia + 1) ib st := ⟨hS, Nat.lt_of_le_of_ne hla hae, hlb, mi2⟩
    split
    · exact wpS_pure (.inl ⟨_, _, _, _, _, _, rfl, hI2, hm⟩)
    · exact wpS_pure ⟨_, _, _, _, _, _, rfl, hI2, hm⟩
theorem wpS_loTail1 {st₀ st : SortSt} {a b out : Array Keyed} {mg ac bc ia ib m : Nat} (hk : kindOf st₀ = oneType') (ka : ∀ p ∈ a.toList, IsK p) (kb : ∀ p ∈ b.toList, IsK p) (hS : Same st₀ st) (hl : ∀ y ∈ b.toList, ∀ x ∈ a.toList.drop (a.size - 1), kle y x)
    (hla : ia + 1 < a.size) (hlb : ib < b.size) (mi : MI kle (a.toList ++ b.toList) out.toList (a.toList.drop ia) (b.toList.drop ib)) (hx : ∀ y ∈ a.toList.drop ia, kle b[ib] y) (hm : (a.size - ia) + (b.size - ib) ≤ m) :
    wpS (model prog w) A E s (loTail1 a b mg ac bc out ia ib) (LoP st₀ a b m) st := by
  unfold loTail1
  refine wpS_bind (wpS_elem hlb ?_)
  have mi2 := lo_pushB hlb mi hx
  have hia : ia < a.size := Nat.lt_of_succ_lt hla
  by_cases hbe : ib + 1 = b.size
  · rw [if_pos (by simpa using hbe)]
    exact wpS_pure (.inr ⟨_, _, rfl, lo_doneB hS hbe mi2⟩)
  · rw [if_neg (by simpa using hbe)]
    refine wpS_bind (wpS_elem hia (wpS_bind (wpS_gallop (hS.kind.trans hk) (ka _ (by simp)) kb (n_fill hlb) (Nat.sub_pos_of_lt (Nat.lt_of_le_of_ne hlb hbe)) (by rw [take_rest]; exact mi2.sb) ?_)))
    intro k hk1 hk2 hk3
    rw [take_rest] at hk2 hk3
    (try dsimp only)
    have hda := head_le mi2.sa a ia rfl hia
    have q3 : ∀ y ∈ b.toList.drop (ib + 1 + k), kle a[ia] y := by
      intro y hy
      rw [← List.drop_drop] at hy
      exact bk_true' (hk3 y hy)
    by_cases hk0 : k > 0
    · rw [if_pos hk0]
      have mi3 := lo_takeB (k := k) mi2 (fun x hx' y hy => Int.le_trans (Int.le_of_lt (bk_true (hk2 x hx'))) (hda y hy))
      by_cases hbe2 : ib + 1 + k = b.size
      · rw [if_pos (by simpa using hbe2)]
        exact wpS_pure (.inr ⟨_, _, rfl, lo_doneB hS hbe2 mi3⟩)
      · rw [if_neg (by simpa using hbe2)]
        exact wpS_loTail2 hS hl hla (n_fits hk1 hlb hbe2) mi3 q3 (n_mono hm (Nat.le_succ ia) (Nat.le_trans (Nat.le_succ ib) (Nat.le_add_right _ k)))
    · rw [if_neg hk0]
      obtain rfl : k = 0 := Nat.eq_zero_of_not_pos hk0
      exact wpS_loTail2 hS hl hla (Nat.lt_of_le_of_ne hlb hbe) mi2 q3 (n_mono hm (Nat.le_succ ia) (Nat.le_succ ib))
theorem wpS_loHead {st₀ st : SortSt} {a b out : Array Keyed} {mg ac bc ia ib m : Nat} (hk : kindOf st₀ = oneType') (ka : ∀ p ∈ a.toList, IsK p) (kb : ∀ p ∈ b.toList, IsK p) (hS : Same st₀ st) (hl : ∀ y ∈ b.toList, ∀ x ∈ a.toList.drop (a.size - 1), kle y x)
    (hla : ia + 1 < a.size) (hlb : ib < b.size) (mi : MI kle (a.toList ++ b.toList) out.toList (a.toList.drop ia) (b.toList.drop ib)) (hm : (a.size - ia) + (b.size - ib) ≤ m) :
    wpS (model prog w) A E s (loHead a b mg ac bc out ia ib) (LoP st₀ a b m) st := by
  unfold loHead
  refine wpS_bind (wpS_setG ?_)
  have hS := hS.setG mg
  refine wpS_bind (wpS_elem hlb (wpS_bind (wpS_gallop (hS.kind.trans hk) (kb _ (by simp)) ka (n_fill (Nat.le_of_lt (Nat.lt_of_succ_lt hla))) (Nat.sub_pos_of_lt (Nat.lt_of_succ_lt hla)) (by rw [take_rest]; exact mi.sa) ?_)))
  intro k hk1 hk2 hk3
  rw [take_rest] at hk2 hk3
  (try dsimp only)
  have hdb := head_le mi.sb b ib rfl hlb
  have q3 : ∀ y ∈ a.toList.drop (ia + k), kle b[ib] y := by
    intro y hy
    rw [← List.drop_drop] at hy
    exact Int.le_of_lt (bk_false' (hk3 y hy))
  by_cases hk0 : k > 0
  · rw [if_pos hk0]
    have mi3 := lo_takeA (k := k) mi (fun x hx' y hy => Int.le_trans (bk_false (hk2 x hx')) (hdb y hy))
    by_cases hae : ia + k + 1 = a.size
    · rw [if_pos (by simpa using hae)]
      exact wpS_pure (.inr ⟨_, _, rfl, lo_last hS hl hae mi3⟩)
    · rw [if_neg (by simpa using hae)]
      by_cases hae2 : ia + k = a.size
      · rw [if_pos (by simpa using hae2)]
        exact wpS_pure (.inr ⟨_, _, rfl, lo_doneA hS hae2 mi3⟩)
      · rw [if_neg (by simpa using hae2)]
        exact wpS_loTail1 hk ka kb hS hl (Nat.lt_of_le_of_ne (n_fits hk1 (Nat.le_of_lt (Nat.lt_of_succ_lt hla)) hae2) hae) hlb mi3 q3 (n_mono hm (Nat.le_add_right _ _) (Nat.le_refl _))
  · rw [if_neg hk0]
    obtain rfl : k = 0 := Nat.eq_zero_of_not_pos hk0
    exact wpS_loTail1 hk ka kb hS hl hla hlb mi q3 hm
theorem wpS_mergeLo {st₀ : SortSt} {a b : Array Keyed} {Q : Array Keyed → SortSt → Prop} (hk : kindOf st₀ = oneType') (ka : ∀ p ∈ a.toList, IsK p) (kb : ∀ p ∈ b.toList, IsK p)
    (ha : 0 < a.size) (hb : 0 < b.size) (sa : a.toList.Pairwise kle) (sb : b.toList.Pairwise kle) (h0 : ∀ y ∈ a.toList, kle b[0] y) (hl : ∀ y ∈ b.toList, ∀ x ∈ a.toList.drop (a.size - 1), kle y x)
    (h : ∀ r st, LoG st₀ a b r st → Q r st) : wpS (model prog w) A E s (mergeLo' a b) Q st₀ := by
  have hS0 : Same st₀ st₀ := ⟨rfl, rfl, rfl, rfl⟩
  have m0 : MI kle (a.toList ++ b.toList) (#[] : Array Keyed).toList (a.toList.drop 0) (b.toList.drop 0) :=
    ⟨List.Perm.refl _, .nil, sa, sb, (fun x hx => nomatch hx), (fun x hx => nomatch hx)⟩
  have m1 := lo_pushB hb m0 h0
  have mema : ∀ i (hi : i < a.size), IsK a[i] := fun i hi => ka _ (by simp)
  have memb : ∀ i (hi : i < b.size), IsK b[i] := fun i hi => kb _ (by simp)
  refine wpS_bind (wpS_lift (wpAny_rule ⟨rfl, ?_⟩))
  refine wpS_bind (wpS_elem hb ?_)
  (try dsimp only)
  by_cases hb1 : 1 = b.size
  · rw [if_pos (by rw [← hb1]; rfl)]
    exact wpS_pure (h _ _ (lo_doneB hS0 hb1 m1))
  rw [if_neg (by simpa using hb1)]
  by_cases ha1 : 0 + 1 = a.size
  · rw [if_pos (by rw [← ha1]; rfl)]
    exact wpS_pure (h _ _ (lo_last hS0 hl ha1 m1))
  rw [if_neg (by simpa using ha1)]
  refine wpS_bind (wpS_get ?_)
  refine wpS_bindN (fun kk hkk => wpS_mono (wpS_forRangeN
    (I := fun x c st => ∃ out ia ib mg, c = (none, out, ia, ib, mg) ∧ LoI st₀ a b out ia ib st ∧ (a.size - ia) + (b.size - ib) + x ≤ a.size + b.size)
    (Q := fun c st => ∃ r c', c = (some r, c') ∧ LoG st₀ a b r st) ?step ?fin ⟨_, _, _, _, rfl, ⟨hS0, Nat.lt_of_le_of_ne ha ha1, Nat.lt_of_le_of_ne hb hb1, m1⟩, Nat.add_le_add_left (Nat.sub_le b.size 1) a.size⟩) ?post)
  case post =>
    rintro c st ⟨r, c', rfl, hg⟩
    all_goals subst hkk
    all_goals (try dsimp only)
    exact wpS_pure (h r st hg)
  case fin =>
    rintro c st ⟨out, ia, ib, mg, rfl, hI, hm⟩
    exact (n_over2 hm (Nat.lt_of_succ_lt hI.la)).elim
  case step =>
    rintro FF hFF x c st - hx ⟨out, ia, ib, mg, rfl, hI, hm⟩
    all_goals subst hFF
    all_goals (try dsimp only)
    (try dsimp only)
    refine wpS_bindN (fun kk hkk => wpS_mono (wpS_forRangeN
      (I := fun x c st => ∃ o ja jb ac bc, c = (none, o, ja, jb, ac, bc) ∧ LoI st₀ a b o ja jb st ∧ (a.size - ja) + (b.size - jb) + x ≤ (a.size - ia) + (b.size - ib))
      (Q := fun c st => (∃ o ja jb ac bc, c = (none, o, ja, jb, ac, bc) ∧ LoI st₀ a b o ja jb st ∧ (a.size - ja) + (b.size - jb) + 1 ≤ (a.size - ia) + (b.size - ib)) ∨ (∃ r c', c = (some r, c') ∧ LoG st₀ a b r st))
      ?step1 ?fin1 ⟨_, _, _, _, _, rfl, hI, Nat.le_refl _⟩) ?post1)
    case fin1 =>
      rintro c st ⟨o, ja, jb, ac, bc, rfl, hI, hm⟩
      exact .inl ⟨o, ja, jb, ac, bc, rfl, hI, n_m2 hm ha⟩
    case step1 =>
      rintro FF hFF x c st - hx ⟨o, ja, jb, ac, bc, rfl, ⟨hS, hla, hlb, mi⟩, hm⟩
      all_goals subst hFF
      all_goals (try dsimp only)
      (try dsimp only)
      refine wpS_bind (wpS_elem hlb (wpS_bind (wpS_elem (Nat.lt_of_succ_lt hla) (wpS_bind (wpS_lt (hS.kind.trans hk) (memb _ _) (mema _ _) ?_)))))
      (try dsimp only)
      have hda := head_le mi.sa a ja rfl (Nat.lt_of_succ_lt hla)
      have hdb := head_le mi.sb b jb rfl hlb
      by_cases hlt : keyN b[jb] < keyN a[ja]
      · rw [if_pos (by simpa using hlt)]
        refine wpS_bind (wpS_elem hlb ?_)
        have mi2 := lo_pushB hlb mi (fun y hy => Int.le_trans (Int.le_of_lt hlt) (hda y hy))
        by_cases hbe : jb + 1 = b.size
        · rw [if_pos (by simpa using hbe)]
          exact wpS_pure (.inr ⟨_, _, rfl, lo_doneB hS hbe mi2⟩)
        · rw [if_neg (by simpa using hbe)]
          have hI2 : LoI st₀ a b (o.push b[jb]) ja (jb + 1) st := ⟨hS, hla, Nat.lt_of_le_of_ne hlb hbe, mi2⟩
          split
          · exact wpS_pure (.inl ⟨_, _, _, _, _, rfl, hI2, n_m1 (n_mB hm hlb)⟩)
          · exact wpS_pure ⟨_, _, _, _, _, rfl, hI2, n_mB hm hlb⟩
      · rw [if_neg (by simpa using hlt)]
        refine wpS_bind (wpS_elem (Nat.lt_of_succ_lt hla) ?_)
        have mi2 := lo_pushA (Nat.lt_of_succ_lt hla) mi (fun y hy => Int.le_trans (Int.not_lt.mp hlt) (hdb y hy))
        by_cases hae : ja + 1 + 1 = a.size
        · rw [if_pos (by simpa using hae)]
          exact wpS_pure (.inr ⟨_, _, rfl, lo_last hS hl hae mi2⟩)
        · rw [if_neg (by simpa using hae)]
          have hI2 : LoI st₀ a b (o.push a[ja]) (ja + 1) jb st := ⟨hS, Nat.lt_of_le_of_ne hla hae, hlb, mi2⟩
          split
          · exact wpS_pure (.inl ⟨_, _, _, _, _, rfl, hI2, n_m1 (n_mA hm (Nat.lt_of_succ_lt hla))⟩)
          · exact wpS_pure ⟨_, _, _, _, _, rfl, hI2, n_mA hm (Nat.lt_of_succ_lt hla)⟩
    case post1 =>
      rintro c st (⟨o, ja, jb, ac, bc, rfl, hI, hm1⟩ | ⟨r, c', rfl, hg⟩)
      all_goals subst hkk
      all_goals (try dsimp only)
      · (try dsimp only)
        refine wpS_bind (wpS_lift (wpAny_rule ⟨rfl, ?_⟩))
        refine wpS_bindN (fun kk hkk => wpS_mono (wpS_forRangeN
          (I := fun x c st => LoY st₀ a b ((a.size - ja) + (b.size - jb)) c st)
          (Q := fun c st => LoD st₀ a b ((a.size - ja) + (b.size - jb)) c st)
          ?step2 (fun c st hh => .inl hh) ⟨_, _, _, _, _, _, rfl, hI, Nat.le_refl _⟩) ?post2)
        case step2 =>
          rintro FF hFF x c st - hx ⟨o', ka', kb', mg', ac', bc', rfl, ⟨hS, hla, hlb, mi⟩, hm2⟩
          all_goals subst hFF
          all_goals (try dsimp only)
          refine wpS_mono (Q := LoP st₀ a b ((a.size - ja) + (b.size - jb))) ?_ (fun r st hh => by cases r <;> exact hh)
          show wpS (model prog w) A E s (if mg' > 1 then loHead a b (mg' - 1) ac' bc' o' ka' kb' else loHead a b mg' ac' bc' o' ka' kb') _ st
          have key : ∀ mg2 : Nat, wpS (model prog w) A E s (loHead a b mg2 ac' bc' o' ka' kb') (LoP st₀ a b ((a.size - ja) + (b.size - jb))) st := fun mg2 =>
            wpS_loHead hk ka kb hS hl hla hlb mi hm2
          split
          · exact key _
          · exact key _
        case post2 =>
          rintro c st (⟨o', ka', kb', mg', ac', bc', rfl, hI2, hm2⟩ | ⟨r, c', rfl, hg⟩)
          all_goals subst hkk
          all_goals (try dsimp only)
          · (try dsimp only)
            refine wpS_bind (wpS_setG (wpS_pure ⟨_, _, _, _, rfl, ⟨hI2.same.setG _, hI2.la, hI2.lb, hI2.mi⟩, n_chain hm hm1 hm2⟩))
          · exact wpS_pure ⟨r, _, rfl, hg⟩
      · exact wpS_pure ⟨r, _, rfl, hg⟩
end
/-! S3 -/
noncomputable def kge (p q : Keyed) : Prop := keyN q ≤ keyN p
noncomputable def rtake (a : Array Keyed) (n : Nat) : List Keyed := (a.toList.take n).reverse
theorem rtake_cons {a : Array Keyed} {n : Nat} (h0 : 0 < n) (hn : n ≤ a.size) : rtake a n = a[n - 1] :: rtake a (n - 1) := by
  obtain ⟨m, rfl⟩ : ∃ m, n = m + 1 := ⟨n - 1, (Nat.sub_add_cancel h0).symm⟩
  have e : a.toList[m]? = some a[m] := by rw [Array.getElem?_toList, getElem?_pos a m (by omega)]
  unfold rtake
  rw [List.take_add_one, e]
  simp
theorem rtake_zero (a : Array Keyed) : rtake a 0 = [] := rfl
theorem rtake_split (a : Array Keyed) {k n : Nat} (h : k ≤ n) : rtake a n = ((a.toList.take n).drop k).reverse ++ rtake a k := by
  unfold rtake
  rw [← List.reverse_append]
  congr 1
  have e := List.take_append_drop k (a.toList.take n)
  rw [List.take_take, Nat.min_eq_left h] at e
  exact e.symm
noncomputable def hiDone (a b out : Array Keyed) (na nb : Nat) : Array Keyed := a.extract 0 na ++ b.extract 0 nb ++ out.reverse
noncomputable def hiLast (a b out : Array Keyed) (na nb : Nat) : Array Keyed := b.extract 0 nb ++ a.extract 0 na ++ out.reverse
theorem ext_pre (a : Array Keyed) (n : Nat) : (a.extract 0 n).toList = a.toList.take n := by
  rw [Array.toList_extract, List.extract_eq_take_drop]; rfl
theorem hiDone_list {a b out : Array Keyed} {na nb : Nat} : (hiDone a b out na nb).toList = (out.toList ++ rtake b nb ++ rtake a na).reverse := by
  unfold hiDone rtake
  rw [Array.toList_append, Array.toList_append, ext_pre, ext_pre, Array.toList_reverse]
  simp
theorem hiLast_list {a b out : Array Keyed} {na nb : Nat} : (hiLast a b out na nb).toList = (out.toList ++ rtake a na ++ rtake b nb).reverse := by
  unfold hiLast rtake
  rw [Array.toList_append, Array.toList_append, ext_pre, ext_pre, Array.toList_reverse]
  simp
section
variable {st₀ st : SortSt} {a b out : Array Keyed} {na nb : Nat}
noncomputable abbrev HM (a b out : Array Keyed) (na nb : Nat) : Prop := MI kge (a.toList ++ b.toList) out.toList (rtake a na) (rtake b nb)
theorem rev_good {l tot : List Keyed} (hS : Same st₀ st) (h1 : l.Perm tot) (h2 : l.Pairwise kge) {r : Array Keyed} (e : r.toList = l.reverse) : Merged kle st₀ tot r.toList st :=
  ⟨hS, by rw [e]; exact (List.reverse_perm l).trans h1, by rw [e, List.pairwise_reverse]; exact h2⟩
theorem hi_doneA (hS : Same st₀ st) (h0 : na = 0) (h : HM a b out na nb) : LoG st₀ a b (hiDone a b out na nb) st := by
  obtain ⟨h1, h2⟩ := h.endBA (fun x _ y hy => by subst h0; exact nomatch hy)
  exact rev_good hS h1 h2 hiDone_list
theorem hi_doneB (hS : Same st₀ st) (h0 : nb = 0) (h : HM a b out na nb) : LoG st₀ a b (hiDone a b out na nb) st := by
  obtain ⟨h1, h2⟩ := h.endBA (fun x hx y _ => by subst h0; exact nomatch hx)
  exact rev_good hS h1 h2 hiDone_list
theorem hi_last (hS : Same st₀ st) (hb : 0 < b.size) (hl : ∀ y ∈ a.toList, kle b[0] y) (h1 : nb = 1) (h : HM a b out na nb) : LoG st₀ a b (hiLast a b out na nb) st := by
  subst h1
  obtain ⟨h1, h2⟩ := h.endAB (fun x hx y hy => by
    rw [rtake_cons (by decide) hb] at hy
    rcases List.mem_cons.mp hy with rfl | hy
    · exact hl x (List.mem_of_mem_take (List.mem_reverse.mp hx))
    · exact nomatch hy)
  exact rev_good hS h1 h2 hiLast_list
theorem hi_pushA (h0 : 0 < na) (hn : na ≤ a.size) (h : HM a b out na nb) (hx : ∀ y ∈ rtake b nb, kge a[na - 1] y) : HM a b (out.push a[na - 1]) (na - 1) nb := by
  unfold HM at h ⊢
  rw [rtake_cons h0 hn] at h
  rw [Array.toList_push]
  exact MI.moveA (p := [a[na - 1]]) h (fun x hx' => by rw [List.mem_singleton.mp hx']; exact hx)
theorem hi_pushB (h0 : 0 < nb) (hn : nb ≤ b.size) (h : HM a b out na nb) (hx : ∀ y ∈ rtake a na, kge b[nb - 1] y) : HM a b (out.push b[nb - 1]) na (nb - 1) := by
  unfold HM at h ⊢
  rw [rtake_cons h0 hn] at h
  rw [Array.toList_push]
  exact MI.moveB (p := [b[nb - 1]]) h (fun x hx' => by rw [List.mem_singleton.mp hx']; exact hx)
theorem ext_mid (a : Array Keyed) (k n : Nat) : (a.extract k n).toList = (a.toList.take n).drop k := by
  rw [Array.toList_extract, List.extract_eq_take_drop, List.drop_take]
theorem hi_takeA {k : Nat} (hk : k ≤ na) (h : HM a b out na nb) (hx : ∀ x ∈ (a.toList.take na).drop k, ∀ y ∈ rtake b nb, kge x y) : HM a b (out ++ (a.extract k na).reverse) k nb := by
  unfold HM at h ⊢
  rw [rtake_split a hk] at h
  rw [Array.toList_append, Array.toList_reverse, ext_mid]
  exact h.moveA (fun x hx' => hx x (List.mem_reverse.mp hx'))
theorem hi_takeB {k : Nat} (hk : k ≤ nb) (h : HM a b out na nb) (hx : ∀ x ∈ (b.toList.take nb).drop k, ∀ y ∈ rtake a na, kge x y) : HM a b (out ++ (b.extract k nb).reverse) na k := by
  unfold HM at h ⊢
  rw [rtake_split b hk] at h
  rw [Array.toList_append, Array.toList_reverse, ext_mid]
  exact h.moveB (fun x hx' => hx x (List.mem_reverse.mp hx'))
theorem head_ge {n : Nat} (h : (rtake a n).Pairwise kge) (h0 : 0 < n) (hn : n ≤ a.size) : ∀ y ∈ rtake a n, kge a[n - 1] y := by
  rw [rtake_cons h0 hn] at h ⊢
  intro y hy
  rcases List.mem_cons.mp hy with rfl | hy
  · exact Int.le_refl _
  · exact List.rel_of_pairwise_cons h hy
structure HiI (st₀ : SortSt) (a b out : Array Keyed) (na nb : Nat) (st : SortSt) : Prop where
  same : Same st₀ st
  la : 0 < na
  la2 : na ≤ a.size
  lb : 1 < nb
  lb2 : nb ≤ b.size
  mi : HM a b out na nb
end
noncomputable abbrev HiC := Option (Array Keyed) × Nat × Nat × Array Keyed × Nat × Nat × Nat
noncomputable def hiTail2 (a b : Array Keyed) (mg ac bc : Nat) (na nb : Nat) (out : Array Keyed) : StateT SortSt Sem (ForInStep HiC) := do
  let x ← elem' a (na - 1)
  if (na - 1 == 0) = true then pure (ForInStep.done (some (hiDone a b (out.push x) (na - 1) nb), na - 1, nb, out.push x, mg, ac, bc))
  else if (decide (ac < 7) && decide (bc < 7)) = true then pure (ForInStep.done (none, na - 1, nb, out.push x, mg, ac, bc))
  else pure (ForInStep.yield (none, na - 1, nb, out.push x, mg, ac, bc))
noncomputable def hiTail1 (a b : Array Keyed) (mg ac bc : Nat) (na nb : Nat) (out : Array Keyed) : StateT SortSt Sem (ForInStep HiC) := do
  let x ← elem' b (nb - 1)
  if (nb - 1 == 1) = true then pure (ForInStep.done (some (hiLast a b (out.push x) na (nb - 1)), na, nb - 1, out.push x, mg, ac, bc))
  else do
    let y ← elem' a (na - 1)
    let r ← gallop' true y b 0 (nb - 1) (nb - 1 - 1)
    match r with
    | some k =>
      if nb - 1 - k > 0 then
        if (k == 1) = true then pure (ForInStep.done (some (hiLast a b (out.push x ++ (b.extract k (nb - 1)).reverse) na k), na, k, out.push x ++ (b.extract k (nb - 1)).reverse, mg, ac, nb - 1 - k))
        else if (k == 0) = true then pure (ForInStep.done (some (hiDone a b (out.push x ++ (b.extract k (nb - 1)).reverse) na k), na, k, out.push x ++ (b.extract k (nb - 1)).reverse, mg, ac, nb - 1 - k))
        else hiTail2 a b mg ac (nb - 1 - k) na k (out.push x ++ (b.extract k (nb - 1)).reverse)
      else hiTail2 a b mg ac (nb - 1 - k) na (nb - 1) (out.push x)
    | _ => pure (ForInStep.done (some (hiDone a b (out.push x) na (nb - 1)), na, nb - 1, out.push x, mg, ac, bc))
noncomputable def hiHead (a b : Array Keyed) (mg ac bc : Nat) (na nb : Nat) (out : Array Keyed) : StateT SortSt Sem (ForInStep HiC) := do
  setMinGallop' mg
  let y ← elem' b (nb - 1)
  let r ← gallop' false y a 0 na (na - 1)
  match r with
  | some k =>
    if na - k > 0 then
      if (k == 0) = true then pure (ForInStep.done (some (hiDone a b (out ++ (a.extract k na).reverse) k nb), k, nb, out ++ (a.extract k na).reverse, mg, na - k, bc))
      else hiTail1 a b mg (na - k) bc k nb (out ++ (a.extract k na).reverse)
    else hiTail1 a b mg (na - k) bc na nb out
  | _ => pure (ForInStep.done (some (hiDone a b out na nb), na, nb, out, mg, ac, bc))
noncomputable def HiY (st₀ : SortSt) (a b : Array Keyed) (m : Nat) (c : HiC) (st : SortSt) : Prop :=
  ∃ na nb o' mg ac bc, c = (none, na, nb, o', mg, ac, bc) ∧ HiI st₀ a b o' na nb st ∧ na + nb ≤ m
noncomputable def HiD (st₀ : SortSt) (a b : Array Keyed) (m : Nat) (c : HiC) (st : SortSt) : Prop :=
  HiY st₀ a b m c st ∨ (∃ r c', c = (some r, c') ∧ LoG st₀ a b r st)
noncomputable def HiP (st₀ : SortSt) (a b : Array Keyed) (m : Nat) (r : ForInStep HiC) (st : SortSt) : Prop :=
  match r with | .done c => HiD st₀ a b m c st | .yield c => HiY st₀ a b m c st
theorem take0 (a : Array Keyed) (n : Nat) : (a.toList.drop 0).take n = a.toList.take n := rfl
theorem take_rtake {a : Array Keyed} {n k : Nat} (h : k ≤ n) {x : Keyed} (hx : x ∈ rtake a k) : x ∈ (a.toList.take n).take k := by
  rw [List.take_take, Nat.min_eq_left h]
  exact List.mem_reverse.mp hx
section
variable {prog : Program} {w : World} {A : Around} {E : Value → Shared → Prop} {s : Shared}
theorem wpS_hiTail2 {st₀ st : SortSt} {a b out : Array Keyed} {mg ac bc na nb m : Nat} (hS : Same st₀ st)
    (hla : 0 < na) (hla2 : na ≤ a.size) (hlb : 1 < nb) (hlb2 : nb ≤ b.size) (mi : HM a b out na nb) (hx : ∀ y ∈ rtake b nb, kge a[na - 1] y) (hm : na - 1 + nb ≤ m) :
    wpS (model prog w) A E s (hiTail2 a b mg ac bc na nb out) (HiP st₀ a b m) st := by
  unfold hiTail2
  refine wpS_bind (wpS_elem (p_lt hla hla2) ?_)
  have mi2 := hi_pushA hla hla2 mi hx
  by_cases hae : na - 1 = 0
  · rw [if_pos (by simpa using hae)]
    exact wpS_pure (.inr ⟨_, _, rfl, hi_doneA hS hae mi2⟩)
  · rw [if_neg (by simpa using hae)]
    have hI2 : HiI st₀ a b (out.push a[na - 1]) (na - 1) nb st := ⟨hS, Nat.pos_of_ne_zero hae, p_le hla2, hlb, hlb2, mi2⟩
    split
    · exact wpS_pure (.inl ⟨_, _, _, _, _, _, rfl, hI2, hm⟩)
    · exact wpS_pure ⟨_, _, _, _, _, _, rfl, hI2, hm⟩
theorem wpS_hiTail1 {st₀ st : SortSt} {a b out : Array Keyed} {mg ac bc na nb m : Nat} (hk : kindOf st₀ = oneType') (ka : ∀ p ∈ a.toList, IsK p) (kb : ∀ p ∈ b.toList, IsK p) (sb : b.toList.Pairwise kle) (hb0 : 0 < b.size) (hl : ∀ y ∈ a.toList, kle b[0] y) (hS : Same st₀ st)
    (hla : 0 < na) (hla2 : na ≤ a.size) (hlb : 1 < nb) (hlb2 : nb ≤ b.size) (mi : HM a b out na nb) (hx : ∀ y ∈ rtake a na, kge b[nb - 1] y) (hm : na + nb ≤ m + 1) :
    wpS (model prog w) A E s (hiTail1 a b mg ac bc na nb out) (HiP st₀ a b m) st := by
  unfold hiTail1
  have hlb0 : 0 < nb := Nat.lt_of_succ_lt hlb
  refine wpS_bind (wpS_elem (p_lt hlb0 hlb2) ?_)
  have mi2 := hi_pushB hlb0 hlb2 mi hx
  by_cases hbe : nb - 1 = 1
  · rw [if_pos (by simpa using hbe)]
    exact wpS_pure (.inr ⟨_, _, rfl, hi_last hS hb0 hl hbe mi2⟩)
  · rw [if_neg (by simpa using hbe)]
    refine wpS_bind (wpS_elem (p_lt hla hla2) (wpS_bind (wpS_gallop (hS.kind.trans hk) (ka _ (by simp)) kb (by rw [Nat.zero_add]; exact p_le hlb2) (p_lt (Nat.sub_pos_of_lt hlb) (Nat.le_refl _)) ?_ ?_)))
    · rw [take0]
      exact sb.sublist (List.take_sublist _ _)
    intro k hk1 hk2 hk3
    rw [take0] at hk2 hk3
    (try dsimp only)
    have hda := head_ge mi2.sa hla hla2
    have q3 : ∀ y ∈ rtake b k, kge a[na - 1] y := fun y hy => Int.le_of_lt (bk_true (hk2 y (take_rtake hk1 hy)))
    by_cases hk0 : nb - 1 - k > 0
    · rw [if_pos hk0]
      have mi3 := hi_takeB hk1 mi2 (fun x hx' y hy => Int.le_trans (hda y hy) (bk_true' (hk3 x hx')))
      by_cases hbe2 : k = 1
      · rw [if_pos (by simpa using hbe2)]
        exact wpS_pure (.inr ⟨_, _, rfl, hi_last hS hb0 hl hbe2 mi3⟩)
      · rw [if_neg (by simpa using hbe2)]
        by_cases hbe3 : k = 0
        · rw [if_pos (by simpa using hbe3)]
          exact wpS_pure (.inr ⟨_, _, rfl, hi_doneB hS hbe3 mi3⟩)
        · rw [if_neg (by simpa using hbe3)]
          exact wpS_hiTail2 hS hla hla2 (p_k1 hbe2 hbe3) (Nat.le_trans hk1 (p_le hlb2)) mi3 q3 (p_m1 hm hla (Nat.le_trans hk1 (Nat.sub_le nb 1)))
    · rw [if_neg hk0]
      have ek : k = nb - 1 := p_eq hk1 hk0
      subst ek
      exact wpS_hiTail2 hS hla hla2 (p_one hlb hbe) (p_le hlb2) mi2 q3 (p_m1 hm hla (Nat.sub_le nb 1))
theorem wpS_hiHead {st₀ st : SortSt} {a b out : Array Keyed} {mg ac bc na nb m : Nat} (hk : kindOf st₀ = oneType') (ka : ∀ p ∈ a.toList, IsK p) (kb : ∀ p ∈ b.toList, IsK p) (sa : a.toList.Pairwise kle) (sb : b.toList.Pairwise kle) (hb0 : 0 < b.size) (hl : ∀ y ∈ a.toList, kle b[0] y) (hS : Same st₀ st)
    (hla : 0 < na) (hla2 : na ≤ a.size) (hlb : 1 < nb) (hlb2 : nb ≤ b.size) (mi : HM a b out na nb) (hm : na + nb ≤ m) :
    wpS (model prog w) A E s (hiHead a b mg ac bc na nb out) (HiP st₀ a b m) st := by
  unfold hiHead
  refine wpS_bind (wpS_setG ?_)
  have hS := hS.setG mg
  have hlb0 : 0 < nb := Nat.lt_of_succ_lt hlb
  refine wpS_bind (wpS_elem (p_lt hlb0 hlb2) (wpS_bind (wpS_gallop (hS.kind.trans hk) (kb _ (by simp)) ka (by rw [Nat.zero_add]; exact hla2) (p_lt hla (Nat.le_refl _)) ?_ ?_)))
  · rw [take0]
    exact sa.sublist (List.take_sublist _ _)
  intro k hk1 hk2 hk3
  rw [take0] at hk2 hk3
  (try dsimp only)
  have hdb := head_ge mi.sb hlb0 hlb2
  have q3 : ∀ y ∈ rtake a k, kge b[nb - 1] y := fun y hy => bk_false (hk2 y (take_rtake hk1 hy))
  by_cases hk0 : na - k > 0
  · rw [if_pos hk0]
    have mi3 := hi_takeA hk1 mi (fun x hx' y hy => Int.le_trans (hdb y hy) (Int.le_of_lt (bk_false' (hk3 x hx'))))
    by_cases hae : k = 0
    · rw [if_pos (by simpa using hae)]
      exact wpS_pure (.inr ⟨_, _, rfl, hi_doneA hS hae mi3⟩)
    · rw [if_neg (by simpa using hae)]
      exact wpS_hiTail1 hk ka kb sb hb0 hl hS (Nat.pos_of_ne_zero hae) (Nat.le_trans hk1 hla2) hlb hlb2 mi3 q3 (Nat.le_succ_of_le (Nat.le_trans (Nat.add_le_add_right hk1 nb) hm))
  · rw [if_neg hk0]
    have ek : k = na := p_eq hk1 hk0
    subst ek
    exact wpS_hiTail1 hk ka kb sb hb0 hl hS hla hla2 hlb hlb2 mi q3 (Nat.le_succ_of_le hm)
theorem wpS_mergeHi {st₀ : SortSt} {a b : Array Keyed} {Q : Array Keyed → SortSt → Prop} (hk : kindOf st₀ = oneType') (ka : ∀ p ∈ a.toList, IsK p) (kb : ∀ p ∈ b.toList, IsK p)
    (ha : 0 < a.size) (hb : 0 < b.size) (sa : a.toList.Pairwise kle) (sb : b.toList.Pairwise kle) (h0 : ∀ y ∈ a.toList, kle b[0] y) (hl : ∀ y ∈ b.toList, kle y a[a.size - 1])
    (h : ∀ r st, LoG st₀ a b r st → Q r st) : wpS (model prog w) A E s (mergeHi' a b) Q st₀ := by
  have hS0 : Same st₀ st₀ := ⟨rfl, rfl, rfl, rfl⟩
  have ra : rtake a a.size = a.toList.reverse := by unfold rtake; rw [← Array.length_toList, List.take_length]
  have rb : rtake b b.size = b.toList.reverse := by unfold rtake; rw [← Array.length_toList, List.take_length]
  have m0 : HM a b #[] a.size b.size := by
    unfold HM
    rw [ra, rb]
    refine ⟨?_, .nil, List.pairwise_reverse.mpr sa, List.pairwise_reverse.mpr sb, (fun x hx => nomatch hx), (fun x hx => nomatch hx)⟩
    show (a.toList.reverse ++ b.toList.reverse).Perm _
    exact List.Perm.append (List.reverse_perm _) (List.reverse_perm _)
  have m1 := hi_pushA ha (Nat.le_refl _) m0 (fun y hy => hl y (by rw [rb] at hy; exact List.mem_reverse.mp hy))
  have mema : ∀ i (hi : i < a.size), IsK a[i] := fun i hi => ka _ (by simp)
  have memb : ∀ i (hi : i < b.size), IsK b[i] := fun i hi => kb _ (by simp)
  refine wpS_bind (wpS_lift (wpAny_rule ⟨rfl, ?_⟩))
  (try dsimp only)
  refine wpS_bind (wpS_elem (p_lt ha (Nat.le_refl _)) ?_)
  by_cases ha1 : a.size - 1 = 0
  · rw [if_pos (by simpa using ha1)]
    exact wpS_pure (h _ _ (hi_doneA hS0 ha1 m1))
  rw [if_neg (by simpa using ha1)]
  by_cases hb1 : b.size = 1
  · rw [if_pos (by simpa using hb1)]
    exact wpS_pure (h _ _ (hi_last hS0 hb h0 hb1 m1))
  rw [if_neg (by simpa using hb1)]
  refine wpS_bind (wpS_get ?_)
  refine wpS_bindN (fun kk hkk => wpS_mono (wpS_forRangeN
    (I := fun x c st => ∃ na nb out mg, c = (none, na, nb, out, mg) ∧ HiI st₀ a b out na nb st ∧ na + nb + x ≤ a.size + b.size)
    (Q := fun c st => ∃ r c', c = (some r, c') ∧ LoG st₀ a b r st) ?step ?fin ⟨_, _, _, _, rfl, ⟨hS0, Nat.pos_of_ne_zero ha1, Nat.sub_le _ 1, Nat.lt_of_le_of_ne hb (Ne.symm hb1), Nat.le_refl _, m1⟩, Nat.add_le_add_right (Nat.sub_le a.size 1) b.size⟩) ?post)
  case post =>
    rintro c st ⟨r, c', rfl, hg⟩
    all_goals subst hkk
    all_goals (try dsimp only)
    exact wpS_pure (h r st hg)
  case fin =>
    rintro c st ⟨na, nb, out, mg, rfl, hI, hm⟩
    exact absurd (Nat.eq_zero_of_add_eq_zero_right (n_over hm)) (Nat.ne_of_gt hI.la)
  case step =>
    rintro FF hFF x c st - hx ⟨na, nb, out, mg, rfl, hI, hm⟩
    all_goals subst hFF
    all_goals (try dsimp only)
    (try dsimp only)
    refine wpS_bindN (fun kk hkk => wpS_mono (wpS_forRangeN
      (I := fun x c st => ∃ ma mb o ac bc, c = (none, ma, mb, o, ac, bc) ∧ HiI st₀ a b o ma mb st ∧ ma + mb + x ≤ na + nb)
      (Q := fun c st => (∃ ma mb o ac bc, c = (none, ma, mb, o, ac, bc) ∧ HiI st₀ a b o ma mb st ∧ ma + mb + 1 ≤ na + nb) ∨ (∃ r c', c = (some r, c') ∧ LoG st₀ a b r st))
      ?step1 ?fin1 ⟨_, _, _, _, _, rfl, hI, Nat.le_refl _⟩) ?post1)
    case fin1 =>
      rintro c st ⟨ma, mb, o, ac, bc, rfl, hI, hm⟩
      exact .inl ⟨ma, mb, o, ac, bc, rfl, hI, n_m2 hm ha⟩
    case step1 =>
      rintro FF hFF x c st - hx ⟨ma, mb, o, ac, bc, rfl, ⟨hS, hla, hla2, hlb, hlb2, mi⟩, hm⟩
      all_goals subst hFF
      all_goals (try dsimp only)
      (try dsimp only)
      have hlb0 : 0 < mb := Nat.lt_of_succ_lt hlb
      refine wpS_bind (wpS_elem (p_lt hlb0 hlb2) (wpS_bind (wpS_elem (p_lt hla hla2) (wpS_bind (wpS_lt (hS.kind.trans hk) (memb _ _) (mema _ _) ?_)))))
      (try dsimp only)
      have hda := head_ge mi.sa hla hla2
      have hdb := head_ge mi.sb hlb0 hlb2
      by_cases hlt : keyN b[mb - 1] < keyN a[ma - 1]
      · rw [if_pos (by simpa using hlt)]
        refine wpS_bind (wpS_elem (p_lt hla hla2) ?_)
        have mi2 := hi_pushA hla hla2 mi (fun y hy => Int.le_trans (hdb y hy) (Int.le_of_lt hlt))
        by_cases hae : ma - 1 = 0
        · rw [if_pos (by simpa using hae)]
          exact wpS_pure (.inr ⟨_, _, rfl, hi_doneA hS hae mi2⟩)
        · rw [if_neg (by simpa using hae)]
          have hI2 : HiI st₀ a b (o.push a[ma - 1]) (ma - 1) mb st := ⟨hS, Nat.pos_of_ne_zero hae, p_le hla2, hlb, hlb2, mi2⟩
          split
          · exact wpS_pure (.inl ⟨_, _, _, _, _, rfl, hI2, n_m1 (p_mA hm hla)⟩)
          · exact wpS_pure ⟨_, _, _, _, _, rfl, hI2, p_mA hm hla⟩
      · rw [if_neg (by simpa using hlt)]
        refine wpS_bind (wpS_elem (p_lt hlb0 hlb2) ?_)
        have mi2 := hi_pushB hlb0 hlb2 mi (fun y hy => Int.le_trans (hda y hy) (Int.not_lt.mp hlt))
        by_cases hbe : mb - 1 = 1
        · rw [if_pos (by simpa using hbe)]
          exact wpS_pure (.inr ⟨_, _, rfl, hi_last hS hb h0 hbe mi2⟩)
        · rw [if_neg (by simpa using hbe)]
          have hI2 : HiI st₀ a b (o.push b[mb - 1]) ma (mb - 1) st := ⟨hS, hla, hla2, p_one hlb hbe, p_le hlb2, mi2⟩
          split
          · exact wpS_pure (.inl ⟨_, _, _, _, _, rfl, hI2, n_m1 (p_mB hm hlb0)⟩)
          · exact wpS_pure ⟨_, _, _, _, _, rfl, hI2, p_mB hm hlb0⟩
    case post1 =>
      rintro c st (⟨ma, mb, o, ac, bc, rfl, hI, hm1⟩ | ⟨r, c', rfl, hg⟩)
      all_goals subst hkk
      all_goals (try dsimp only)
      · (try dsimp only)
        refine wpS_bind (wpS_lift (wpAny_rule ⟨rfl, ?_⟩))
        refine wpS_bindN (fun kk hkk => wpS_mono (wpS_forRangeN
          (I := fun x c st => HiY st₀ a b (ma + mb) c st)
          (Q := fun c st => HiD st₀ a b (ma + mb) c st)
          ?step2 (fun c st hh => .inl hh) ⟨_, _, _, _, _, _, rfl, hI, Nat.le_refl _⟩) ?post2)
        case step2 =>
          rintro FF hFF x c st - hx ⟨na', nb', o', mg', ac', bc', rfl, ⟨hS, hla, hla2, hlb, hlb2, mi⟩, hm2⟩
          all_goals subst hFF
          all_goals (try dsimp only)
          refine wpS_mono (Q := HiP st₀ a b (ma + mb)) ?_ (fun r st hh => by cases r <;> exact hh)
          show wpS (model prog w) A E s (if mg' > 1 then hiHead a b (mg' - 1) ac' bc' na' nb' o' else hiHead a b mg' ac' bc' na' nb' o') _ st
          have key : ∀ mg2 : Nat, wpS (model prog w) A E s (hiHead a b mg2 ac' bc' na' nb' o') (HiP st₀ a b (ma + mb)) st := fun mg2 =>
            wpS_hiHead hk ka kb sa sb hb h0 hS hla hla2 hlb hlb2 mi hm2
          split
          · exact key _
          · exact key _
        case post2 =>
          rintro c st (⟨na', nb', o', mg', ac', bc', rfl, hI2, hm2⟩ | ⟨r, c', rfl, hg⟩)
          all_goals subst hkk
          all_goals (try dsimp only)
          · (try dsimp only)
            refine wpS_bind (wpS_setG (wpS_pure ⟨_, _, _, _, rfl, ⟨hI2.same.setG _, hI2.la, hI2.la2, hI2.lb, hI2.lb2, hI2.mi⟩, n_chain hm hm1 hm2⟩))
          · exact wpS_pure ⟨r, _, rfl, hg⟩
      · exact wpS_pure ⟨r, _, rfl, hg⟩
end
/-! S4 -/
theorem foldl_writes (sa : Nat) : ∀ (l : List Keyed) (i : Nat) (a : Array Keyed), sa + i + l.length ≤ a.size →
    ((l.zipIdx i).foldl (fun (a : Array Keyed) (x : Keyed × Nat) => a.setIfInBounds (sa + x.2) x.1) a).toList = a.toList.take (sa + i) ++ l ++ a.toList.drop (sa + i + l.length)
  | [], i, a, _ => by simp
  | p :: t, i, a, h => by
    rw [List.length_cons] at h
    rw [List.zipIdx_cons, List.foldl_cons, foldl_writes sa t (i + 1) _ (by rw [Array.size_setIfInBounds, ← Nat.add_assoc, Nat.add_right_comm]; exact h)]
    have hl : a.toList.length = a.size := Array.length_toList
    have hsi : sa + i < a.size := Nat.lt_of_lt_of_le (Nat.lt_add_of_pos_right (Nat.succ_pos _)) h
    have e : (a.setIfInBounds (sa + i) p).toList = a.toList.take (sa + i) ++ p :: a.toList.drop (sa + i + 1) := by
      rw [Array.toList_setIfInBounds, List.set_eq_take_append_cons_drop, if_pos (by rw [hl]; exact hsi)]
    show (a.setIfInBounds (sa + i) p).toList.take (sa + (i + 1)) ++ t ++ (a.setIfInBounds (sa + i) p).toList.drop (sa + (i + 1) + t.length) = _
    rw [e]
    have hlt : (a.toList.take (sa + i)).length = sa + i := by rw [List.length_take, hl]; exact Nat.min_eq_left (Nat.le_of_lt hsi)
    have e1 : (a.toList.take (sa + i) ++ p :: a.toList.drop (sa + i + 1)).take (sa + (i + 1)) = a.toList.take (sa + i) ++ [p] := by
      rw [List.take_append, hlt, List.take_of_length_le (by rw [hlt]; exact Nat.le_succ _), show sa + (i + 1) - (sa + i) = 1 by rw [← Nat.add_assoc, Nat.add_sub_cancel_left]]
      rfl
    have e2 : (a.toList.take (sa + i) ++ p :: a.toList.drop (sa + i + 1)).drop (sa + (i + 1) + t.length) = a.toList.drop (sa + i + (t.length + 1)) := by
      rw [List.drop_append, hlt, List.drop_eq_nil_of_le (by rw [hlt]; exact Nat.le_trans (Nat.le_succ _) (Nat.le_add_right _ _)), show sa + (i + 1) + t.length - (sa + i) = t.length + 1 by rw [← Nat.add_assoc, Nat.add_assoc (sa + i), Nat.add_sub_cancel_left, Nat.add_comm], List.nil_append, List.drop_succ_cons, List.drop_drop]
      congr 1
      first | exact Nat.add_right_comm _ 1 _ | omega
    rw [e1, e2, List.append_assoc, List.append_assoc]
    simp
section
variable {prog : Program} {w : World} {A : Around} {E : Value → Shared → Prop} {s : Shared}
structure RunsOk (st : SortSt) (n1 n2 pw : Nat) : Prop where
  kind : kindOf st = oneType'
  failed : failedOf st = none
  pend : pendingOf st = #[(0, n1, pw), (n1, n2, 0)]
  size : (arrOf st).size = n1 + n2
  keys : ∀ p ∈ (arrOf st).toList, IsK p
  s1 : ((arrOf st).toList.take n1).Pairwise kle
  s2 : ((arrOf st).toList.drop n1).Pairwise kle
structure OneOk (X : List Keyed) (N pw : Nat) (st : SortSt) : Prop where
  failed : failedOf st = none
  pend : pendingOf st = #[(0, N, pw)]
  perm : (arrOf st).toList.Perm X
  sorted : (arrOf st).toList.Pairwise kle
theorem wpS_set {st st1 : SortSt} {Q : PUnit → SortSt → Prop} (h : Q ⟨⟩ st1) : wpS (model prog w) A E s (set st1 : StateT SortSt Sem PUnit) Q st := by
  unfold wpS; rw [StateT.run_set]; exact wpAny_pure ⟨rfl, h⟩
theorem wpS_mergeAt {st : SortSt} {n1 n2 pw : Nat} {Q : Bool → SortSt → Prop} (h1 : 0 < n1) (h2 : 0 < n2) (R : RunsOk st n1 n2 pw)
    (h : ∀ st', OneOk (arrOf st).toList (n1 + n2) pw st' → Q true st') : wpS (model prog w) A E s (mergeAt' 0) Q st := by
  obtain ⟨hk, hf, hp, hz, keys, s1, s2⟩ := R
  rw [mergeAt'_eq]
  refine wpS_bind (wpS_get ?_)
  rw [hp]
  have e0 : (#[(0, n1, pw), (n1, n2, 0)] : Array (Nat × Nat × Nat))[0]? = some (0, n1, pw) := rfl
  have e1 : (#[(0, n1, pw), (n1, n2, 0)] : Array (Nat × Nat × Nat))[0 + 1]? = some (n1, n2, 0) := rfl
  have e2 : ((#[(0, n1, pw), (n1, n2, 0)] : Array (Nat × Nat × Nat)).setIfInBounds 0 (0, n1 + n2, pw)).eraseIdxIfInBounds (0 + 1) = #[(0, n1 + n2, pw)] := by
    simp [Array.eraseIdxIfInBounds, Array.setIfInBounds]
  rw [e0, e1]
  dsimp only
  rw [e2]
  generalize harr : arrOf st = arr at *
  have hl : arr.toList.length = arr.size := Array.length_toList
  have hn1 : n1 < arr.size := by rw [hz]; exact Nat.lt_add_of_pos_right h2
  have hn1' := Nat.le_of_lt hn1
  have hl1 : n1 - 1 < arr.size := p_lt h1 hn1'
  refine wpS_bind (wpS_set ?_)
  have O0 : arr.toList.Pairwise kle → OneOk arr.toList (n1 + n2) pw (setPending st #[(0, n1 + n2, pw)]) := fun a2 =>
    ⟨hf, rfl, (by show (arrOf st).toList.Perm _; rw [harr]), (by show (arrOf st).toList.Pairwise kle; rw [harr]; exact a2)⟩
  have hX : arr.toList = arr.toList.take n1 ++ arr.toList.drop n1 := (List.take_append_drop n1 _).symm
  have kk : ∀ i (hi : i < arr.size), IsK arr[i] := fun i hi => keys _ (by simp)
  refine wpS_bind (wpS_elem hn1 (wpS_bind (wpS_gallop hk (kk _ _) keys (by rw [Nat.zero_add]; exact hn1') h1 (by rw [take0]; exact s1) ?_)))
  intro k hk1 hk2 hk3
  rw [take0] at hk2 hk3
  have d2 := head_le s2 arr n1 rfl hn1
  dsimp only
  by_cases hna : n1 - k = 0
  · rw [if_pos (by simpa using hna)]
    have ek : k = n1 := Nat.le_antisymm hk1 (Nat.le_of_sub_eq_zero hna)
    subst ek
    refine wpS_pure (h _ (O0 ?_))
    rw [hX, List.pairwise_append]
    refine ⟨s1, s2, fun x hx y hy => ?_⟩
    rw [List.take_take, Nat.min_self] at hk2
    exact Int.le_trans (bk_false (hk2 x hx)) (d2 y hy)
  · rw [if_neg (by simpa using hna)]
    have el : 0 + k + (n1 - k) - 1 = n1 - 1 := by rw [Nat.zero_add, Nat.add_sub_of_le hk1]
    have t2 : (arr.toList.drop n1).take n2 = arr.toList.drop n1 := List.take_of_length_le (by rw [List.length_drop, hl]; exact Nat.le_of_eq (by rw [hz, Nat.add_sub_cancel_left]))
    refine wpS_bind (wpS_elem (by rw [el]; exact hl1) (wpS_bind (wpS_gallop hk (kk _ _) keys (Nat.le_of_eq hz.symm) (p_lt h2 (Nat.le_refl _)) (by rw [t2]; exact s2) ?_)))
    intro nb hb1 hb2 hb3
    rw [t2] at hb2 hb3
    have last : ∀ x ∈ arr.toList.take n1, kle x arr[n1 - 1] := by
      have := head_ge (a := arr) (n := n1) (by unfold rtake; rw [List.pairwise_reverse]; exact s1) h1 hn1'
      intro x hx
      exact this x (List.mem_reverse.mpr hx)
    simp only [el] at hb2 hb3
    dsimp only
    by_cases hnb : nb = 0
    · rw [if_pos (by simpa using hnb)]
      subst hnb
      refine wpS_pure (h _ (O0 ?_))
      rw [hX, List.pairwise_append]
      refine ⟨s1, s2, fun x hx y hy => ?_⟩
      exact Int.le_trans (last x hx) (bk_true' (hb3 y (by rw [List.drop_zero]; exact hy)))
    · rw [if_neg (by simpa using hnb)]
      have ex : (arr.extract (0 + k) n1).toList = (arr.toList.take n1).drop k := by rw [Nat.zero_add]; exact ext_mid arr k n1
      have ey : (arr.extract n1 (n1 + nb)).toList = (arr.toList.drop n1).take nb := ext_take arr n1 nb
      have sx : ((arr.toList.take n1).drop k).Pairwise kle := s1.sublist (List.drop_sublist _ _)
      have sy : ((arr.toList.drop n1).take nb).Pairwise kle := s2.sublist (List.take_sublist _ _)
      have zx : (arr.extract (0 + k) n1).size = n1 - k := by rw [Array.size_extract, Nat.min_eq_left hn1', Nat.zero_add]
      have zy : (arr.extract n1 (n1 + nb)).size = nb := by rw [Array.size_extract, Nat.min_eq_left (by rw [hz]; exact Nat.add_le_add_left hb1 n1), Nat.add_sub_cancel_left]
      have px : 0 < (arr.extract (0 + k) n1).size := by rw [zx]; exact Nat.pos_of_ne_zero hna
      have py : 0 < (arr.extract n1 (n1 + nb)).size := by rw [zy]; exact Nat.pos_of_ne_zero hnb
      have pl : (arr.extract (0 + k) n1).size - 1 < (arr.extract (0 + k) n1).size := p_lt px (Nat.le_refl _)
      have y0 : (arr.extract n1 (n1 + nb))[0]'py = arr[n1] := by rw [Array.getElem_extract]; rfl
      have xl : (arr.extract (0 + k) n1)[(arr.extract (0 + k) n1).size - 1]'pl = arr[n1 - 1] := by
        rw [Array.getElem_extract]
        congr 1
        rw [zx, Nat.zero_add, ← Nat.add_sub_assoc (Nat.pos_of_ne_zero hna) k, Nat.add_sub_of_le hk1]
      have c0 : ∀ y ∈ (arr.extract (0 + k) n1).toList, kle ((arr.extract n1 (n1 + nb))[0]'py) y := by
        rw [ex, y0]
        exact fun y hy => Int.le_of_lt (bk_false' (hk3 y hy))
      have cl : ∀ y ∈ (arr.extract n1 (n1 + nb)).toList, kle y ((arr.extract (0 + k) n1)[(arr.extract (0 + k) n1).size - 1]'pl) := by
        rw [ey, xl]
        exact fun y hy => Int.le_of_lt (bk_true (hb2 y hy))
      have kx : ∀ p ∈ (arr.extract (0 + k) n1).toList, IsK p := by
        rw [ex]
        exact fun p hp => keys p (List.mem_of_mem_take (List.mem_of_mem_drop hp))
      have ky : ∀ p ∈ (arr.extract n1 (n1 + nb)).toList, IsK p := by
        rw [ey]
        exact fun p hp => keys p (List.mem_of_mem_drop (List.mem_of_mem_take hp))
      have fin : ∀ (r : Array Keyed) (st2 : SortSt), LoG (setPending st #[(0, n1 + n2, pw)]) (arr.extract (0 + k) n1) (arr.extract n1 (n1 + nb)) r st2 →
          wpS (model prog w) A E s (do
            modify fun s => setArr s (r.toList.zipIdx.foldl (fun a (x : Keyed × Nat) => a.setIfInBounds (0 + k + x.2) x.1) (arrOf s))
            let __do_lift ← get
            pure (failedOf __do_lift).isNone) Q st2 := by
        rintro r st2 ⟨hS, hperm, hsort⟩
        rw [ex, ey] at hperm
        refine wpS_bind (wpS_modify (wpS_bind (wpS_get ?_)))
        have f2 : failedOf st2 = none := hS.failed.trans hf
        have a2 : arrOf st2 = arr := hS.arr.trans harr
        have hlen : r.toList.length = n1 - k + nb := by
          rw [hperm.length_eq, List.length_append, List.length_drop, List.length_take, List.length_take, List.length_drop, hl, Nat.min_eq_left hn1', Nat.min_eq_left (by rw [hz, Nat.add_sub_cancel_left]; exact hb1)]
        have ew := foldl_writes (0 + k) r.toList 0 arr (by rw [hlen, Nat.add_zero, Nat.zero_add, ← Nat.add_assoc, Nat.add_sub_of_le hk1, hz]; exact Nat.add_le_add_left hb1 n1)
        have e3 : (failedOf (setArr st2 (r.toList.zipIdx.foldl (fun a (x : Keyed × Nat) => a.setIfInBounds (0 + k + x.2) x.1) (arrOf st2)))).isNone = true := by
          show (failedOf st2).isNone = true
          rw [f2]; rfl
        have hT : arr.toList.take (0 + k + 0) = (arr.toList.take n1).take k := by
          rw [List.take_take, Nat.min_eq_left hk1]
          congr 1
          exact Nat.zero_add k
        have hD : arr.toList.drop (0 + k + 0 + r.toList.length) = (arr.toList.drop n1).drop nb := by
          rw [List.drop_drop, hlen]
          congr 1
          rw [Nat.add_zero, Nat.zero_add, ← Nat.add_assoc, Nat.add_sub_of_le hk1]
        rw [hT, hD] at ew
        rw [e3]
        refine wpS_pure (h _ ⟨f2, hS.pend, ?_, ?_⟩)
        · show (r.toList.zipIdx.foldl (fun a (x : Keyed × Nat) => a.setIfInBounds (0 + k + x.2) x.1) (arrOf st2)).toList.Perm _
          rw [a2, ew]
          refine List.Perm.trans (List.Perm.append_right _ (List.Perm.append_left _ hperm)) ?_
          have e4 : (arr.toList.take n1).take k ++ ((arr.toList.take n1).drop k ++ (arr.toList.drop n1).take nb) ++ (arr.toList.drop n1).drop nb = arr.toList := by
            rw [← List.append_assoc, List.take_append_drop, List.append_assoc, List.take_append_drop, List.take_append_drop]
          rw [e4]
        · show (r.toList.zipIdx.foldl (fun a (x : Keyed × Nat) => a.setIfInBounds (0 + k + x.2) x.1) (arrOf st2)).toList.Pairwise kle
          rw [a2, ew]
          have rmem : ∀ z ∈ r.toList, z ∈ (arr.toList.take n1).drop k ∨ z ∈ (arr.toList.drop n1).take nb := fun z hz => List.mem_append.mp (hperm.mem_iff.mp hz)
          have lo : ∀ z ∈ r.toList, kle arr[n1] z := by
            intro z hz
            rcases rmem z hz with hz | hz
            · exact Int.le_of_lt (bk_false' (hk3 z hz))
            · exact d2 z (List.mem_of_mem_take hz)
          have hi : ∀ z ∈ r.toList, kle z arr[n1 - 1] := by
            intro z hz
            rcases rmem z hz with hz | hz
            · exact last z (List.mem_of_mem_drop hz)
            · exact Int.le_of_lt (bk_true (hb2 z hz))
          rw [List.pairwise_append]
          refine ⟨List.pairwise_append.mpr ⟨s1.sublist (List.take_sublist _ _), hsort, fun x hx y hy => Int.le_trans (bk_false (hk2 x hx)) (lo y hy)⟩, s2.sublist (List.drop_sublist _ _), fun x hx y hy => ?_⟩
          rcases List.mem_append.mp hx with hx | hx
          · exact Int.le_trans (bk_false (hk2 x hx)) (d2 y (List.mem_of_mem_drop hy))
          · exact Int.le_trans (hi x hx) (bk_true' (hb3 y hy))
      by_cases hle : n1 - k ≤ nb
      · rw [if_pos hle]
        refine wpS_bind (wpS_mergeLo hk kx ky px py (by rw [ex]; exact sx) (by rw [ey]; exact sy) c0 ?_ fun r st2 hg => fin r st2 hg)
        intro y hy x hx
        have zl : (arr.extract (0 + k) n1).toList.drop ((arr.extract (0 + k) n1).size - 1) = [(arr.extract (0 + k) n1)[(arr.extract (0 + k) n1).size - 1]'pl] := by
          rw [drop_cons rfl pl, List.drop_eq_nil_of_le (by rw [Array.length_toList]; exact Nat.le_of_eq (Nat.sub_add_cancel px).symm)]
        rw [zl] at hx
        rw [List.mem_singleton.mp hx]
        exact cl y hy
      · rw [if_neg hle]
        exact wpS_bind (wpS_mergeHi hk kx ky px py (by rw [ex]; exact sx) (by rw [ey]; exact sy) c0 cl fun r st2 hg => fin r st2 hg)
end
/-! S5 -/
noncomputable def crTail (lo n0 nrem : Nat) : StateT SortSt Sem (Option Nat) := do
  let mut n := n0
  reverseSlice' lo (lo + n)
  for _ in [n:nrem] do
    let some smaller ← ltAt' (lo + n) (lo + n - 1) | return none
    if smaller then break
    n := n + 1
  return some n
noncomputable def crDesc (lo n0 nrem : Nat) : StateT SortSt Sem (Option Nat) := do
  rule "list.sort.descending-run"
  let mut n := n0 + 1
  let mut neq := 0
  for _ in [n:nrem] do
    let some smaller ← ltAt' (lo + n) (lo + n - 1) | return none
    if smaller then
      if neq > 0 then reverseSlice' (lo + n - (neq + 1)) (lo + n)
      neq := 0
    else
      let some larger ← ltAt' (lo + n - 1) (lo + n) | return none
      if larger then break
      neq := neq + 1
    n := n + 1
  if neq > 0 then reverseSlice' (lo + n - (neq + 1)) (lo + n)
  reverseSlice' lo (lo + n)
  for _ in [n:nrem] do
    let some smaller ← ltAt' (lo + n) (lo + n - 1) | return none
    if smaller then break
    n := n + 1
  return some n
/-- sorted between two places -/
noncomputable def SIn (xs : Array Keyed) (lo hi : Nat) : Prop := ∀ i j, lo ≤ i → i ≤ j → j < hi → K xs i ≤ K xs j
/-- the second run is being made: all below lo as it was -/
structure R2 (X : Array Keyed) (lo pw : Nat) (st : SortSt) : Prop where
  kind : kindOf st = oneType'
  failed : failedOf st = none
  pend : pendingOf st = #[(0, lo, pw)]
  perm : (arrOf st).toList.Perm X.toList
  low : ∀ i, i < lo → (arrOf st)[i]? = X[i]?
structure Good (X : Array Keyed) : Prop where
  keys : ∀ p ∈ X.toList, IsK p
  nd : (X.toList.map keyN).Nodup
theorem R2.size {X : Array Keyed} {lo pw : Nat} {st : SortSt} (h : R2 X lo pw st) : (arrOf st).size = X.size := by
  rw [← Array.length_toList, h.perm.length_eq, Array.length_toList]
theorem R2.at {X : Array Keyed} {lo pw : Nat} {st : SortSt} (h : R2 X lo pw st) (G : Good X) {i : Nat} (hi : i < X.size) : ∃ t q, (arrOf st)[i]? = some (.int (K (arrOf st) i) t, q) := by
  have hi' : i < (arrOf st).size := by rw [h.size]; exact hi
  obtain ⟨n, t, hn⟩ := G.keys (arrOf st)[i] (h.perm.mem_iff.mp (by simp))
  refine ⟨t, (arrOf st)[i].2, ?_⟩
  rw [K_eq hi', getElem?_pos _ i hi']
  congr 1
  refine Prod.ext ?_ rfl
  rw [hn]; rfl
theorem R2.ne {X : Array Keyed} {lo pw : Nat} {st : SortSt} (h : R2 X lo pw st) (G : Good X) {i j : Nat} (hij : i < j) (hj : j < X.size) : K (arrOf st) i ≠ K (arrOf st) j := by
  have hj' : j < (arrOf st).size := by rw [h.size]; exact hj
  rw [K_eq (Nat.lt_trans hij hj'), K_eq hj']
  have nd : ((arrOf st).toList.map keyN).Nodup := (h.perm.map keyN).nodup_iff.mpr G.nd
  have z := List.pairwise_iff_getElem.mp nd i j (by rw [List.length_map, Array.length_toList]; exact Nat.lt_trans hij hj') (by rw [List.length_map, Array.length_toList]; exact hj') hij
  rw [List.getElem_map, List.getElem_map, Array.getElem_toList, Array.getElem_toList] at z
  exact z
section
variable {prog : Program} {w : World} {A : Around} {E : Value → Shared → Prop} {s : Shared}
theorem wpS_ltR {X : Array Keyed} {lo pw : Nat} {st : SortSt} {i j : Nat} {Q : Option Bool → SortSt → Prop} (R : R2 X lo pw st) (G : Good X) (hi : i < X.size) (hj : j < X.size)
    (h : Q (some (decide (K (arrOf st) i < K (arrOf st) j))) st) : wpS (model prog w) A E s (ltAt' i j) Q st := by
  obtain ⟨t, p, e1⟩ := R.at G hi
  obtain ⟨u, q, e2⟩ := R.at G hj
  exact wpS_ltAt R.kind e1 e2 h
theorem R2.set {X : Array Keyed} {lo pw : Nat} {st : SortSt} (R : R2 X lo pw st) {xs : Array Keyed} (hp : xs.Perm (arrOf st)) (hl : ∀ i, i < lo → xs[i]? = (arrOf st)[i]?) : R2 X lo pw (setArr st xs) :=
  ⟨R.kind, R.failed, R.pend, (Array.perm_iff_toList_perm.mp hp).trans R.perm, fun i hi => (hl i hi).trans (R.low i hi)⟩
/-- the rising loop -/
theorem wpS_rise {X : Array Keyed} {lo pw : Nat} {st : SortSt} {a nrem : Nat} {Q : Option (Option Nat) × Nat → SortSt → Prop} (R : R2 X lo pw st) (G : Good X) (hn : lo + nrem ≤ X.size) (ha : 1 ≤ a) (han : a ≤ nrem) (hs : SIn (arrOf st) lo (lo + a))
    (h : ∀ n, a ≤ n → n ≤ nrem → SIn (arrOf st) lo (lo + n) → (n = nrem ∨ K (arrOf st) (lo + n) < K (arrOf st) (lo + n - 1)) → Q (none, n) st) :
    wpS (model prog w) A E s (forIn [a:nrem] ((none, a) : Option (Option Nat) × Nat) fun _ __s => do
      let __x ← ltAt' (lo + __s.snd) (lo + __s.snd - 1)
      match __x with
      | some smaller => if smaller = true then pure (ForInStep.done (none, __s.snd)) else pure (ForInStep.yield (none, __s.snd + 1))
      | _ => pure (ForInStep.done (some none, __s.snd))) Q st := by
  refine wpS_forRange (I := fun x c st' => st' = st ∧ c = (none, x) ∧ SIn (arrOf st) lo (lo + x)) ?step ?fin ⟨rfl, rfl, hs⟩
  case fin =>
    rintro c st' ⟨rfl, rfl, hs'⟩
    rw [Nat.max_eq_right han] at hs' ⊢
    exact h nrem han (Nat.le_refl _) hs' (.inl rfl)
  case step =>
    rintro x c st' hax hxn ⟨rfl, rfl, hs'⟩
    (try dsimp only)
    refine wpS_bind (wpS_ltR R G (n_lt hxn hn) (Nat.lt_of_le_of_lt (Nat.sub_le _ 1) (n_lt hxn hn)) ?_)
    (try dsimp only)
    by_cases hless : K (arrOf st') (lo + x) < K (arrOf st') (lo + x - 1)
    · rw [if_pos (by simpa using hless)]
      exact wpS_pure (h x hax (Nat.le_of_lt hxn) hs' (.inr hless))
    · rw [if_neg (by simpa using hless)]
      refine wpS_pure ⟨rfl, rfl, fun i j hli hij hj => ?_⟩
      by_cases hjx : j < lo + x
      · exact hs' i j hli hij hjx
      · have ej : j = lo + x := q_ej hj hjx
        subst ej
        by_cases hi : i = lo + x
        · subst hi; exact Int.le_refl _
        · exact Int.le_trans (hs' i (lo + x - 1) hli (q_lt1 hij hi) (p_lt (q_pos hax ha) (Nat.le_refl _))) (Int.not_lt.mp hless)
theorem wpS_crTail {X : Array Keyed} {lo pw : Nat} {st : SortSt} {n nrem : Nat} {Q : Option Nat → SortSt → Prop} (R : R2 X lo pw st) (G : Good X) (hn : lo + nrem ≤ X.size) (h1 : 1 ≤ n) (hnn : n ≤ nrem)
    (hs : ∀ i j, lo ≤ i → i ≤ j → j < lo + n → K (arrOf st) j ≤ K (arrOf st) i) (h : ∀ m st', R2 X lo pw st' → 1 ≤ m → m ≤ nrem → SIn (arrOf st') lo (lo + m) → Q (some m) st') :
    wpS (model prog w) A E s (crTail lo n nrem) Q st := by
  have hsz : lo + n ≤ (arrOf st).size := by rw [R.size]; exact Nat.le_trans (Nat.add_le_add_left hnn lo) hn
  have R' : R2 X lo pw (setArr st (mirror (arrOf st) lo (lo + n) ((lo + n - lo) / 2))) := R.set (mirror_perm _ _ _ _) fun i hi => by
    rw [getElem?_mirror_all hsz, if_neg (fun e => absurd e.1 (Nat.not_le.mpr hi))]
  unfold crTail
  (try dsimp only)
  refine wpS_bind (wpS_reverse (wpS_bind (wpS_rise R' G hn h1 hnn ?_ fun m hm1 hm2 hsm _ => wpS_pure (h m _ R' (Nat.le_trans h1 hm1) hm2 hsm))))
  intro i j hli hij hj
  show K (mirror (arrOf st) lo (lo + n) ((lo + n - lo) / 2)) i ≤ K (mirror (arrOf st) lo (lo + n) ((lo + n - lo) / 2)) j
  rw [K_mirror hsz, K_mirror hsz, if_pos ⟨hli, Nat.lt_of_le_of_lt hij hj⟩, if_pos ⟨Nat.le_trans hli hij, hj⟩]
  have hp : 0 < lo + (lo + n) := Nat.lt_of_lt_of_le (Nat.lt_of_le_of_lt (Nat.zero_le j) hj) (Nat.le_add_left _ _)
  exact hs _ _ (Nat.le_sub_of_add_le (Nat.le_sub_one_of_lt (Nat.add_lt_add_left hj lo))) (Nat.sub_le_sub_left hij _) (Nat.sub_lt_left_of_lt_add (Nat.le_sub_one_of_lt (Nat.lt_of_lt_of_le (Nat.lt_of_le_of_lt hij hj) (Nat.le_add_left _ _))) (Nat.lt_of_lt_of_le (p_lt hp (Nat.le_refl _)) (Nat.add_le_add_right hli _)))
theorem wpS_crDesc {X : Array Keyed} {lo pw : Nat} {st : SortSt} {nrem : Nat} {Q : Option Nat → SortSt → Prop} (R : R2 X lo pw st) (G : Good X) (hn : lo + nrem ≤ X.size) (h2 : 2 ≤ nrem)
    (hs : K (arrOf st) (lo + 1) < K (arrOf st) lo) (h : ∀ m st', R2 X lo pw st' → 1 ≤ m → m ≤ nrem → SIn (arrOf st') lo (lo + m) → Q (some m) st') :
    wpS (model prog w) A E s (crDesc lo 1 nrem) Q st := by
  unfold crDesc
  refine wpS_bind (wpS_lift (wpAny_rule ⟨rfl, ?_⟩))
  (try dsimp only)
  refine wpS_bind (wpS_mono (wpS_forRange (I := fun x c st' => st' = st ∧ c = (none, x, 0) ∧ ∀ i j, lo ≤ i → i ≤ j → j < lo + x → K (arrOf st) j ≤ K (arrOf st) i)
    (Q := fun c st' => st' = st ∧ ∃ x, c = (none, x, 0) ∧ 2 ≤ x ∧ x ≤ nrem ∧ ∀ i j, lo ≤ i → i ≤ j → j < lo + x → K (arrOf st) j ≤ K (arrOf st) i) ?step ?fin ⟨rfl, rfl, ?init⟩) ?post)
  case init =>
    intro i j h1 h2 h3
    by_cases e : i = j
    · subst e; exact Int.le_refl _
    · obtain rfl : i = lo := Nat.le_antisymm (Nat.le_of_lt_succ (Nat.lt_of_lt_of_le (Nat.lt_of_le_of_ne h2 e) (Nat.le_of_lt_succ h3))) h1
      obtain rfl : j = i + 1 := Nat.le_antisymm (Nat.le_of_lt_succ h3) (Nat.lt_of_le_of_ne h2 e)
      exact Int.le_of_lt hs
  case fin =>
    rintro c st' ⟨rfl, rfl, hs'⟩
    rw [show max (1 + 1) nrem = nrem from Nat.max_eq_right h2] at hs' ⊢
    exact ⟨rfl, _, rfl, h2, Nat.le_refl _, hs'⟩
  case step =>
    rintro x c st' hax hxn ⟨rfl, rfl, hs'⟩
    (try dsimp only)
    refine wpS_bind (wpS_ltR R G (n_lt hxn hn) (Nat.lt_of_le_of_lt (Nat.sub_le _ 1) (n_lt hxn hn)) ?_)
    (try dsimp only)
    by_cases hless : K (arrOf st') (lo + x) < K (arrOf st') (lo + x - 1)
    · rw [if_pos (by simpa using hless), if_neg (Nat.lt_irrefl 0)]
      refine wpS_pure ⟨rfl, rfl, fun i j hli hij hj => ?_⟩
      by_cases hjx : j < lo + x
      · exact hs' i j hli hij hjx
      · have ej : j = lo + x := q_ej hj hjx
        subst ej
        by_cases hi : i = lo + x
        · subst hi; exact Int.le_refl _
        · exact Int.le_trans (Int.le_of_lt hless) (hs' i (lo + x - 1) hli (q_lt1 hij hi) (p_lt (q_pos hax (by decide)) (Nat.le_refl _)))
    · rw [if_neg (by simpa using hless)]
      refine wpS_bind (wpS_ltR R G (Nat.lt_of_le_of_lt (Nat.sub_le _ 1) (n_lt hxn hn)) (n_lt hxn hn) ?_)
      (try dsimp only)
      have hne := R.ne G (i := lo + x - 1) (j := lo + x) (p_lt (q_pos hax (by decide)) (Nat.le_refl _)) (n_lt hxn hn)
      rw [if_pos (by simp only [decide_eq_true_eq]; exact Int.lt_iff_le_and_ne.mpr ⟨Int.not_lt.mp hless, hne⟩)]
      exact wpS_pure ⟨rfl, x, rfl, hax, Nat.le_of_lt hxn, hs'⟩
  case post =>
    rintro c st' ⟨rfl, x, rfl, h2x, hxn, hs'⟩
    (try dsimp only)
    rw [if_neg (Nat.lt_irrefl 0)]
    exact wpS_crTail R G hn (Nat.le_of_succ_le h2x) hxn hs' h
theorem wpS_countRun2 {X : Array Keyed} {lo pw : Nat} {st : SortSt} {nrem : Nat} {Q : Option Nat → SortSt → Prop} (R : R2 X lo pw st) (G : Good X) (hn : lo + nrem ≤ X.size) (h1 : 1 ≤ nrem)
    (h : ∀ m st', R2 X lo pw st' → 1 ≤ m → m ≤ nrem → SIn (arrOf st') lo (lo + m) → Q (some m) st') : wpS (model prog w) A E s (countRun' lo nrem) Q st := by
  rw [countRun'_eq]
  (try dsimp only)
  refine wpS_bind (wpS_rise R G hn (Nat.le_refl 1) h1 (fun i j a b c => by have : i = j := Nat.le_antisymm b (Nat.le_trans (Nat.le_of_lt_succ c) a)
                                                                           subst this; exact Int.le_refl _) fun n hn1 hn2 hsn hor => ?_)
  (try dsimp only)
  by_cases hnn : n = nrem
  · rw [if_pos (by simpa using hnn)]
    exact wpS_pure (h n st R hn1 hn2 hsn)
  · rw [if_neg (by simpa using hnn)]
    have hlt := hor.resolve_left hnn
    by_cases hgt : n > 1
    · rw [if_pos hgt]
      have hp : lo + n - 1 < lo + n := p_lt (q_pos (Nat.le_refl n) hn1) (Nat.le_refl _)
      have hq := Nat.lt_of_lt_of_le hp (Nat.le_trans (Nat.add_le_add_left hn2 lo) hn)
      have hlo := Nat.lt_of_lt_of_le (Nat.lt_add_of_pos_right h1) hn
      refine wpS_bind (wpS_ltR R G (by first | exact hlo | exact hq) (by first | exact hlo | exact hq) ?_)
      (try dsimp only)
      have a1 := hsn lo (lo + n - 1) (Nat.le_refl _) (Nat.le_sub_one_of_lt (Nat.lt_add_of_pos_right hn1)) hp
      have a2 := R.ne G (i := lo) (j := lo + n - 1) (Nat.lt_sub_of_add_lt (Nat.add_lt_add_left hgt lo)) hq
      rw [if_pos (by simp only [decide_eq_true_eq]; exact Int.lt_iff_le_and_ne.mpr ⟨a1, a2⟩)]
      exact wpS_pure (h n st R hn1 hn2 hsn)
    · rw [if_neg hgt]
      obtain rfl : n = 1 := Nat.le_antisymm (Nat.le_of_not_lt hgt) hn1
      exact wpS_crDesc R G hn (Nat.lt_of_le_of_ne h1 hnn) hlt h
theorem bub1 {f : Nat → Int} {p q i : Nat} (h : i < p) : (if i = p then f q else if p < i ∧ i ≤ q then f (i - 1) else f i) = f i := by
  rw [if_neg (Nat.ne_of_lt h), if_neg (fun e => Nat.lt_asymm h e.1)]
theorem bub3 {f : Nat → Int} {p q i : Nat} (h : p < i) (h2 : i ≤ q) : (if i = p then f q else if p < i ∧ i ≤ q then f (i - 1) else f i) = f (i - 1) := by
  rw [if_neg (Nat.ne_of_gt h), if_pos ⟨h, h2⟩]
theorem bub_sorted {f : Nat → Int} {lo p q i j : Nat} (hl : ∀ i, lo ≤ i → i < p → f i ≤ f q) (hh : ∀ i, p ≤ i → i < q → f q ≤ f i) (hs : ∀ i j, lo ≤ i → i ≤ j → j < q → f i ≤ f j) (hli : lo ≤ i) (hij : i ≤ j) (hj : j ≤ q) (hlp : lo ≤ p) (hpq : p ≤ q) :
    (if i = p then f q else if p < i ∧ i ≤ q then f (i - 1) else f i) ≤ (if j = p then f q else if p < j ∧ j ≤ q then f (j - 1) else f j) := by
  have hj1 : p < j → j - 1 < q := fun h => p_lt (Nat.lt_of_le_of_lt (Nat.zero_le p) h) hj
  rcases Nat.lt_trichotomy i p with h | rfl | h
  · rw [bub1 h]
    rcases Nat.lt_trichotomy j p with h' | rfl | h'
    · rw [bub1 h']; exact hs i j hli hij (Nat.lt_of_lt_of_le h' hpq)
    · rw [if_pos rfl]; exact hl i hli h
    · rw [bub3 h' hj]; exact hs i (j - 1) hli (Nat.le_trans (Nat.le_of_lt h) (Nat.le_sub_one_of_lt h')) (hj1 h')
  · rw [if_pos rfl]
    rcases Nat.lt_or_eq_of_le hij with h' | rfl
    · rw [bub3 h' hj]; exact hh (j - 1) (Nat.le_sub_one_of_lt h') (hj1 h')
    · rw [if_pos rfl]; exact Int.le_refl _
  · have h' := Nat.lt_of_lt_of_le h hij
    rw [bub3 h (Nat.le_trans hij hj), bub3 h' hj]
    exact hs (i - 1) (j - 1) (Nat.le_trans hlp (Nat.le_sub_one_of_lt h)) (Nat.sub_le_sub_right hij 1) (hj1 h')
theorem wpS_binarySort2 {X : Array Keyed} {lo pw : Nat} {st : SortSt} {n ok : Nat} {Q : Bool → SortSt → Prop} (R : R2 X lo pw st) (G : Good X) (hn : lo + n ≤ X.size) (h1 : 1 ≤ ok) (hok : ok ≤ n) (hs : SIn (arrOf st) lo (lo + ok))
    (h : ∀ st', R2 X lo pw st' → SIn (arrOf st') lo (lo + n) → Q true st') : wpS (model prog w) A E s (binarySort' lo n ok) Q st := by
  rw [binarySort'_eq]
  rw [Nat.max_eq_left h1]
  refine wpS_bindN (fun kk hkk => wpS_mono (wpS_forRangeA (I := fun k c st' => c = (none, ()) ∧ R2 X lo pw st' ∧ SIn (arrOf st') lo (lo + k)) (Q := fun c st' => c = (none, ()) ∧ R2 X lo pw st' ∧ SIn (arrOf st') lo (lo + n)) ?step hok ?fin ⟨rfl, R, hs⟩) ?post)
  case post =>
    rintro c st' ⟨rfl, R', hs'⟩
    all_goals subst hkk
    all_goals (try dsimp only)
    exact wpS_pure (h st' R' hs')
  case fin =>
    rintro c st' ⟨hc, R', hs'⟩
    exact ⟨hc, R', hs'⟩
  case step =>
    rintro FF hFF k c st' hak hkn ⟨rfl, R', hs'⟩
    all_goals subst hFF
    all_goals (try dsimp only)
    (try dsimp only)
    refine wpS_bindN (fun kk hkk => wpS_mono (wpS_forRangeN (I := fun x c st'' => st'' = st' ∧ ∃ l r, c = (none, l, r) ∧ l ≤ r ∧ r ≤ k ∧ r - l + x ≤ k ∧
        (∀ i, i < l → K (arrOf st') (lo + i) ≤ K (arrOf st') (lo + k)) ∧ (∀ i, r ≤ i → i < k → K (arrOf st') (lo + k) < K (arrOf st') (lo + i)))
      (Q := fun c st'' => st'' = st' ∧ ∃ l r, c = (none, l, r) ∧ l ≤ k ∧
        (∀ i, i < l → K (arrOf st') (lo + i) ≤ K (arrOf st') (lo + k)) ∧ (∀ i, l ≤ i → i < k → K (arrOf st') (lo + k) < K (arrOf st') (lo + i))) ?istep ?ifin
        ⟨rfl, 0, k, rfl, Nat.zero_le _, Nat.le_refl _, Nat.le_refl _, fun i hi => absurd hi (Nat.not_lt_zero _), fun i h1 h2 => absurd h2 (Nat.not_lt.mpr h1)⟩) ?ipost)
    case ifin =>
      rintro c st'' ⟨rfl, l, r, rfl, hlr, hrk, hm, hlo, hhi⟩
      obtain rfl : l = r := Nat.le_antisymm hlr (n_end hm)
      exact ⟨rfl, l, l, rfl, hrk, hlo, hhi⟩
    case istep =>
      rintro FF hFF x c st'' - hxk ⟨rfl, l, r, rfl, hlr, hrk, hm, hlo, hhi⟩
      all_goals subst hFF
      all_goals (try dsimp only)
      (try dsimp only)
      by_cases hge : l ≥ r
      · rw [if_pos hge]
        obtain rfl : l = r := Nat.le_antisymm hlr hge
        exact wpS_pure ⟨rfl, l, l, rfl, hrk, hlo, hhi⟩
      · rw [if_neg hge]
        refine wpS_bind (wpS_ltR R' G (n_lt hkn hn) (n_lt (Nat.lt_of_lt_of_le (q_hi hge) (Nat.le_trans hrk (Nat.le_of_lt hkn))) hn) ?_)
        (try dsimp only)
        by_cases hless : K (arrOf st'') (lo + k) < K (arrOf st'') (lo + (l + r) / 2)
        · rw [if_pos (by simpa using hless)]
          refine wpS_pure ⟨rfl, l, (l + r) / 2, rfl, q_lo hge, Nat.le_trans (Nat.le_of_lt (q_hi hge)) hrk, q_step hm (Nat.sub_lt_sub_right (q_lo hge) (q_hi hge)), hlo, fun i a1 a2 => ?_⟩
          exact Int.lt_of_lt_of_le hless (hs' _ _ (Nat.le_add_right _ _) (Nat.add_le_add_left a1 lo) (Nat.add_lt_add_left a2 lo))
        · rw [if_neg (by simpa using hless)]
          refine wpS_pure ⟨rfl, (l + r) / 2 + 1, r, rfl, q_hi hge, hrk, q_step hm (Nat.sub_lt_sub_left (Nat.lt_of_not_le hge) (Nat.lt_succ_of_le (q_lo hge))), fun i a1 => ?_, hhi⟩
          exact Int.le_trans (hs' (lo + i) (lo + (l + r) / 2) (Nat.le_add_right _ _) (Nat.add_le_add_left (Nat.le_of_lt_succ a1) lo) (Nat.add_lt_add_left (Nat.lt_of_lt_of_le (q_hi hge) hrk) lo)) (Int.not_lt.mp hless)
    case ipost =>
      rintro c st'' ⟨rfl, l, r, rfl, hlk, hlo, hhi⟩
      all_goals subst hkk
      all_goals (try dsimp only)
      show wpS _ _ _ _ (do moveDown' (lo + k) (lo + l); pure (ForInStep.yield (none, ()))) _ _
      rw [moveDown'_eq]
      have hks : lo + k < (arrOf st'').size := by rw [R'.size]; exact n_lt hkn hn
      have es : lo + k - (lo + k - (lo + l)) = lo + l := Nat.sub_sub_self (Nat.add_le_add_left hlk lo)
      refine wpS_bind (wpS_modify (wpS_pure ⟨rfl, R'.set (bubble_perm _ _ _) fun i hi => ?_, ?_⟩))
      · rw [getElem?_bubble hks _ (Nat.sub_le _ _), es, if_neg (Nat.ne_of_lt (Nat.lt_of_lt_of_le hi (Nat.le_add_right lo l))), if_neg (fun e => absurd e.1 (Nat.not_lt.mpr (Nat.le_of_lt (Nat.lt_of_lt_of_le hi (Nat.le_add_right lo l)))))]
      · intro i j hli hij hj
        show K (bubble (arrOf st'') (lo + k) (lo + k - (lo + l))) i ≤ K (bubble (arrOf st'') (lo + k) (lo + k - (lo + l))) j
        rw [K_bubble hks (Nat.sub_le _ _), K_bubble hks (Nat.sub_le _ _), es]
        have hlo' : ∀ i, lo ≤ i → i < lo + l → K (arrOf st'') i ≤ K (arrOf st'') (lo + k) := fun i a b => by
          have := hlo (i - lo) (Nat.sub_lt_left_of_lt_add a b)
          rwa [Nat.add_sub_of_le a] at this
        have hhi' : ∀ i, lo + l ≤ i → i < lo + k → K (arrOf st'') (lo + k) ≤ K (arrOf st'') i := fun i a b => by
          have a' := Nat.le_trans (Nat.le_add_right lo l) a
          have := hhi (i - lo) (Nat.le_sub_of_add_le' a) (Nat.sub_lt_left_of_lt_add a' b)
          rw [Nat.add_sub_of_le a'] at this
          exact Int.le_of_lt this
        exact bub_sorted hlo' hhi' hs' hli hij (Nat.le_of_lt_succ hj) (Nat.le_add_right lo l) (Nat.add_le_add_left hlk lo)
end
/-! S6 -/
theorem take_sorted {xs : Array Keyed} {n : Nat} (hn : n ≤ xs.size) (h : SIn xs 0 n) : (xs.toList.take n).Pairwise kle := by
  rw [List.pairwise_iff_getElem]
  intro i j hi hj hij
  rw [List.length_take, Array.length_toList] at hi hj
  rw [List.getElem_take, List.getElem_take, Array.getElem_toList, Array.getElem_toList]
  have hjs := Nat.lt_of_lt_of_le hj (Nat.min_le_right _ _)
  have := h i j (Nat.zero_le _) (Nat.le_of_lt hij) (Nat.lt_of_lt_of_le hj (Nat.min_le_left _ _))
  rw [K_eq (Nat.lt_trans hij hjs), K_eq hjs] at this
  exact this
theorem drop_sorted {xs : Array Keyed} {lo : Nat} (h : SIn xs lo xs.size) : (xs.toList.drop lo).Pairwise kle := by
  rw [List.pairwise_iff_getElem]
  intro i j hi hj hij
  rw [List.length_drop, Array.length_toList] at hi hj
  rw [List.getElem_drop, List.getElem_drop, Array.getElem_toList, Array.getElem_toList]
  have hjs := Nat.add_lt_of_lt_sub' hj
  have := h (lo + i) (lo + j) (Nat.le_add_right _ _) (Nat.add_le_add_left (Nat.le_of_lt hij) lo) hjs
  rw [K_eq (Nat.add_lt_of_lt_sub' hi), K_eq hjs] at this
  exact this
theorem all_sorted {xs : Array Keyed} (h : xs.toList.Pairwise kle) : SortedTo xs xs.size := by
  intro i j hij hj
  rw [K_eq (Nat.lt_of_le_of_lt hij hj), K_eq hj]
  by_cases e : i = j
  · subst e; exact Int.le_refl _
  · have := List.pairwise_iff_getElem.mp h i j (by rw [Array.length_toList]; exact Nat.lt_of_le_of_lt hij hj) (by rw [Array.length_toList]; exact hj) (Nat.lt_of_le_of_ne hij e)
    rw [Array.getElem_toList, Array.getElem_toList] at this
    exact this
noncomputable def TwoRuns (a₀ : Array Keyed) (st : SortSt) : Prop :=
  (pendingOf st = #[(0, 64, 0)] ∧ failedOf st = none ∧ (arrOf st).toList.Perm a₀.toList ∧ (arrOf st).toList.Pairwise kle) ∨
  (∃ n1 n2 pw, 0 < n1 ∧ 0 < n2 ∧ n1 + n2 = 64 ∧ RunsOk st n1 n2 pw ∧ (arrOf st).toList.Perm a₀.toList)
section
variable {prog : Program} {w : World} {A : Around} {E : Value → Shared → Prop} {s : Shared}
noncomputable abbrev SRI (a₀ : Array Keyed) (x : Nat) (c : Option Unit × Nat) (st' : SortSt) : Prop := (x = 0 ∧ c = (none, 0) ∧ SBase a₀ st') ∨ (x = 1 ∧ ∃ X n1, c = (none, n1) ∧ 32 ≤ n1 ∧ n1 < 64 ∧ R2 X n1 0 st' ∧ arrOf st' = X ∧ X.toList.Perm a₀.toList ∧ SIn X 0 n1) ∨ (1 ≤ x ∧ c = (none, 64) ∧ TwoRuns a₀ st')
noncomputable abbrev SRQ (a₀ : Array Keyed) (c : Option Unit × Nat) (st' : SortSt) : Prop := c = (none, 64) ∧ TwoRuns a₀ st'
noncomputable abbrev MAI (a₀ : Array Keyed) (x : Nat) (c : Option Unit × Unit) (st'' : SortSt) : Prop := c = (none, ()) ∧ ((x = 0 ∧ TwoRuns a₀ st'') ∨ (1 ≤ x ∧ (pendingOf st'').size ≤ 1 ∧ (arrOf st'').toList.Perm a₀.toList ∧ failedOf st'' = none ∧ (arrOf st'').toList.Pairwise kle))
noncomputable abbrev MAQ (a₀ : Array Keyed) (c : Option Unit × Unit) (st'' : SortSt) : Prop := c = (none, ()) ∧ (arrOf st'').toList.Perm a₀.toList ∧ failedOf st'' = none ∧ (arrOf st'').toList.Pairwise kle
theorem wpS_sortRuns64 {a₀ : Array Keyed} {st : SortSt} {Q : Unit → SortSt → Prop} (h0 : IntKeys a₀) (G : Good a₀) (hB : SBase a₀ st) (h64 : a₀.size = 64)
    (h : ∀ st', (arrOf st').Perm a₀ → failedOf st' = none → SortedTo (arrOf st') a₀.size → Q () st') : wpS (model prog w) A E s sortRuns' Q st := by
  rw [sortRuns'_eq]
  refine wpS_bind (wpS_get ?_)
  dsimp only
  have hmr : minRun' 64 64 0 = 32 := rfl
  rw [hB.size, h64, hmr]
  have G' : ∀ st' : SortSt, (arrOf st').toList.Perm a₀.toList → Good (arrOf st') := fun st' hp =>
    ⟨fun p hp' => G.keys p (hp.mem_iff.mp hp'), (hp.map keyN).nodup_iff.mpr G.nd⟩
  have SB1 : ∀ st' : SortSt, SBase a₀ st' → (arrOf st').toList.Perm a₀.toList := fun st' hB' => Array.perm_iff_toList_perm.mp hB'.perm
  have first : ∀ (st' : SortSt) (n : Nat), SBase a₀ st' → 32 ≤ n → n ≤ 64 → SortedTo (arrOf st') n →
      (∃ n1, (none, 0 + n) = ((none : Option Unit), n1) ∧ 32 ≤ n1 ∧ n1 < 64 ∧ R2 (arrOf st') n1 0 (setPending st' ((pendingOf st').push (0, n, 0))) ∧ (arrOf st').toList.Perm a₀.toList ∧ SIn (arrOf st') 0 n1) ∨
      ((none, 0 + n) = ((none : Option Unit), 64) ∧ TwoRuns a₀ (setPending st' ((pendingOf st').push (0, n, 0)))) := by
    intro st' n hB' hn1 hn2 hs
    have hsn : SIn (arrOf st') 0 n := fun i j _ hij hj => hs i j hij hj
    by_cases hlt : n < 64
    · refine .inl ⟨n, by rw [Nat.zero_add], hn1, hlt, ⟨hB'.kind, hB'.failed, ?_, List.Perm.refl _, fun _ _ => rfl⟩, SB1 st' hB', hsn⟩
      show (pendingOf st').push (0, n, 0) = _
      rw [hB'.pend]; rfl
    · obtain rfl : n = 64 := Nat.le_antisymm hn2 (Nat.le_of_not_lt hlt)
      refine .inr ⟨rfl, .inl ⟨?_, hB'.failed, SB1 st' hB', ?_⟩⟩
      · show (pendingOf st').push (0, 64, 0) = _
        rw [hB'.pend]; rfl
      · show (arrOf st').toList.Pairwise kle
        have := take_sorted (xs := arrOf st') (n := 64) (by rw [hB'.size, h64]; exact Nat.le_refl _) hsn
        rwa [List.take_of_length_le (by rw [Array.length_toList, hB'.size, h64]; exact Nat.le_refl _)] at this
  refine wpS_bind (wpS_mono (wpS_forRange
    (I := SRI a₀) (Q := SRQ a₀) ?step ?fin (.inl ⟨rfl, rfl, hB⟩)) ?post)
  case fin =>
    rintro c st' (⟨hx, _, _⟩ | ⟨hx, _⟩ | ⟨_, hc, hD⟩)
    · exact absurd hx (by decide)
    · exact absurd hx (by decide)
    · exact ⟨hc, hD⟩
  case step =>
    rintro x c st' _ hx (⟨rfl, rfl, hB'⟩ | ⟨rfl, X, n1, rfl, hn1, hn2, R, hX, hXp, hs1⟩ | ⟨hx1, rfl, hD⟩)
    · dsimp only
      rw [if_neg (by decide)]
      refine wpS_bind (wpS_countRun h0 (by rw [h64]; decide) (by decide) hB' fun m st2 hB2 hm1 hm2 hs2 => ?_)
      dsimp only
      have hm2 : m ≤ 64 := hm2
      by_cases hlt : m < 32
      · rw [if_pos hlt]
        refine wpS_bind (wpS_lift (wpAny_rule ⟨rfl, ?_⟩))
        have e32 : min (64 - 0) 32 = 32 := rfl
        simp only [e32]
        refine wpS_bind (wpS_binarySort h0 (by rw [h64]; decide) (Nat.le_of_lt hlt) hB2 hs2 fun st3 hB3 hs3 => ?_)
        simp only [Bool.not_true, Bool.false_eq_true, if_false]
        refine wpS_bind (wpS_get ?_)
        have hb : (pendingOf st3).back? = none := by rw [hB3.pend]; rfl
        rw [hb]
        dsimp only
        refine wpS_bind (wpS_modify (wpS_pure ?_))
        rcases first st3 32 hB3 (by decide) (by decide) hs3 with ⟨n1, e, a, b, R, p, si⟩ | ⟨e, hT⟩
        · exact .inr (.inl ⟨by first | exact rfl | exact trivial, _, n1, e, a, b, R, rfl, p, si⟩)
        · exact .inr (.inr ⟨Nat.le_refl _, e, hT⟩)
      · rw [if_neg hlt]
        refine wpS_bind (wpS_get ?_)
        have hb : (pendingOf st2).back? = none := by rw [hB2.pend]; rfl
        rw [hb]
        dsimp only
        refine wpS_bind (wpS_modify (wpS_pure ?_))
        rcases first st2 m hB2 (Nat.le_of_not_lt hlt) hm2 hs2 with ⟨n1, e, a, b, R, p, si⟩ | ⟨e, hT⟩
        · exact .inr (.inl ⟨by first | exact rfl | exact trivial, _, n1, e, a, b, R, rfl, p, si⟩)
        · exact .inr (.inr ⟨Nat.le_refl _, e, hT⟩)
    · dsimp only
      rw [if_neg (Nat.not_le.mpr hn2)]
      have hfit : n1 + (64 - n1) = 64 := Nat.add_sub_of_le (Nat.le_of_lt hn2)
      subst hX
      have Gx := G' st' hXp
      have hXs : (arrOf st').size = 64 := by rw [← Array.length_toList, hXp.length_eq, Array.length_toList, h64]
      have second : ∀ (st2 : SortSt) (pw : Nat), R2 (arrOf st') n1 0 st2 → SIn (arrOf st2) n1 64 →
          TwoRuns a₀ (setPending (setPending st2 ((pendingOf st2).modify ((pendingOf st2).size - 1) fun x => (x.1, x.2.1, pw))) ((pendingOf (setPending st2 ((pendingOf st2).modify ((pendingOf st2).size - 1) fun x => (x.1, x.2.1, pw)))).push (n1, 64 - n1, 0))) := by
        intro st2 pw R2' hs2
        have hz : (arrOf st2).size = 64 := by rw [R2'.size, hXs]
        refine .inr ⟨n1, 64 - n1, pw, Nat.lt_of_lt_of_le (by decide) hn1, Nat.sub_pos_of_lt hn2, hfit, ⟨R2'.kind, R2'.failed, ?_, hz.trans hfit.symm, ?_, ?_, ?_⟩, R2'.perm.trans hXp⟩
        · show ((pendingOf st2).modify ((pendingOf st2).size - 1) fun x => (x.1, x.2.1, pw)).push (n1, 64 - n1, 0) = _
          rw [R2'.pend]
          simp
        · exact fun p hp => Gx.keys p (R2'.perm.mem_iff.mp hp)
        · refine take_sorted (xs := arrOf st2) (by rw [hz]; exact Nat.le_of_lt hn2) fun i j _ hij hj => ?_
          rw [K_congr (R2'.low i (Nat.lt_of_le_of_lt hij hj)), K_congr (R2'.low j hj)]
          exact hs1 i j (Nat.zero_le _) hij hj
        · exact drop_sorted (xs := arrOf st2) (by rw [hz]; exact hs2)
      refine wpS_bind (wpS_countRun2 R Gx (Nat.le_of_eq (hfit.trans hXs.symm)) (Nat.sub_pos_of_lt hn2) fun m st2 hR2 hm1 hm2 hs2 => ?_)
      dsimp only
      by_cases hlt : m < 32
      · rw [if_pos hlt]
        refine wpS_bind (wpS_lift (wpAny_rule ⟨rfl, ?_⟩))
        have e32 : min (64 - n1) 32 = 64 - n1 := Nat.min_eq_left (Nat.sub_le_sub_left hn1 64)
        simp only [e32]
        refine wpS_bind (wpS_binarySort2 hR2 Gx (Nat.le_of_eq (hfit.trans hXs.symm)) hm1 hm2 hs2 fun st3 hR3 hs3 => ?_)
        simp only [Bool.not_true, Bool.false_eq_true, if_false]
        rw [Nat.add_sub_of_le (Nat.le_of_lt hn2)] at hs3
        refine wpS_bind (wpS_get ?_)
        have hb : (pendingOf st3).back? = some (0, n1, 0) := by rw [hR3.pend]; rfl
        rw [hb]
        dsimp only
        refine wpS_bind (wpS_mono (wpS_forRange (I := fun _ c st'' => st'' = st3 ∧ c = (none, ())) (Q := fun c st'' => st'' = st3 ∧ c = (none, ())) ?_ (fun _ _ hh => hh) ⟨rfl, rfl⟩) ?_)
        · rintro x c st'' _ _ ⟨rfl, rfl⟩
          refine wpS_bind (wpS_get ?_)
          have hsz : (pendingOf st'').size = 1 := by rw [hR3.pend]; rfl
          rw [if_neg (by rw [hsz]; decide)]
          exact wpS_pure ⟨rfl, rfl⟩
        · rintro c st'' ⟨rfl, rfl⟩
          dsimp only
          exact wpS_bind (wpS_modify (wpS_bind (wpS_modify (wpS_pure (.inr (.inr ⟨by decide, by rw [Nat.add_sub_of_le (Nat.le_of_lt hn2)], second _ _ hR3 hs3⟩))))))
      · rw [if_neg hlt]
        obtain rfl : n1 = 32 := Nat.le_antisymm (Nat.le_of_add_le_add_left (Nat.add_le_of_le_sub (Nat.le_of_lt hn2) (Nat.le_trans (Nat.le_of_not_lt hlt) hm2) : 32 + n1 ≤ 32 + 32)) hn1
        obtain rfl : m = 64 - 32 := Nat.le_antisymm hm2 (Nat.le_of_not_lt hlt)
        refine wpS_bind (wpS_get ?_)
        have hb : (pendingOf st2).back? = some (0, 32, 0) := by rw [hR2.pend]; rfl
        rw [hb]
        dsimp only
        refine wpS_bind (wpS_mono (wpS_forRange (I := fun _ c st'' => st'' = st2 ∧ c = (none, ())) (Q := fun c st'' => st'' = st2 ∧ c = (none, ())) ?_ (fun _ _ hh => hh) ⟨rfl, rfl⟩) ?_)
        · rintro x c st'' _ _ ⟨rfl, rfl⟩
          refine wpS_bind (wpS_get ?_)
          have hsz : (pendingOf st'').size = 1 := by rw [hR2.pend]; rfl
          rw [if_neg (by rw [hsz]; decide)]
          exact wpS_pure ⟨rfl, rfl⟩
        · rintro c st'' ⟨rfl, rfl⟩
          dsimp only
          exact wpS_bind (wpS_modify (wpS_bind (wpS_modify (wpS_pure (.inr (.inr ⟨by decide, by rw [Nat.add_sub_of_le (Nat.le_of_lt hn2)], second _ _ hR2 hs2⟩))))))
    · dsimp only
      rw [if_pos (Nat.le_refl _)]
      exact wpS_pure ⟨rfl, hD⟩
  case post =>
    rintro c st' ⟨rfl, hD⟩
    dsimp only
    have fin : ∀ st2 : SortSt, (arrOf st2).toList.Perm a₀.toList → failedOf st2 = none → (arrOf st2).toList.Pairwise kle → Q () st2 := by
      intro st2 a1 a2 a3
      have hz : (arrOf st2).size = a₀.size := by rw [← Array.length_toList, a1.length_eq, Array.length_toList]
      exact h st2 (Array.perm_iff_toList_perm.mpr a1) a2 (hz ▸ all_sorted a3)
    refine wpS_bind (wpS_mono (wpS_forRange (I := MAI a₀) (Q := MAQ a₀) ?_ ?_ ⟨rfl, .inl ⟨rfl, hD⟩⟩) ?_)
    · rintro x c st'' _ _ ⟨rfl, hh⟩
      refine wpS_bind (wpS_get ?_)
      have done : (pendingOf st'').size ≤ 1 → (arrOf st'').toList.Perm a₀.toList → failedOf st'' = none → (arrOf st'').toList.Pairwise kle → ((none, ()) : Option Unit × Unit) = (none, ()) ∧ (arrOf st'').toList.Perm a₀.toList ∧ failedOf st'' = none ∧ (arrOf st'').toList.Pairwise kle := fun _ a b c => ⟨rfl, a, b, c⟩
      rcases hh with ⟨rfl, ⟨a1, a2, a3, a4⟩ | ⟨n1, n2, pw, b1, b2, b3, RO, bp⟩⟩ | ⟨_, c1, c2, c3, c4⟩
      · rw [if_pos (by rw [a1]; exact Nat.le_refl 1)]
        exact wpS_pure ⟨rfl, a3, a2, a4⟩
      · have hsz : (pendingOf st'').size = 2 := by rw [RO.pend]; rfl
        rw [if_neg (by rw [hsz]; decide)]
        rw [hsz]
        have hmg : wpS (model prog w) A E s (mergeAt' 0) (fun r st3 => r = true ∧ OneOk (arrOf st'').toList (n1 + n2) pw st3) st'' := wpS_mergeAt b1 b2 RO fun st3 ho => ⟨rfl, ho⟩
        refine wpS_bind (wpS_mono hmg ?_)
        rintro r st3 ⟨rfl, ho⟩
        simp only [Bool.not_true, Bool.false_eq_true, if_false]
        exact wpS_pure ⟨rfl, .inr ⟨Nat.le_refl _, by rw [ho.pend]; exact Nat.le_refl 1, ho.perm.trans bp, ho.failed, ho.sorted⟩⟩
      · rw [if_pos c1]
        exact wpS_pure ⟨rfl, c2, c3, c4⟩
    · rintro c st'' ⟨hc, ⟨hx, _⟩ | ⟨_, _, c2, c3, c4⟩⟩
      · exact absurd hx (by decide)
      · exact ⟨hc, c2, c3, c4⟩
    · rintro c st'' ⟨rfl, c2, c3, c4⟩
      exact wpS_pure (fin st'' c2 c3 c4)
end
/-! S7 -/
theorem pairs_good {vs : List Value} {ns : List Int} (hI : IntsAre vs ns) (hn : ns.Nodup) : Good (pairsOf vs) := by
  refine ⟨fun p hp => ?_, ?_⟩
  · rw [pairsOf_toList] at hp
    obtain ⟨n, t, e⟩ := hI.all _ (mem_zip_self hp).2
    exact ⟨n, t, e⟩
  · have e : (pairsOf vs).toList.map keyN = ns := by
      rw [pairsOf_toList]
      have : (vs.zip vs).map keyN = ((vs.zip vs).map Prod.fst).map numOf := by rw [List.map_map]; rfl
      rw [this, List.map_fst_zip (Nat.le_refl _), hI.nums]
    rw [e]
    exact hn
section
open PySem.Calls
variable {prog : Program} {w : World} {A : Around} {E : Value → Shared → Prop} {s : Shared}
theorem list_sort64 {a : Addr} {vs : List Value} {ns : List Int} {n : Nat} {P : Fin → Shared → Prop} (ho : s.heap.get? a = some (seqObj "list" vs.toArray n))
    (hI : IntsAre vs ns) (h64 : vs.length = 64) (hn : ns.Nodup)
    (h : ∀ (out : Array Value) (ns' : List Int), IntsAre out.toList ns' → ns'.Perm ns → ns'.Pairwise (· ≤ ·) → P (.done (.ret .none)) { s with heap := sortedHeap s.heap a vs out }) :
    wpAny (model prog w) A (Builtin.«list.sort» ⟨[.ref a], []⟩) P E s := by
  have ha : a < s.heap.objs.size := Heap.lt_size ho
  have hv : vs.toArray.size = 64 := by rw [List.size_toArray]; exact h64
  rw [list_sort_plain]
  refine wpAny_bind (listItems_at ho rfl (wpAny_bind (listUpdate_at ho rfl ?_ (hsz := by rw [hv, sizeLine_eq]; decide))))
  obtain ⟨e1, ho1⟩ : ∃ e1, (s.heap.update a (Obj.mapSeq fun _ => #[])).get? a = some (seqObj "list" #[] e1) := ⟨_, get?_update_seq ho (fun _ => #[])⟩
  refine wpAny_bind (seqEpoch_at ho1 rfl (wpAny_bind (wpAny_newTuple (wpAny_bind (wpAny_newList (wpAny_holding ?_))))))
  have ho6 : (((s.heap.update a (Obj.mapSeq fun _ => #[])).push (seqObj "tuple" vs.toArray 0)).push (seqObj "list" #[] 0)).get? a = some (seqObj "list" #[] e1) := by
    rw [Heap.get?_push_ne _ _ _ (by rw [size_push', Heap.size_update]; exact Nat.ne_of_lt (Nat.lt_succ_of_lt ha)), Heap.get?_push_ne _ _ _ (by rw [Heap.size_update]; exact Nat.ne_of_lt ha)]
    exact ho1
  show wpAny (model prog w) A _ P E { s with heap := ((s.heap.update a (Obj.mapSeq fun _ => #[])).push (seqObj "tuple" vs.toArray 0)).push (seqObj "list" #[] 0) }
  dsimp only
  have hps : (pairsOf vs).size = 64 := by rw [pairsOf_size]; exact h64
  rw [if_neg (by rw [hv]; decide), if_neg (by rw [hv]; decide)]
  obtain ⟨v₁, v₂, rest, hvs⟩ : ∃ v₁ v₂ rest, vs = v₁ :: v₂ :: rest := by
    match vs, h64 with
    | v₁ :: v₂ :: rest, _ => exact ⟨v₁, v₂, rest, rfl⟩
  have hkind : keyKind' vs.toArray = pure oneType' := by
    subst hvs
    exact keyKind_ints hI
  rw [hkind]
  refine wpAny_bind (wpAny_pure ?_)
  refine wpAny_bind (wpAny_mono (wpS_sortRuns64 (a₀ := pairsOf vs) (st := SortSt.mk' oneType' (vs.toArray.zip vs.toArray) #[] 7 none)
    (Q := fun _ st' => (arrOf st').Perm (pairsOf vs) ∧ failedOf st' = none ∧ SortedTo (arrOf st') (pairsOf vs).size)
    hI.intKeys (pairs_good hI hn) ⟨Array.Perm.refl _, rfl, rfl, rfl⟩ hps fun st' a1 a2 a3 => ⟨a1, a2, a3⟩) ?_ fun _ _ e => e)
  rintro ⟨⟨⟩, st'⟩ s' ⟨rfl, hp, hf, hs⟩
  dsimp only
  refine wpAny_bind (seqEpoch_at ho6 rfl (wpAny_bind (listUpdate_at ho6 rfl ?_ (hsz2 := by
    refine Nat.le_trans (Nat.le_of_eq ((Array.size_map ..).trans (hp.size_eq.trans hps))) ?_
    rw [sizeLine_eq]; decide))))
  rw [hf]
  simp only [bne_self_eq_false, Bool.false_eq_true, if_false]
  obtain ⟨ns', b1, b2, b3⟩ := sorted_out hI hp hs
  exact wpAny_pure (h _ ns' b1 b2 b3)
theorem sorted_ints64 {l : Addr} {vs : List Value} {ns : List Int} {Q : Value → Shared → Prop} (hl : s.heap.IsList l vs.toArray) (hI : IntsAre vs ns) (h64 : vs.length = 64) (hn : ns.Nodup)
    (h : ∀ (out : Array Value) (ns' : List Int), IntsAre out.toList ns' → ns'.Perm ns → ns'.Pairwise (· ≤ ·) → Q (.ref (s.heap.objs.size + 1)) { s with heap := sortedAll s.heap vs out }) :
    wpAny (model prog w) A (call (.builtin "sorted") [.ref l]) Q E s := by
  refine Calls.call_function_entry kind_sorted plain_sorted entry_sorted (args_sorted1 _) ?_
  unfold Builtin.«sorted»
  refine wpAny_bind (m := checkCount "sorted" 1 1 _) (wpAny_pure (wpAny_bind (collect_list hl (wpAny_bind (wpAny_newList ?_)) (hsz := by rw [h64, sizeLine_eq]; decide))))
  have hsz : ((s.heap.push (seqObj "list" #[] 0)).update s.heap.objs.size (Obj.mapSeq (· ++ vs.toArray))).objs.size = s.heap.objs.size + 1 := by
    rw [Heap.size_update, size_push']
  have hoL : (((s.heap.push (seqObj "list" #[] 0)).update s.heap.objs.size (Obj.mapSeq (· ++ vs.toArray))).push (seqObj "list" vs.toArray 0)).get? (s.heap.objs.size + 1) = some (seqObj "list" vs.toArray 0) := by
    rw [← hsz]; exact Heap.get?_push_size _ rfl
  show wpAny _ _ _ _ _ { s with heap := ((s.heap.push (seqObj "list" #[] 0)).update s.heap.objs.size (Obj.mapSeq (· ++ vs.toArray))).push (seqObj "list" vs.toArray 0) }
  rw [hsz]
  refine wpAny_bind (wpAny_holding (wpAny_call_entry slot_list_sort ⟨_, hoL, rfl⟩ entry_list_sort (list_sort64 hoL hI h64 hn fun out ns' a1 a2 a3 => ⟨_, rfl, ?_⟩) (args_list_sort _)))
  exact wpAny_pure ⟨_, rfl, h out ns' a1 a2 a3⟩
theorem sorted64 {h₀ : Heap} {L l : Addr} {m : Str → Option Value} {news : List (Addr × Obj)} {vs : List Value} {ns : List Int} {n : Nat} {Q : Value → Shared → Prop}
    (F : Fr h₀ L s.heap m) (N : News h₀ L s.heap news) (hl : (l, W.listOf vs.toArray n) ∈ news) (hi : IntsAre vs ns) (h64 : ns.length = 64) (hn : ns.Nodup)
    (h : ∀ D vs' ns' c h', Fr h₀ L h' m → News h₀ L h' ((D, W.listOf (List.toArray vs') c) :: news) → (∀ q ∈ news, q.1 < D) → IntsAre vs' ns' → ns'.Perm ns → ns'.Pairwise (· ≤ ·) → Q (.ref D) { s with heap := h' }) :
    wpAny (model prog w) A (call (.builtin "sorted") [.ref l]) Q E s := by
  refine sorted_ints64 ⟨_, (N _ hl).1, rfl, _, rfl⟩ hi (by rw [hi.length, h64]) hn fun out ns' a1 a2 a3 => ?_
  obtain ⟨e, he⟩ := sortedAll_at s.heap vs out
  exact h _ out.toList ns' e _ (F.kept fun _ _ => sortedAll_old) (N.kept_cons F (fun _ _ => sortedAll_old) (Nat.le_succ _) he) (fun p hp => Nat.lt_succ_of_lt (Heap.lt_size (N p hp).1)) a1 a2 a3
end
end Mine
end
open PySem PySem.W PyProof.Rows
namespace Mine
theorem said_ok : PySem.Challenge.rw_kq0047_01.wellSaid = true := by
  unfold OpenLaw.wellSaid OpenRow.wellSaid OpenRow.partSaid looksOpen
  repeat' (with_reducible refine look_both ?_ ?_)
  all_goals as_aux_lemma => (first | rw [PySem.W.Fast.te8326940854005059898] | rw [PySem.W.Fast.te8377067652309620493] | rw [PySem.W.Fast.te12862048085361865435] | rw [PySem.W.Fast.te17119622794617984870] | skip); decide +kernel
/-- the head's run begun at the library's written opening, by the library's own quick twins -/
theorem left_boot {p q : Program} {loose : List Str} {Xt : Shared → Bool} {α : Type} {Yf : Shared → α} {Ya : World → α} {N : Nat} {g0 : Bool} (eo : opening p = plainProg p.main.scope.names) (hN : Nat.ble 600 N = true) (f : ∀ s, fenceModules? p s = some s)
    (h : ∀ (w : World) (os : OsState), (match (boot_heap w.params).isNs mainGlobals with
      | true => (PySem.W.Fast.tw14082659384304107361 PySem.W.Fast.tw14364793385576792824 p w (boot_heap w.params).objs.size ((boot_heap w.params).nsMap mainGlobals "__annotations__") N ⟨boot_heap w.params, Array.mk [], boot_drawn, boot_toks, os⟩ (topStub p)).bind fun s₁ =>
          match staticsOk (importedModules p.main.body) (boot_heap w.params) s₁.heap && namesBound p s₁.heap && gensDone s₁ && laidKept (boot_heap w.params) s₁.heap with
          | true => some s₁
          | false => none
      | false => none).map (fun s => (PySem.W.Fast.tw4187177175401517315 q loose (importedModules p.main.body) Xt g0 s, Yf s)) = some (openGood q loose, Ya w)) : LeftO p q loose Xt Yf Ya N g0 := fun w => by
  obtain ⟨⟨h0, gs, d, k, os⟩, e, e'⟩ := Option.map_eq_some_iff.mp (boot_open eo hN f w)
  obtain ⟨rfl, rfl, rfl, rfl⟩ : h0 = boot_heap w.params ∧ gs = Array.mk [] ∧ d = boot_drawn ∧ k = boot_toks := by simpa using e'
  have t := h w os
  rw [← PySem.W.Fast.te4187177175401517315, ← PySem.W.Fast.te14082659384304107361, ← PySem.W.Fast.te14364793385576792824] at t
  unfold openEnds
  rw [e]
  refine Eq.trans ?_ t
  show (topFrom treeTable p w N _).map _ = _
  unfold topFrom
  dsimp only
  rw [show ((Array.mk [] : Array GenState).size == 0) = true from rfl, Bool.and_true]
  rfl
noncomputable def pick (is : List Nat) (b : List Stmt) : List Stmt := is.filterMap fun i => b[i]?
noncomputable def qv : Program := { PySem.Challenge.rw_kq0047_01.prog with main := { PySem.Challenge.rw_kq0047_01.prog.main with body := pick [0, 2, 3, 5, 6, 8, 9, 10, 11, 12, 13, 16, 18, 22, 24, 27, 28, 29, 30, 31, 32, 33] PySem.Challenge.rw_kq0047_01.prog.main.body } }
local macro_rules | `(tactic| o_law) => `(tactic| refine holds_law said_ok fun said => ?_)
local macro_rules | `(tactic| o_head $H) => `(tactic| (
  refine holds_open (q := qv) (loose := [Str.ofString "bytes_types", Str.ofString "a2b_base64", Str.ofString "b2a_base64", Str.ofString "_NO_SEP", Str.ofString "b2a_hex", Str.ofString "hexlify", Str.ofString "b64encode", Str.ofString "b64decode", Str.ofString "_initial_missing", Str.ofString "reduce"]) (Xt := fun s => xlAt qv [] s && recOk (RowW.records (OpenRow.toRowW (OpenLaw.row PySem.Challenge.rw_kq0047_01))) s) (XP := XL qv []) (Yf := Hook.obs $H) (Ya := Hook.val $H) (YP := Hook.says $H) (N := 2182) ?hl (Hook.of $H) (Hook.keeps $H) (fun s e => xl_of s (Bool.and_eq_true_iff.mp e).1) XL.keeps (by rfl) (by rfl) (by rfl) (fun s e => recFacts_of (Bool.and_eq_true_iff.mp e).2) (by rfl) (by first | assumption | decide +kernel) (by decide +kernel) ⟨rfl, rfl, rfl, rfl, rfl, by decide +kernel⟩ ?hw ?hc
  case hl => (refine left_boot (by kernel_rfl) rfl (fun s => rfl) ?_; intro w os; kernel_rfl)))
set_option maxHeartbeats 0 in
open_top hd for PySem.Challenge.rw_kq0047_01
/-! Base0 -/
noncomputable abbrev PG : Program := PySem.Challenge.rw_kq0047_01.row.prog
theorem all_app {D : Addr} {l own : List (Addr × Obj)} (h1 : ∀ p ∈ l, p.1 ≠ D) (h2 : ∀ p ∈ own, p.1 ≠ D) : ∀ p ∈ l ++ own, p.1 ≠ D := fun p hp => (List.mem_append.mp hp).elim (h1 p) (h2 p)
theorem ne_allLt {D : Addr} : ∀ {l : List (Addr × Obj)}, AllLt D l → ∀ p ∈ l, p.1 ≠ D
  | [], _, _, h => nomatch h
  | q :: r, h, p, hp => by
    rcases List.mem_cons.mp hp with rfl | hp
    · exact Nat.ne_of_lt h.1
    · exact ne_allLt h.2 p hp
theorem ne_ltAll {D : Addr} {l : List (Addr × Obj)} (h : ∀ p ∈ l, p.1 < D) : ∀ p ∈ l, p.1 ≠ D := fun p hp => Nat.ne_of_lt (h p hp)
theorem lt_allLt {D : Addr} : ∀ {l : List (Addr × Obj)}, AllLt D l → ∀ p ∈ l, p.1 < D
  | [], _, _, h => nomatch h
  | q :: r, h, p, hp => by
    rcases List.mem_cons.mp hp with rfl | hp
    · exact h.1
    · exact lt_allLt h.2 p hp
noncomputable def LeQ {α : Type} (Q Q' : α → Shared → Prop) : Prop := ∀ v s, Q v s → Q' v s
theorem unQ {α : Type} {Q Q' : α → Shared → Prop} {v : α} {s : Shared} (h : LeQ Q Q') (q : Q v s) : Q' v s := h v s q
/-- names a post, so that it is not written out again under each binder -/
theorem foldQ {α : Type} {M : Model} {A : Around} {c : Sem α} {Q : α → Shared → Prop} {E : Value → Shared → Prop} {s : Shared} (h : ∀ Q', LeQ Q Q' → wpAny M A c Q' E s) : wpAny M A c Q E s := h Q (fun _ _ x => x)
theorem foldQ2 {α β : Type} {M : Model} {A : Around} {c : Sem α} {c2 : Sem β} {Q : β → Shared → Prop} {E : Value → Shared → Prop} {s : Shared} (h : ∀ Q', LeQ Q Q' → wpAny M A c (fun _ s' => wpAny M A c2 Q' E s') E s) : wpAny M A c (fun _ s' => wpAny M A c2 Q E s') E s := h Q (fun _ _ x => x)
noncomputable def Held (P : Prop) : Prop := P
theorem hold {P : Prop} (h : Held P) : P := h
theorem fmod_lo' {x n : Int} (h : 0 < n) : 0 ≤ Int.fmod x n := Int.fmod_nonneg_of_pos x h
theorem fmod_hi' {x n : Int} (h : 0 < n) : Int.fmod x n < n := Int.fmod_lt_of_pos x h
section
variable {prog : Program} {w : World} {A : Around} {E : Value → Shared → Prop} {s : Shared} {env : Env} {h₀ : Heap} {x : Str} {body : List Stmt} {Q : Flow → Shared → Prop}
theorem iter_rangeN {r : Addr} {a₀ b₀ : Int} {t₀ u₀ v₀ : Tok} {n : Nat} {m₀ : Str → Option Value} {news : List (Addr × Obj)}
    (J : Nat → (Str → Option Value) → List (Addr × Obj) → Prop)
    (hh : A.handled = none) (hr : IsRange s.heap r a₀ b₀ 1 t₀ u₀ v₀) (hsmall : Builtin.Range.small a₀ b₀ 1 = true) (hn : Builtin.Range.rangeSize a₀ b₀ 1 = (n : Int)) (F : Fr h₀ env.locals s.heap m₀) (N : News h₀ env.locals s.heap news) (hj : J 0 m₀ news)
    (turn : ∀ (i : Nat) t m₁ nx h tk own, i < n → nx.map (·.1) = news.map (·.1) → OwnOff own (news.map (·.1)) → J i m₁ nx → Fr h₀ env.locals h (fun y => if y = x then some (.int (a₀ + (i : Int)) t) else m₁ y) → News h₀ env.locals h (nx ++ own) →
      wpAny (model prog w) A (execs body env) (InvPostN h₀ env.locals (J (i + 1)) own (news.map (·.1)) { s with heap := h, toks := tk } Q) E { s with heap := h, toks := tk })
    (done : ∀ m₁ nx h tk, J n m₁ nx → Fr h₀ env.locals h m₁ → News h₀ env.locals h nx → Q .next { s with heap := h, toks := tk }) :
    wpAny (model prog w) A (pyIter (.ref r)) (fun it s₂ => LoopAtV prog w A h₀ env x body Q E it s₂) E s := by
  refine PySem.wpAny_pyIter_range hr hsmall ?_
  have W : Walks prog w A s.heap.objs.size [s.heap.objs.size] [s.heap.objs.size] n (fun i v => i < n ∧ ∃ t, v = .int (a₀ + i * 1) t)
      (fun i h => IsRangeIter h s.heap.objs.size (a₀ + (i : Nat) * 1) ((n : Int) - (i : Nat)) 1) := (Walks.range hh _ a₀ 1 n).bound
  refine loop_invN J W ?_ ?_ ?_ ?_ (by show IsRangeIter _ _ _ _ _; rw [hn]; simpa using Heap.get?_push_size _ rfl) (F.push _) (fun p hp => ⟨Heap.get?_push_of_some _ (N p hp).1, (N p hp).2⟩) hj ?_ done
  · intro hm
    exact absurd F.ns.lt ((List.mem_singleton.mp hm) ▸ Nat.lt_irrefl _)
  · intro b hb
    rw [List.mem_singleton.mp hb]
    exact next_is_new F
  · intro p hp hI
    exact absurd (Heap.lt_size (N p hp).1) ((List.mem_singleton.mp hI) ▸ Nat.lt_irrefl _)
  · intro p hp hI
    exact absurd (Heap.lt_size (N p hp).1) ((List.mem_singleton.mp hI) ▸ Nat.lt_irrefl _)
  · rintro i v m₁ nx h tk own hi ⟨_, t, rfl⟩ ha ho hJ F' N'
    rw [Int.mul_one] at F'
    exact turn i t m₁ nx h tk own hi ha ho hJ F' N'
end
theorem ne_lt1 {D : Addr} {l : List (Addr × Obj)} (h : ∀ p ∈ l, p.1 < D) : ∀ p ∈ l, p.1 ≠ D + 1 := fun p hp => Nat.ne_of_lt (Nat.lt_succ_of_lt (h p hp))
theorem noPy {x y : Int} (h : y.natAbs < 2 ^ 65) : Builtin.divisionGoesByPylong x y = false := by
  refine PyProof.noPylong_of_log2 ?_
  by_cases h0 : y.natAbs = 0
  · rw [h0]; decide +kernel
  · have := (Nat.log2_lt h0).mpr h
    omega
theorem abs_pow2 (k : Nat) : ((2 : Int) ^ k).natAbs = 2 ^ k := by rw [Int.natAbs_pow]; rfl
theorem abs_pow256 (k : Nat) : ((256 : Int) ^ k).natAbs = 256 ^ k := by rw [Int.natAbs_pow]; rfl
section
variable {prog : Program} {w : World} {A : Around} {E : Value → Shared → Prop} {s : Shared} {a : Int} {t u : Tok} {Q : Value → Shared → Prop}
theorem fdiv_pow2 {k : Nat} (hk : k ≤ 64) (h : Q (.int (a.fdiv (2 ^ k)) s.toks) { s with toks := s.toks + 1 }) : wpAny (model prog w) A (binaryOp .FloorDiv (.int a t) (.int (2 ^ k) u)) Q E s :=
  PyProof.Rows.floordiv_int (Int.ne_of_gt (kbt_pos k)) h (Or.inl (noPy (by rw [abs_pow2]; exact Nat.pow_lt_pow_right (by decide) (by omega))))
theorem fdiv_pow256 {k : Nat} (hk : k ≤ 7) (h : Q (.int (a.fdiv (256 ^ k)) s.toks) { s with toks := s.toks + 1 }) : wpAny (model prog w) A (binaryOp .FloorDiv (.int a t) (.int (256 ^ k) u)) Q E s :=
  PyProof.Rows.floordiv_int (Int.ne_of_gt (pow_pos_of (by decide) k)) h (Or.inl (noPy (by rw [abs_pow256]; exact Nat.lt_of_le_of_lt (Nat.pow_le_pow_right (by decide) hk) (by decide))))
theorem fmod_pow2 {k : Nat} (h : Q (.int (a.fmod (2 ^ k)) s.toks) { s with toks := s.toks + 1 }) : wpAny (model prog w) A (binaryOp .Mod (.int a t) (.int (2 ^ k) u)) Q E s :=
  PyProof.Rows.mod_int (Int.ne_of_gt (kbt_pos k)) h
end
section
variable {prog : Program} {w : World} {A : Around} {E : Value → Shared → Prop} {s : Shared} {a x n k : Int} {t u : Tok} {Q : Value → Shared → Prop}
theorem fdiv_pos {a k : Int} (hk : 0 < k) : a.fdiv k = a / k := Int.fdiv_eq_ediv_of_nonneg a (Int.le_of_lt hk)
theorem shl8 (h0 : 0 ≤ a) (h1 : a < 1048576) (h : Q (.int (a * 256) s.toks) { s with toks := s.toks + 1 }) : wpAny (model prog w) A (binaryOp .LShift (.int a t) (.int 8 u)) Q E s :=
  lshift_int_small (by decide) (by decide) (by omega) h
theorem bitOr_pp' {x y : Int} (hx : 0 ≤ x) (hy : 0 ≤ y) : Builtin.bitOr x y = ((x.toNat ||| y.toNat : Nat) : Int) := by
  have n1 : ∀ z : Int, Builtin.bitNot z = -z - 1 := fun _ => rfl
  unfold Builtin.bitOr
  rw [bitAnd_nn (by rw [n1]; omega) (by rw [n1]; omega), n1 x, n1 y, n1, n1, n1, n1]
  have e1 : (-(-x - 1) - 1) = x := by omega
  have e2 : (-(-y - 1) - 1) = y := by omega
  rw [e1, e2]
  omega
theorem bitOr_low {a x : Int} {j : Nat} (h0 : 0 ≤ a) (h1 : 0 ≤ x) (h2 : x < 2 ^ j) : Builtin.bitOr (a * 2 ^ j) x = a * 2 ^ j + x := by
  obtain ⟨p, rfl⟩ := Int.eq_ofNat_of_zero_le h0
  obtain ⟨q, rfl⟩ := Int.eq_ofNat_of_zero_le h1
  have hq : q < 2 ^ j := by
    have := kbt_cast j
    omega
  have e : (p : Int) * 2 ^ j = ((p * 2 ^ j : Nat) : Int) := by rw [Int.natCast_mul, kbt_cast]
  rw [e, bitOr_pp' (by omega) (by omega), Int.toNat_natCast, Int.toNat_natCast, Nat.mul_comm, ← Nat.two_pow_add_eq_or_of_lt hq, Int.natCast_add]
theorem or_low (j : Nat) {m : Int} (hm : (2 : Int) ^ j = m) (h0 : 0 ≤ a) (h1 : 0 ≤ x) (h2 : x < m) (h : Q (.int (a * m + x) s.toks) { s with toks := s.toks + 1 }) : wpAny (model prog w) A (binaryOp .BitOr (.int (a * m) t) (.int x u)) Q E s :=
  PyProof.Rows.or_int (by subst hm; rw [bitOr_low h0 h1 h2]; exact h)
theorem and_mask (j : Nat) {m r : Int} (hm : (2 : Int) ^ j = m) (hr : m - 1 = r) (h : Q (.int (a % m) s.toks) { s with toks := s.toks + 1 }) : wpAny (model prog w) A (binaryOp .BitAnd (.int a t) (.int r u)) Q E s :=
  PyProof.Rows.and_int (by subst hm; subst hr; rw [kbt_mask]; exact h)
theorem shr_by (j : Nat) {m : Int} (hm : (2 : Int) ^ j = m) (hn : n = (j : Int)) (h : Q (.int (a / m) s.toks) { s with toks := s.toks + 1 }) : wpAny (model prog w) A (binaryOp .RShift (.int a t) (.int n u)) Q E s := by
  subst hn
  subst hm
  refine PyProof.Rows.rshift_int (by omega) ?_
  rw [Int.toNat_natCast, fdiv_pos (kbt_pos j)]
  exact h
theorem shl_by (j : Nat) {m : Int} (hm : (2 : Int) ^ j = m) (hn : n = (j : Int)) (h0 : 0 ≤ a) (h1 : a < 1048576) (h : Q (.int (a * m) s.toks) { s with toks := s.toks + 1 }) (hj : j ≤ 1000 := by decide) : wpAny (model prog w) A (binaryOp .LShift (.int a t) (.int n u)) Q E s := by
  subst hn
  exact lshift_int_small (by omega) (by omega) (by omega) (by subst hm; rw [Int.toNat_natCast]; exact h)
end
/-! the walk's own lines -/
private theorem fill0 : (hd.heap_1, PySem.Challenge.rw_kq0047_01) = (hd.heap_1, PySem.Challenge.rw_kq0047_01) := by w_top off; k_fill; rfl
local macro_rules | `(tactic| k_all) => `(tactic| first | with_reducible exact ne_allLt (by with_reducible assumption) | with_reducible exact ne_ltAll (by with_reducible assumption) | with_reducible exact ne_lt1 (by with_reducible assumption) | ((with_reducible refine all_app ?_ ?_) <;> k_all))
local macro_rules | `(tactic| walk_at "exec For Name Name cons nil") => `(tactic| refine hold ?_)
local macro_rules | `(tactic| walk_at "exec For Name Call cons nil") => `(tactic| refine hold ?_)
local macro_rules | `(tactic| walk_at "pyIter ref") => `(tactic| ((with_reducible show wpAny _ _ (pyIter (Value.ref _)) (fun it s₂ => LoopAtV _ _ _ _ _ _ _ _ _ it s₂) _ _); refine hold ?_))
local macro_rules | `(tactic| walk_at "pyIter bytes") => `(tactic| ((with_reducible show wpAny _ _ (pyIter (Value.bytes _ _)) (fun it s₂ => LoopAtV _ _ _ _ _ _ _ _ _ it s₂) _ _); refine hold ?_))
local macro_rules | `(tactic| walk_at "InvEndN") => `(tactic| refine hold ?_)
local macro_rules | `(tactic| walk_at "KswEnd") => `(tactic| refine hold ?_)
local macro_rules | `(tactic| walk_at "binaryOp Pow int int") => `(tactic| refine pow_int_small (by omega) (by omega) (by decide) ?_)
local macro_rules | `(tactic| walk_at "binaryOp FloorDiv int int") => `(tactic| first | refine fdiv_pow2 (by omega) ?_ | refine fdiv_pow256 (by omega) ?_)
local macro_rules | `(tactic| walk_at "binaryOp Mod int int") => `(tactic| refine fmod_pow2 ?_)
local macro_rules | `(tactic| walk_at "eval ListComp") => `(tactic| refine hold ?_)
local macro_rules | `(tactic| walk_at "CompSrc") => `(tactic| refine hold ?_)
local macro_rules | `(tactic| walk_at "CompEnd") => `(tactic| refine hold ?_)
local macro_rules | `(tactic| k_room) => `(tactic| ktr_room)
local macro_rules | `(tactic| k_units) => `(tactic| ktr_units)
local macro_rules | `(tactic| walk_at "call type:type") => `(tactic| ((with_reducible show wpAny _ _ (call _ [Value.bytes _ _]) _ _ _); refine call_type_of (Tx := "bytes") rfl (by decide +kernel) ?_))
local macro_rules | `(tactic| walk_at "ite") => `(tactic| first | (with_reducible refine ite_neg (by with_reducible assumption) ?_) | (with_reducible refine ite_pos (by with_reducible assumption) ?_) | refine ite_pos (by omega) ?_ | refine ite_neg (by omega) ?_)
local macro_rules | `(tactic| leave1) => `(tactic| with_reducible refine unQ (by with_reducible assumption) ?_)
theorem holdCall {M : Model} {A : Around} {a : Addr} {vs : List Value} {kw : List (Str × Value)} {Q E : Value → Shared → Prop} {s : Shared} (_ : List.contains ([35, 84, 92, 100, 117, 125, 132, 148, 162, 169, 176, 181] : List Nat) a = true) (h : Held (wpAny M A (call (Value.ref a) vs kw) Q E s)) : wpAny M A (call (Value.ref a) vs kw) Q E s := h
local macro_rules | `(tactic| walk_at "call ref") => `(tactic| refine holdCall (by with_unfolding_all rfl) ?_)
/-! C07 -/
section
variable {w : World} {dp un : Nat} {gd : Option (List Code)} {cn : Str} {cs : Scope} {a : Addr} {ccd : Value} {cl : List (Str × Addr)} {outer : List Env} {A₀ : Around} {base h₀ : Heap} {L : Addr} {m : Str → Option Value} {news : List (Addr × Obj)} {s : Shared} {Q E : Value → Shared → Prop} {p : Program} {loose : List Str} {mean : ExcName → Option Value} {mg mb : Str → Option Value}

noncomputable def b64S : List Int := [65, 66, 67, 68, 69, 70, 71, 72, 73, 74, 75, 76, 77, 78, 79, 80, 81, 82, 83, 84, 85, 86, 87, 88, 89, 90, 97, 98, 99, 100, 101, 102, 103, 104, 105, 106, 107, 108, 109, 110, 111, 112, 113, 114, 115, 116, 117, 118, 119, 120, 121, 122, 48, 49, 50, 51, 52, 53, 54, 55, 56, 57, 43, 47]
noncomputable def signF (i : Int) : Int := b64S.getD i.toNat 0
structure EncSt where
  lc : Int
  lb : Int
  out : List Int
noncomputable def encStep (c : EncSt) (b : Int) : EncSt :=
  let l := (c.lc * 256 + b) % 65536
  if c.lb = 0 then ⟨l, 2, c.out ++ [signF (l / 4 % 64)]⟩
  else if c.lb = 2 then ⟨l, 4, c.out ++ [signF (l / 16 % 64)]⟩
  else ⟨l, 0, c.out ++ [signF (l / 64 % 64), signF (l / 1 % 64)]⟩
noncomputable def encF (ks : List Int) : EncSt := ks.foldl encStep ⟨0, 0, []⟩
theorem encF_snoc (pre : List Int) (x : Int) : encF (pre ++ [x]) = encStep (encF pre) x := by unfold encF; rw [List.foldl_append]; rfl

theorem signF_in (i : Int) : 0 ≤ signF i ∧ signF i < 256 := by
  unfold signF
  rw [List.getD_eq_getElem?_getD]
  cases h : b64S[i.toNat]? with
  | none => exact ⟨by decide, by decide⟩
  | some v =>
    have hm := List.mem_of_getElem? h
    have : ∀ v ∈ b64S, 0 ≤ v ∧ v < 256 := by decide
    exact this v hm
theorem encStep_in {c : EncSt} {b : Int} (h : ∀ v ∈ c.out, 0 ≤ v ∧ v < 256) : ∀ v ∈ (encStep c b).out, 0 ≤ v ∧ v < 256 := by
  unfold encStep
  dsimp only
  split
  · intro v hv
    rcases List.mem_append.mp hv with hv | hv
    · exact h v hv
    · rw [List.mem_singleton.mp hv]; exact signF_in _
  · split
    · intro v hv
      rcases List.mem_append.mp hv with hv | hv
      · exact h v hv
      · rw [List.mem_singleton.mp hv]; exact signF_in _
    · intro v hv
      rcases List.mem_append.mp hv with hv | hv
      · exact h v hv
      · rcases List.mem_cons.mp hv with rfl | hv
        · exact signF_in _
        · rw [List.mem_singleton.mp hv]; exact signF_in _
theorem encF_in (ks : List Int) : ∀ v ∈ (encF ks).out, 0 ≤ v ∧ v < 256 := by
  have : ∀ (ks : List Int) (c : EncSt), (∀ v ∈ c.out, 0 ≤ v ∧ v < 256) → ∀ v ∈ (ks.foldl encStep c).out, 0 ≤ v ∧ v < 256 := by
    intro ks
    induction ks with
    | nil => intro c h; exact h
    | cons b r ih => intro c h; exact ih _ (encStep_in h)
  exact this ks _ (fun v hv => nomatch hv)
noncomputable abbrev EncC := List Value × EncSt × Nat × Tok × Tok
noncomputable abbrev encLed (D : Addr) (news : List (Addr × Obj)) (c : EncC) : List (Addr × Obj) := (D, listOf (List.toArray c.1) c.2.2.1) :: news
noncomputable abbrev encPs (c : EncC) : List (Str × Value) := [((Str.ofString "leftchar"), .int c.2.1.lc c.2.2.2.1), ((Str.ofString "leftbits"), .int c.2.1.lb c.2.2.2.2)]
noncomputable abbrev encFacts (c : EncC) : Prop := IntsAre c.1 c.2.1.out
noncomputable abbrev encP (pre : List Int) (c : EncC) : Prop := c.2.1 = encF pre ∧ (c.2.1.lb = 0 ∨ c.2.1.lb = 2 ∨ c.2.1.lb = 4) ∧ (0 ≤ c.2.1.lc ∧ c.2.1.lc < 65536) ∧ c.2.1.out.length ≤ 2 * pre.length
theorem enc_end1 {x : Str} {h₀ : Heap} {L D : Addr} {us : List Value} {out pre : List Int} {y v l b2 : Int} {t t1 t2 : Tok} {cc : Nat} {news own : List (Addr × Obj)} {m' m₀ : Str → Option Value} {h' : Heap} {tk : Nat} {s₁ : Shared} {adr : List Addr}
    (F : Fr h₀ L h' m') (N : News h₀ L h' ((D, listOf (us.toArray.push (.int v t)) (cc + 1)) :: (news ++ own))) (hus : IntsAre us out) (h1 : m' (Str.ofString "leftchar") = some (.int l t1)) (h2 : m' (Str.ofString "leftbits") = some (.int b2 t2))
    (hr : ∀ z, z ≠ x → z ≠ (Str.ofString "leftchar") → z ≠ (Str.ofString "leftbits") → m' z = m₀ z) (hst : encF (pre ++ [y]) = ⟨l, b2, out ++ [v]⟩) (hb : b2 = 0 ∨ b2 = 2 ∨ b2 = 4) (hl : 0 ≤ l ∧ l < 65536) (ho : out.length ≤ 2 * pre.length) (ha : D :: news.map (·.1) = adr) :
    InvEndN h₀ L (KstS (encLed D news) encPs encFacts x [] m₀ encP (pre ++ [y])) own adr s₁ { s₁ with heap := h', toks := tk } := by
  rw [List.push_toArray] at N
  refine kst_end (us ++ [.int v t], ⟨l, b2, out ++ [v]⟩, cc + 1, t1, t2) F N ?_ ?_ ha (hus.append (.cons v t .nil)) (List.forall_mem_cons.mpr ⟨h1, List.forall_mem_cons.mpr ⟨h2, List.forall_mem_nil _⟩⟩) (fun z q1 q2 _ => hr z q1 (q2 _ (.head _)) (q2 _ (.tail _ (.head _)))) ⟨hst.symm, hb, hl, ?_⟩
  · intro p hp
    rcases List.mem_cons.mp hp with rfl | hp
    · exact .head _
    · exact .tail _ (List.mem_append.mpr (.inl hp))
  · exact fun p hp => .tail _ (List.mem_append.mpr (.inr hp))
  · simp only [List.length_append, List.length_cons, List.length_nil]; omega
theorem enc_end2 {x : Str} {h₀ : Heap} {L D : Addr} {us : List Value} {out pre : List Int} {y v v' l b2 : Int} {t t' t1 t2 : Tok} {cc : Nat} {news own : List (Addr × Obj)} {m' m₀ : Str → Option Value} {h' : Heap} {tk : Nat} {s₁ : Shared} {adr : List Addr}
    (F : Fr h₀ L h' m') (N : News h₀ L h' ((D, listOf ((us.toArray.push (.int v t)).push (.int v' t')) (cc + 1 + 1)) :: (news ++ own))) (hus : IntsAre us out) (h1 : m' (Str.ofString "leftchar") = some (.int l t1)) (h2 : m' (Str.ofString "leftbits") = some (.int b2 t2))
    (hr : ∀ z, z ≠ x → z ≠ (Str.ofString "leftchar") → z ≠ (Str.ofString "leftbits") → m' z = m₀ z) (hst : encF (pre ++ [y]) = ⟨l, b2, out ++ [v, v']⟩) (hb : b2 = 0 ∨ b2 = 2 ∨ b2 = 4) (hl : 0 ≤ l ∧ l < 65536) (ho : out.length ≤ 2 * pre.length) (ha : D :: news.map (·.1) = adr) :
    InvEndN h₀ L (KstS (encLed D news) encPs encFacts x [] m₀ encP (pre ++ [y])) own adr s₁ { s₁ with heap := h', toks := tk } := by
  rw [List.push_toArray, List.push_toArray, List.append_assoc] at N
  refine kst_end (us ++ ([.int v t] ++ [.int v' t']), ⟨l, b2, out ++ [v, v']⟩, cc + 1 + 1, t1, t2) F N ?_ ?_ ha (hus.append (.cons v t (.cons v' t' .nil))) (List.forall_mem_cons.mpr ⟨h1, List.forall_mem_cons.mpr ⟨h2, List.forall_mem_nil _⟩⟩) (fun z q1 q2 _ => hr z q1 (q2 _ (.head _)) (q2 _ (.tail _ (.head _)))) ⟨hst.symm, hb, hl, ?_⟩
  · intro p hp
    rcases List.mem_cons.mp hp with rfl | hp
    · exact .head _
    · exact .tail _ (List.mem_append.mpr (.inl hp))
  · exact fun p hp => .tail _ (List.mem_append.mpr (.inr hp))
  · simp only [List.length_append, List.length_cons, List.length_nil]; omega
local macro_rules | `(tactic| walk_at "subscriptTail") => `(tactic| ((with_reducible show wpAny _ _ (subscriptTail _ _ (Value.bytes _ _) (Value.int _ _)) _ _ _); k_dflt (refine KBw.item_K (ks := b64S) (by rfl) (by decide) (by omega) (by show _ < (64 : Int); omega) ?_); intro _ _ _ _))
local macro_rules | `(tactic| walk_at "binaryOp LShift int int") => `(tactic| refine shl8 (by omega) (by omega) ?_)
local macro_rules | `(tactic| walk_at "binaryOp BitOr int int") => `(tactic| refine or_low 8 (m := 256) (by decide) (by omega) (by omega) (by omega) ?_)
local macro_rules | `(tactic| walk_at "binaryOp BitAnd int int") => `(tactic| first | refine and_mask 16 (m := 65536) (by decide) (by decide) ?_ | refine and_mask 6 (m := 64) (by decide) (by decide) ?_)
local macro_rules | `(tactic| walk_at "binaryOp RShift int int") => `(tactic| first | refine shr_by 2 (m := 4) (by decide) (by decide) ?_ | refine shr_by 4 (m := 16) (by decide) (by decide) ?_ | refine shr_by 6 (m := 64) (by decide) (by decide) ?_ | refine shr_by 0 (m := 1) (by decide) (by decide) ?_)
set_option rowWalk.seconds 0 in
set_option maxHeartbeats 8000000 in
theorem b2a_ok (B : Below A₀ base outer h₀) (F : Fr h₀ L s.heap m) (X : (hd.heap_1 w.params).In h₀) (N : News h₀ L s.heap news) (T : Top p loose mean mg mb h₀) (hk : cs.kind = .function) (hdp : dp + 8 < recursionLimit) (hun : un + 64 < cLine)
    {b : Array UInt8} {tb : Tok} {ks : List Int} (hb : KBw.bInts b = ks) (hlen : ks.length ≤ 1000) (h0 : (encF ks).lb = 0)
    (ret : ∀ b t h' tk', Fr h₀ L h' m → News h₀ L h' news → KBw.bInts b = (encF ks).out → Q (.bytes b t) { s with heap := h', toks := tk' }) :
    wpAny (model PG w) (ktrTop dp un gd cn cs L a ccd cl outer) (call (.ref 100) [.bytes b tb] [((Str.ofString "newline"), .bool false)]) Q E s := by
  refine wpAny_call ?_
  k_dflt (refine' code_def (binds := [((Str.ofString "data"), Value.bytes b tb), ((Str.ofString "newline"), Value.bool false)]) ?k1 ?k2 ?k3 ?k4 ?k5 ?kA ?kF ?kK ?k6 ?k7 ?k8 ?k9 ?kB ?_ ?c2 ?c3 ?c4 ?c5; (case kA => exact rfl); (case kF => exact rfl); (case kK => assumption); (case k1 => k_asm); (case k2 => k_asm); (case k3 => k_asm); (case k4 => k_asm); (case k5 => k_asm); (case k6 => k_is); (case k7 => k_is); (case k8 => ktr_room); (case k9 => first | exact BindsTo.of_eq rfl | exact binds_K (by k_in) rfl (by k_is) rfl rfl rfl); (case c5 => decide); (case kB => exact locs rfl); (case c2 => exact rfl); (case c3 => exact rfl); (case c4 => exact rfl); k_whole; intro g L1 h1 FG F1 N1 B1 X1 T1)
  k_fold
  k_steps
  unfold Held
  rename Fr g _ _ _ => F1
  rename News g _ _ _ => N1
  rename ∀ p ∈ news, p.1 < _ => hoffD
  rename_i D _ _ _ _
  refine For_invVF F1 (by rfl) (by rfl) ?_
  refine ld F1 (by rfl) ?_
  refine KStb.kst_bytes (len := ks.length) (encLed D news) encPs encFacts [] encP ([], ⟨0, 0, []⟩, 0, _, _) hb rfl rfl F1 N1 .nil (List.forall_mem_cons.mpr ⟨Eq.refl _, List.forall_mem_cons.mpr ⟨Eq.refl _, List.forall_mem_nil _⟩⟩) ⟨rfl, .inl rfl, ⟨Int.le_refl 0, Int.ofNat_lt.mpr (by decide)⟩, Nat.le_refl _⟩ ?_ ?_
  · rintro ⟨us, ⟨lc, lb, out⟩, ep, t1, t2⟩ pre post x t u h tk own hks hpl hx0 hx1 hoff hus ⟨he, hlb, hlc, hol⟩ F2 N2
    refine foldQ ?_
    intro qI hqI
    have F2 : Fr g L1 _ (fun y => if y = (Str.ofString "b") then _ else kstB _ [((Str.ofString "leftchar"), .int lc t1), ((Str.ofString "leftbits"), .int lb t2)] y) := F2
    have N2 : News g L1 _ ((D, listOf us.toArray ep) :: (news ++ own)) := N2
    have hus : IntsAre us out := hus
    dsimp only at he hlb hlc hol
    have hl2 : us.length ≤ 2000 := by rw [hus.length]; omega
    have hl0 : 0 ≤ (lc * 256 + x) % 65536 ∧ (lc * 256 + x) % 65536 < 65536 := ⟨by omega, by omega⟩
    rcases hlb with rfl | rfl | rfl
    all_goals k_steps
    all_goals (unfold Held; rename Fr g _ _ _ => F3; rename News g _ _ _ => N3)
    · refine enc_end1 F3 N3 hus (Eq.refl _) (Eq.refl _) ?_ (by rw [encF_snoc, ← he]; rfl) (.inr (.inl rfl)) hl0 hol rfl
      intro z h1 h2 h3; simp [kstB, h1, h2, h3]
    · refine enc_end1 F3 N3 hus (Eq.refl _) (Eq.refl _) ?_ (by rw [encF_snoc, ← he]; rfl) (.inr (.inr rfl)) hl0 hol rfl
      intro z h1 h2 h3; simp [kstB, h1, h2, h3]
    · refine enc_end2 F3 N3 hus (Eq.refl _) (Eq.refl _) ?_ (by rw [encF_snoc, ← he]; rfl) (.inl rfl) hl0 hol rfl
      intro z h1 h2 h3; simp [kstB, h1, h2, h3]
  · rintro ⟨us, ⟨lc, lb, out⟩, ep, t1, t2⟩ u h tk hks hus ⟨he, hlb, hlc, hol⟩ F2 N2
    have F2 : Fr g L1 _ (fun y => if y = (Str.ofString "b") then _ else kstB _ [((Str.ofString "leftchar"), .int lc t1), ((Str.ofString "leftbits"), .int lb t2)] y) := F2
    have N2 : News g L1 _ ((D, listOf us.toArray ep) :: news) := N2
    have hus : IntsAre us out := hus
    dsimp only at he hlb hlc hol
    have hl2 : us.length ≤ 2000 := by rw [hus.length]; omega
    have hlb0 : lb = 0 := by rw [← he] at h0; exact h0
    subst hlb0
    have hin : ∀ v ∈ out, 0 ≤ v ∧ v < 256 := by
      have := encF_in ks
      rw [← he] at this
      exact this
    rw [← he] at ret
    dsimp only at ret
    clear hlb
    k_steps
    rename KBa.In out => hI
    rename Fr h₀ _ _ _ => kF
    rename News h₀ _ _ _ => kN
    exact ret _ _ _ _ kF (cb_drop kN (by kcf_all)) (KBa.ints_make hI)
set_option rowWalk.seconds 0 in
set_option maxHeartbeats 8000000 in
theorem encode_ok (B : Below A₀ base outer h₀) (F : Fr h₀ L s.heap m) (X : (hd.heap_1 w.params).In h₀) (N : News h₀ L s.heap news) (T : Top p loose mean mg mb h₀) (hk : cs.kind = .function) (hdp : dp + 12 < recursionLimit) (hun : un + 96 < cLine)
    {b : Array UInt8} {tb : Tok} {ks : List Int} (hb : KBw.bInts b = ks) (hlen : ks.length ≤ 1000) (h0 : (encF ks).lb = 0)
    (ret : ∀ b t h' tk', Fr h₀ L h' m → News h₀ L h' news → KBw.bInts b = (encF ks).out → Q (.bytes b t) { s with heap := h', toks := tk' }) :
    wpAny (model PG w) (ktrTop dp un gd cn cs L a ccd cl outer) (call (.ref 117) [.bytes b tb]) Q E s := by
  refine wpAny_call ?_
  k_dflt (refine' code_def (binds := [((Str.ofString "s"), Value.bytes b tb), ((Str.ofString "altchars"), Value.none)]) ?k1 ?k2 ?k3 ?k4 ?k5 ?kA ?kF ?kK ?k6 ?k7 ?k8 ?k9 ?kB ?_ ?c2 ?c3 ?c4 ?c5; (case kA => exact rfl); (case kF => exact rfl); (case kK => assumption); (case k1 => k_asm); (case k2 => k_asm); (case k3 => k_asm); (case k4 => k_asm); (case k5 => k_asm); (case k6 => k_is); (case k7 => k_is); (case k8 => ktr_room); (case k9 => first | exact BindsTo.of_eq rfl | exact binds_K (by k_in) rfl (by k_is) rfl rfl rfl); (case c5 => decide); (case kB => exact locs rfl); (case c2 => exact rfl); (case c3 => exact rfl); (case c4 => exact rfl); k_whole; intro g L1 h1 FG F1 N1 B1 X1 T1)
  k_fold
  k_steps
  unfold Held
  k_dflt (refine' b2a_ok ?k1 ?k2 ?k3 ?k4 ?k5 ?kK ?kd ?ku hb hlen h0 ?_; (case k1 => k_asm); (case k2 => k_asm); (case k3 => k_asm); (case k4 => k_asm); (case k5 => k_asm); (case kK => first | exact rfl | assumption); (case kd => ktr_room); (case ku => ktr_units))
  intro b2 t2 h2 tk2 F2 N2 hb2
  dsimp only
  k_steps
  rename Fr h₀ _ _ _ => kF
  rename News h₀ _ _ _ => kN
  exact ret _ _ _ _ kF kN hb2
end
/-! while -/
local macro_rules | `(tactic| walk_at "exec While Compare cons nil") => `(tactic| refine hold ?_)
local macro_rules | `(tactic| walk_at "exec While BoolOp cons nil") => `(tactic| refine hold ?_)
/-! C01 -/
section
variable {w : World} {dp un : Nat} {gd : Option (List Code)} {cn : Str} {cs : Scope} {a : Addr} {ccd : Value} {cl : List (Str × Addr)} {outer : List Env} {A₀ : Around} {base h₀ : Heap} {L : Addr} {m : Str → Option Value} {news : List (Addr × Obj)} {s : Shared} {Q E : Value → Shared → Prop} {p : Program} {loose : List Str} {mean : ExcName → Option Value} {mg mb : Str → Option Value}

/-- from a row of five bits by its last way -/
noncomputable def nxt (ex : List Int) (v : Int) : Int := Int.fmod (2 * v + ex.getD v.toNat 0) 32
noncomputable def far (ex : List Int) : Nat → Int → Int
  | 0, v => v
  | k + 1, v => nxt ex (far ex k v)
structure ExOk (ex : List Int) : Prop where
  len : ex.length = 32
  bit : ∀ i, 0 ≤ ex.getD i 0 ∧ ex.getD i 0 ≤ 1
  tree : ∀ v : Int, 0 ≤ v → v < 32 → ∃ k, far ex k v = 0
theorem set_bit {ex : List Int} {j : Nat} (h : ∀ i, 0 ≤ ex.getD i 0 ∧ ex.getD i 0 ≤ 1) : ∀ i, 0 ≤ (ex.set j (1 - ex.getD j 0)).getD i 0 ∧ (ex.set j (1 - ex.getD j 0)).getD i 0 ≤ 1 := by
  intro i
  rw [List.getD_eq_getElem?_getD, List.getElem?_set]
  have h1 := h i
  have h2 := h j
  split
  · split
    · simp only [Option.getD_some]; omega
    · simp
  · rw [← List.getD_eq_getElem?_getD]; exact h1
theorem set_back {ex : List Int} {j : Nat} (hj : j < ex.length) : (ex.set j (1 - ex.getD j 0)).set j (1 - (ex.set j (1 - ex.getD j 0)).getD j 0) = ex := by
  rw [List.set_set, List.getD_eq_getElem?_getD (l := ex.set _ _), List.getElem?_set]
  simp only [hj, if_true, Option.getD_some]
  have : 1 - (1 - ex.getD j 0) = ex.getD j 0 := by omega
  rw [this, List.getD_eq_getElem?_getD, List.getElem?_eq_getElem hj, Option.getD_some, List.set_getElem_self]
theorem far_bound {ex : List Int} {v : Int} (h : 0 ≤ v ∧ v < 32) : ∀ k, 0 ≤ far ex k v ∧ far ex k v < 32
  | 0 => h
  | k + 1 => ⟨fmod_lo' (by decide), fmod_hi' (by decide)⟩

theorem far_next (ex : List Int) (v : Int) : ∀ k, far ex (k + 1) v = far ex k (nxt ex v)
  | 0 => rfl
  | k + 1 => by
    show nxt ex (far ex (k + 1) v) = nxt ex (far ex k (nxt ex v))
    rw [far_next ex v k]
theorem nxt_in (ex : List Int) (v : Int) : 0 ≤ nxt ex v ∧ nxt ex v < 32 := ⟨fmod_lo' (by decide), fmod_hi' (by decide)⟩
theorem ExOk.turn {ex : List Int} (h : ExOk ex) {s : Int} (h1 : 1 ≤ s) (h2 : s < 32) {k : Nat} (hk : far (ex.set s.toNat (1 - ex.getD s.toNat 0)) k s = 0) : ExOk (ex.set s.toNat (1 - ex.getD s.toNat 0)) := by
  refine ⟨by rw [List.length_set]; exact h.len, set_bit h.bit, ?_⟩
  have key : ∀ j (v : Int), 0 ≤ v → v < 32 → far ex j v = 0 → ∃ j', far (ex.set s.toNat (1 - ex.getD s.toNat 0)) j' v = 0 := by
    intro j
    induction j with
    | zero => intro v _ _ e; exact ⟨0, e⟩
    | succ j ih =>
      intro v a b e
      by_cases hv : v = s
      · subst hv; exact ⟨k, hk⟩
      · have en : nxt (ex.set s.toNat (1 - ex.getD s.toNat 0)) v = nxt ex v := by
          unfold nxt
          rw [List.getD_eq_getElem?_getD, List.getElem?_set, if_neg (by omega), ← List.getD_eq_getElem?_getD]
        rw [far_next] at e
        obtain ⟨j', hj⟩ := ih (nxt ex v) (nxt_in ex v).1 (nxt_in ex v).2 e
        refine ⟨j' + 1, ?_⟩
        rw [far_next, en]
        exact hj
  intro v a b
  obtain ⟨j, hj⟩ := h.tree v a b
  exact key j v a b hj
theorem exits_first (a : Int) (h : 0 ≤ a ∧ a ≤ 1) : ExOk (a :: List.replicate 31 0) := by
  have ha : a = 0 ∨ a = 1 := by omega
  refine ⟨by rw [List.length_cons, List.length_replicate], fun i => ?_, fun v h0 h1 => ?_⟩
  · cases i with
    | zero => exact h
    | succ j =>
      rw [List.getD_eq_getElem?_getD, List.getElem?_cons_succ, List.getElem?_replicate]
      split <;> simp
  · obtain ⟨n, rfl⟩ := Int.eq_ofNat_of_zero_le h0
    have hn : n < 32 := by omega
    have key : ∀ a : Fin 2, ∀ n : Fin 32, ∃ k : Fin 6, far (((a.val : Nat) : Int) :: List.replicate 31 0) k.val ((n.val : Nat) : Int) = 0 := by decide +kernel
    rcases ha with rfl | rfl
    · obtain ⟨k, hk⟩ := key 0 ⟨n, hn⟩
      exact ⟨k.val, hk⟩
    · obtain ⟨k, hk⟩ := key 1 ⟨n, hn⟩
      exact ⟨k.val, hk⟩

set_option rowWalk.seconds 0 in
set_option maxHeartbeats 8000000 in
theorem exits_ok (B : Below A₀ base outer h₀) (F : Fr h₀ L s.heap m) (X : (hd.heap_1 w.params).In h₀) (N : News h₀ L s.heap news) (T : Top p loose mean mg mb h₀) (hk : cs.kind = .function) (hdp : dp + 3 < recursionLimit) (hun : un + 24 < cLine)
    {l : Addr} {vs : List Value} {n : Nat} {ns : List Int} (hl : (l, listOf vs.toArray n) ∈ news) (hi : IntsAre vs ns) (hlen : 1 ≤ ns.length ∧ ns.length ≤ 100)
    (ret : ∀ D us c ex h' tk', Fr h₀ L h' m → News h₀ L h' ((D, listOf (List.toArray us) c) :: news) → (∀ p ∈ news, p.1 < D) → IntsAre us ex → ExOk ex → Q (.ref D) { s with heap := h', toks := tk' }) :
    wpAny (model PG w) (ktrTop dp un gd cn cs L a ccd cl outer) (call (.ref 148) [.ref l]) Q E s := by
  refine wpAny_call ?_
  k_dflt (refine' code_def (binds := [((Str.ofString "numbers"), Value.ref l)]) ?k1 ?k2 ?k3 ?k4 ?k5 ?kA ?kF ?kK ?k6 ?k7 ?k8 ?k9 ?kB ?_ ?c2 ?c3 ?c4 ?c5; (case kA => exact rfl); (case kF => exact rfl); (case kK => assumption); (case k1 => k_asm); (case k2 => k_asm); (case k3 => k_asm); (case k4 => k_asm); (case k5 => k_asm); (case k6 => k_is); (case k7 => k_is); (case k8 => ktr_room); (case k9 => first | exact BindsTo.of_eq rfl | exact binds_K (by k_in) rfl (by k_is) rfl rfl rfl); (case c5 => decide); (case kB => exact locs rfl); (case c2 => exact rfl); (case c3 => exact rfl); (case c4 => exact rfl); k_whole; intro g L1 h1 FG F1 N1 B1 X1 T1)
  k_fold
  k_steps
  unfold Held
  rename Fr _ _ _ _ => F1
  rename News _ _ _ _ => N1
  rename_i D _ l1 hh
  obtain ⟨-, -, -, l1⟩ := l1
  have hoffD := lt_allLt l1
  clear l1
  have h31 := fmod_lo' (x := Int.fdiv (ns.getD (Int.toNat 0) 0) 31) (n := 2) (by decide)
  have h32 := fmod_hi' (x := Int.fdiv (ns.getD (Int.toNat 0) 0) 31) (n := 2) (by decide)
  have key : ∃ us0, IntsAre us0 (Int.fmod (Int.fdiv (ns.getD (Int.toNat 0) 0) 31) 2 :: List.replicate 31 0) ∧ News g L1 hh ((D, listOf (List.toArray us0) 0) :: news) := by
    refine' ⟨_, ?ki, ?kN⟩
    case kN => exact cb_drop N1 (by kcf_all)
    case ki => repeat (first | exact .nil | refine .cons _ _ ?_)
  clear N1
  obtain ⟨us0, hus0, N1⟩ := key
  refine For_invVF F1 (by rfl) (by rfl) ?_
  refine ld F1 (by rfl) ?_
  refine kst_listL (fun c : List Value × List Int => (D, listOf (List.toArray c.1) 0) :: news) (fun _ => []) (fun c => IntsAre c.1 c.2) [(Str.ofString "start"), (Str.ofString "here"), (Str.ofString "turns")] (fun _ c => ExOk c.2) (us0, _) rfl (fun c => .tail _ hl) hi F1 N1 hus0 (by intro p hp; cases hp) (exits_first _ ⟨h31, by omega⟩) ?_ ?_
  · rintro ⟨us, ex⟩ pre post x t u h tk own hns hxm hoff hus hok F2 N2
    refine foldQ ?_
    intro qI hqI
    change Fr g L1 _ _ at F2
    change News g L1 _ _ at N2
    simp only [List.cons_append] at N2
    dsimp only at hus hok
    have hx1 := fmod_lo' (x := x) (n := 31) (by decide)
    have hx2 := fmod_hi' (x := x) (n := 31) (by decide)
    have hlen := hok.len
    have hbit := hok.bit (Int.fmod x 31 + 1).toNat
    have hbits := set_bit (j := (Int.fmod x 31 + 1).toNat) hok.bit
    k_steps
    unfold Held
    rename Fr _ _ _ _ => F3
    rename News _ _ _ _ => N3
    rename IntsAre (List.set _ _ _) _ => hus3
    rename List.length (List.set _ _ _) = _ => hlen3
    generalize hex3 : ex.set (Int.fmod x 31 + 1).toNat (1 - ex.getD (Int.fmod x 31 + 1).toNat 0) = ex3 at hus3 hlen3 hbits
    refine ksw_while (fun _ : Int × Tok × Int × Tok => _) (fun c => [((Str.ofString "here"), .int c.1 c.2.1), ((Str.ofString "turns"), .int c.2.2.1 c.2.2.2)]) (fun _ => True) [] (fun c => ∃ k : Nat, k ≤ 32 ∧ c.2.2.1 = (k : Int) ∧ c.1 = far ex3 k (Int.fmod x 31 + 1)) (fun c => (32 - c.2.2.1).toNat) (Int.fmod x 31 + 1, _, 0, _) F3 N3 trivial (List.forall_mem_cons.mpr ⟨Eq.refl _, List.forall_mem_cons.mpr ⟨Eq.refl _, List.forall_mem_nil _⟩⟩) ⟨0, by omega, rfl, rfl⟩ ?_
    · rintro ⟨here, th, turns, tt⟩ u2 h4 tk4 - ⟨k, hk32, hkt, hke⟩ F4 N4
      dsimp only at hkt hke
      subst hkt
      have hhere := far_bound (ex := ex3) (v := Int.fmod x 31 + 1) (by omega) k
      rw [← hke] at hhere
      have hbit4 := hbits here.toNat
      have hf1 := fmod_lo' (x := 2 * here + ex3.getD here.toNat 0) (n := 32) (by decide)
      have hf2 := fmod_hi' (x := 2 * here + ex3.getD here.toNat 0) (n := 32) (by decide)
      change Fr g L1 _ _ at F4
      change News g L1 _ _ at N4
      have hj : (Int.fmod x 31 + 1).toNat < ex.length := by omega
      k_steps
      · unfold Held
        rename Fr g _ _ _ => F5
        rename News g _ _ _ => N5
        rename _ < (32 : Int) => hlt
        dsimp only at hlt
        refine ksw_end (Int.fmod (2 * here + ex3.getD here.toNat 0) 32, _, (k : Int) + 1, _) F5 N5 (by kcf_all) trivial (List.forall_mem_cons.mpr ⟨Eq.refl _, List.forall_mem_cons.mpr ⟨Eq.refl _, List.forall_mem_nil _⟩⟩) ?_ ⟨k + 1, by omega, by simp, by rw [hke]; rfl⟩ (by dsimp only; omega)
        intro z h2 h3
        simp only [List.forall_mem_cons, List.not_mem_nil, false_implies, implies_true, and_true, ne_eq] at h2
        simp [kstB, h2]
      · unfold Held
        rename Fr g _ _ _ => F5
        rename News g _ _ _ => N5
        rename IntsAre (List.set _ _ _) (List.set ex3 _ _) => hus5
        have e5 : ex3.set (Int.fmod x 31 + 1).toNat (1 - ex3.getD (Int.fmod x 31 + 1).toNat 0) = ex := by rw [← hex3]; exact set_back hj
        refine kst_end (_, ex3.set (Int.fmod x 31 + 1).toNat (1 - ex3.getD (Int.fmod x 31 + 1).toNat 0)) F5 N5 ?hn ?ho ?ha hus5 (by intro p hp; cases hp) ?_ (by rw [e5]; exact hok)
        case hn => kcf_all
        case ho => kcf_all
        case ha => rfl
        intro z h1 h2 h3
        simp only [List.contains_cons, List.contains_nil, Bool.or_false, Bool.or_eq_false_iff, beq_eq_false_iff_ne, ne_eq] at h3
        simp [kstB, h1, h3]
      · exfalso
        rename _ ≠ (0 : Int) => q1
        rename _ = (0 : Int) => q2
        exact q1 q2
      · exfalso
        rename _ ≠ (0 : Int) => q1
        rename _ = (0 : Int) => q2
        exact q1 q2
      · unfold Held
        rename _ = (0 : Int) => q2
        dsimp only at q2
        refine kst_end (_, ex3) F4 N4 ?hn ?ho ?ha hus3 (by intro p hp; cases hp) ?_ ?_
        case hn => kcf_all
        case ho => kcf_all
        case ha => rfl
        · intro z h1 h2 h3
          simp only [List.contains_cons, List.contains_nil, Bool.or_false, Bool.or_eq_false_iff, beq_eq_false_iff_ne, ne_eq] at h3
          simp [kstB, h1, h3]
        · show ExOk ex3
          rw [← hex3]
          refine hok.turn (by omega) (by omega) (k := k) ?_
          rw [hex3, ← hke, q2]
  · rintro ⟨us, ex⟩ u h tk hus hok F2 N2
    change Fr g L1 _ _ at F2
    change News g L1 _ _ at N2
    k_steps
    rename Fr h₀ _ _ _ => kF
    rename News h₀ _ _ _ => kN
    exact ret D us 0 ex _ _ kF kN hoffD hus hok
end
/-! C05 -/
section
variable {w : World} {dp un : Nat} {gd : Option (List Code)} {cn : Str} {cs : Scope} {a : Addr} {ccd : Value} {cl : List (Str × Addr)} {outer : List Env} {A₀ : Around} {base h₀ : Heap} {L : Addr} {m : Str → Option Value} {news : List (Addr × Obj)} {s : Shared} {Q E : Value → Shared → Prop} {p : Program} {loose : List Str} {mean : ExcName → Option Value} {mg mb : Str → Option Value}

/-- the number that the first k bits from place p write -/
noncomputable def windowN (ns : List Int) (p : Int) : Nat → Int
  | 0 => 0
  | k + 1 => windowN ns p k * 2 + ns.getD (Int.fmod (p + k) 64).toNat 0
theorem windowN_bound {ns : List Int} (hn : ∀ i, 0 ≤ ns.getD i 0 ∧ ns.getD i 0 ≤ 1) (p : Int) : ∀ k, 0 ≤ windowN ns p k ∧ windowN ns p k < 2 ^ k
  | 0 => ⟨Int.le_refl 0, by show (0 : Int) < 2 ^ 0; decide⟩
  | k + 1 => by
    have h := windowN_bound hn p k
    have hb := hn (Int.fmod (p + k) 64).toNat
    have e : ((2 : Int) ^ (k + 1)) = 2 ^ k * 2 := by rw [Int.pow_succ]
    unfold windowN
    rw [e]
    omega

set_option rowWalk.seconds 0 in
set_option maxHeartbeats 8000000 in
theorem window_ok (B : Below A₀ base outer h₀) (F : Fr h₀ L s.heap m) (X : (hd.heap_1 w.params).In h₀) (N : News h₀ L s.heap news) (T : Top p loose mean mg mb h₀) (hk : cs.kind = .function) (hdp : dp + 3 < recursionLimit) (hun : un + 24 < cLine)
    {l : Addr} {vs : List Value} {n : Nat} {ns : List Int} {p : Int} {tp : Tok} (hl : (l, listOf vs.toArray n) ∈ news) (hi : IntsAre vs ns) (hlen : ns.length = 64) (hn : ∀ i, 0 ≤ ns.getD i 0 ∧ ns.getD i 0 ≤ 1) (hp : 0 ≤ p ∧ p < 64)
    (ret : ∀ t h' tk', Fr h₀ L h' m → News h₀ L h' news → Q (.int (windowN ns p 6) t) { s with heap := h', toks := tk' }) :
    wpAny (model PG w) (ktrTop dp un gd cn cs L a ccd cl outer) (call (.ref 169) [.ref l, .int p tp]) Q E s := by
  refine wpAny_call ?_
  k_dflt (refine' code_def (binds := [((Str.ofString "bits"), Value.ref l), ((Str.ofString "place"), Value.int p tp)]) ?k1 ?k2 ?k3 ?k4 ?k5 ?kA ?kF ?kK ?k6 ?k7 ?k8 ?k9 ?kB ?_ ?c2 ?c3 ?c4 ?c5; (case kA => exact rfl); (case kF => exact rfl); (case kK => assumption); (case k1 => k_asm); (case k2 => k_asm); (case k3 => k_asm); (case k4 => k_asm); (case k5 => k_asm); (case k6 => k_is); (case k7 => k_is); (case k8 => ktr_room); (case k9 => first | exact BindsTo.of_eq rfl | exact binds_K (by k_in) rfl (by k_is) rfl rfl rfl); (case c5 => decide); (case kB => exact locs rfl); (case c2 => exact rfl); (case c3 => exact rfl); (case c4 => exact rfl); k_whole; intro g L1 h1 FG F1 N1 B1 X1 T1)
  k_fold
  k_steps
  unfold Held
  rename Fr _ _ _ _ => F1
  rename News _ _ _ _ => N1
  refine For_invVF F1 (by rfl) (by rfl) ?_
  k_steps
  unfold Held
  rename Fr _ _ _ _ => F2
  rename News _ _ _ _ => N2
  rename IsRange _ _ _ _ _ _ _ _ => R2
  refine iter_rangeN (n := 6) (fun i m nx => nx = news ∧ (∃ t, m (Str.ofString "total") = some (.int (windowN ns p i) t)) ∧ ∀ z, z ≠ (Str.ofString "k") → z ≠ (Str.ofString "total") → m z = [((Str.ofString "bits"), Value.ref l), ((Str.ofString "place"), Value.int p tp)].reverse.lookup z) rfl R2 (by decide) (by decide) F2 N2 ⟨rfl, ⟨_, rfl⟩, fun z h1 h2 => by simp [h2]⟩ ?_ ?_
  · rintro i t m₁ nx h tk own hi6 hadr hoff ⟨rfl, ⟨ta, ha⟩, hm⟩ F3 N3
    refine foldQ ?_
    intro qI hqI
    rw [map_one ha hm, Int.zero_add] at F3
    change Fr g L1 _ _ at F3
    change News g L1 _ _ at N3
    have hb := windowN_bound hn p i
    have hb2 : (2 : Int) ^ i ≤ 2 ^ 6 := by
      have : i = 0 ∨ i = 1 ∨ i = 2 ∨ i = 3 ∨ i = 4 ∨ i = 5 := by omega
      rcases this with h | h | h | h | h | h <;> subst h <;> decide
    have hlo := fmod_lo' (x := p + (i : Int)) (n := 64) (by decide)
    have hhi := fmod_hi' (x := p + (i : Int)) (n := 64) (by decide)
    have hb3 : 0 ≤ windowN ns p i ∧ windowN ns p i < 64 := ⟨hb.1, by omega⟩
    clear hb hb2
    k_steps
    rename Fr g _ _ _ => F4
    rename News g _ _ _ => N4
    unfold Held
    refine' InvEndN.intro F4 N4 (nx := nx) ⟨rfl, ⟨_, rfl⟩, ?hZ⟩ rfl ?hS ?hO
    case hZ => intro z h1 h2; simp [h1, h2]
    case hS => kcf_all
    case hO => kcf_all
  · rintro m₁ nx h tk ⟨rfl, ⟨t, ht⟩, hm⟩ F3 N3
    rw [← done_one ht hm] at F3
    change Fr g L1 _ _ at F3
    change News g L1 _ _ at N3
    k_steps
    rename Fr h₀ _ _ _ => kF
    rename News h₀ _ _ _ => kN
    exact ret t _ _ kF kN
theorem bits_getD {b : List Int} (h : ∀ x ∈ b, x = 0 ∨ x = 1) (i : Nat) : 0 ≤ b.getD i 0 ∧ b.getD i 0 ≤ 1 := by
  rw [List.getD_eq_getElem?_getD]
  cases e : b[i]? with
  | none => simp
  | some x =>
    have := h x (List.mem_of_getElem? e)
    simp only [Option.getD_some]
    omega
end
/-! C06 -/
section
variable {w : World} {dp un : Nat} {gd : Option (List Code)} {cn : Str} {cs : Scope} {a : Addr} {ccd : Value} {cl : List (Str × Addr)} {outer : List Env} {A₀ : Around} {base h₀ : Heap} {L : Addr} {m : Str → Option Value} {news : List (Addr × Obj)} {s : Shared} {Q E : Value → Shared → Prop} {p : Program} {loose : List Str} {mean : ExcName → Option Value} {mg mb : Str → Option Value}

noncomputable def turnF (x y : Int) : Int := Int.fmod (x * 2 ^ y.toNat) (2 ^ Int.toNat 64) + Int.fdiv x (2 ^ (64 - y).toNat)
theorem add_turn {A : Around} {x y : Int} {t u : Tok} (h : Q (.int (turnF x y) s.toks) { s with toks := s.toks + 1 }) : wpAny (model PG w) A (binaryOp .Add (.int (Int.fmod (x * 2 ^ y.toNat) (2 ^ Int.toNat 64)) t) (.int (Int.fdiv x (2 ^ (64 - y).toNat)) u)) Q E s := PyProof.Rows.add_int h
local macro_rules | `(tactic| walk_at "binaryOp Add int int") => `(tactic| with_reducible refine add_turn ?_)
noncomputable def octetF (T : Int) (k : Int) : Int := Int.fmod (Int.fdiv T (256 ^ (7 - k).toNat)) 256
set_option rowWalk.seconds 0 in
set_option maxHeartbeats 8000000 in
theorem octets_ok (B : Below A₀ base outer h₀) (F : Fr h₀ L s.heap m) (X : (hd.heap_1 w.params).In h₀) (N : News h₀ L s.heap news) (T : Top p loose mean mg mb h₀) (hk : cs.kind = .function) (hdp : dp + 3 < recursionLimit) (hun : un + 24 < cLine)
    {x y : Int} {tx ty : Tok} (hx : 0 ≤ x ∧ x < 18446744073709551616) (hy : 0 ≤ y ∧ y ≤ 3)
    (ret : ∀ b t h' tk', Fr h₀ L h' m → News h₀ L h' news → KBw.bInts b = (rangeKs 0 8).map (octetF (turnF x y)) → Q (.bytes b t) { s with heap := h', toks := tk' }) :
    wpAny (model PG w) (ktrTop dp un gd cn cs L a ccd cl outer) (call (.ref 181) [.int x tx, .int y ty]) Q E s := by
  refine wpAny_call ?_
  k_dflt (refine' code_defC (binds := [((Str.ofString "number"), Value.int x tx), ((Str.ofString "late"), Value.int y ty)]) ?k1 ?k2 ?k3 ?k4 ?k5 ?kA ?kF ?kK ?k6 ?k7 ?k8 ?k9 ?kB ?kD ?_ ?c2 ?c3 ?c4; (case kA => exact rfl); (case kF => exact rfl); (case kK => assumption); (case k1 => k_asm); (case k2 => k_asm); (case k3 => k_asm); (case k4 => k_asm); (case k5 => k_asm); (case k6 => k_is); (case k7 => k_is); (case k8 => ktr_room); (case k9 => first | exact BindsTo.of_eq rfl | exact binds_K (by k_in) rfl (by k_is) rfl rfl rfl | fail "k_enter: no rule for these arguments"); (case kB => exact rfl); (case kD => decide +kernel); (case c2 => exact rfl); (case c3 => exact rfl); (case c4 => exact rfl); k_whole; intro g L1 h1 tk1 cells' FG F1 N1 Y1 B1 X1 T1 l1; k_cells Y1; (try simp only [List.cons_append, List.nil_append] at N1); (try dsimp only); (try k_fold))
  k_steps
  unfold Held
  rename _ = Data.cell (some (Value.int _ _)) => d1
  rename Fr _ _ _ _ => F2
  rename News _ _ _ _ => N2
  rename_i o9
  obtain ⟨tk9, d9⟩ : ∃ tk9, o9.data = Data.cell (some (Value.int (turnF x y) tk9)) := ⟨_, d1⟩
  clear d1
  k_gentoks
  generalize turnF x y = T at d9 ret
  refine LCg.ListComp_U (F₀ := F2) (by with_unfolding_all rfl) (by decide) (by rfl) (by decide) (by rfl) ?_
  k_steps
  unfold Held
  refine LCg.CompSrc.range (n := 8) (by rfl) (by k_asm) (by k_asm) (by assumption) (by decide) (by decide) (by decide) ?_
  intro g'
  refine kcf_range (octetF T) (fun k' t' I' oI' C' oC' D' m' ys' h' tk' E' hlo' hhi' hC' hx' F' N' off' ne' hMark' => ?_) ?_
  · k_steps
    unfold Held
    exact LCg.CompEnd.intro F' N' _ (fun _ h => h) off' trivial ⟨rfl, _, rfl⟩
  · unfold KPfDone
    intro ys hys D h3 tk3 F3 N3 off3
    have hin : ∀ v ∈ (rangeKs 0 8).map (octetF T), 0 ≤ v ∧ v < 256 := by
      intro v hv
      obtain ⟨k, _, rfl⟩ := List.mem_map.mp hv
      exact ⟨fmod_lo' (by decide), fmod_hi' (by decide)⟩
    generalize hL : (rangeKs 0 8).map (octetF T) = L8 at *
    have hL8 : L8.length = 8 := by rw [← hL]; rfl
    dsimp only
    k_steps
    rename KBa.In L8 => hI
    rename Fr h₀ _ _ _ => kF
    rename News h₀ _ _ _ => kN
    exact ret _ _ _ _ kF (cb_drop kN (by kcf_all)) (KBa.ints_make hI)
end
/-! C08 -/
section
variable {w : World} {dp un : Nat} {gd : Option (List Code)} {cn : Str} {cs : Scope} {a : Addr} {ccd : Value} {cl : List (Str × Addr)} {outer : List Env} {A₀ : Around} {base h₀ : Heap} {L : Addr} {m : Str → Option Value} {news : List (Addr × Obj)} {s : Shared} {Q E : Value → Shared → Prop} {p : Program} {loose : List Str} {mean : ExcName → Option Value} {mg mb : Str → Option Value}

noncomputable def placeF (o : Int) : Int := if 65 ≤ o ∧ o ≤ 90 then o - 65 else if 97 ≤ o ∧ o ≤ 122 then o - 71 else if 48 ≤ o ∧ o ≤ 57 then o + 4 else if o = 43 then 62 else if o = 47 then 63 else 64

theorem push_end {x : Str} {h₀ : Heap} {L D : Addr} {us : List Value} {ns pre : List Int} {y v : Int} {t : Tok} {cc : Nat} {news own : List (Addr × Obj)} {m' m₀ : Str → Option Value} {h' : Heap} {tk : Nat} {s₁ : Shared} {stored : List Str} {f : Int → Int} {adr : List Addr}
    (F : Fr h₀ L h' m') (N : News h₀ L h' ((D, listOf (us.toArray.push (.int v t)) (cc + 1)) :: (news ++ own))) (hus : IntsAre us ns) (hns : ns = pre.map f) (hv : v = f y) (hr : ∀ z, z ≠ x → stored.contains z = false → m' z = m₀ z) (ha : D :: news.map (·.1) = adr) :
    InvEndN h₀ L (KstS (fun c : List Value × List Int × Nat => (D, listOf (List.toArray c.1) c.2.2) :: news) (fun _ => []) (fun c => IntsAre c.1 c.2.1) x stored m₀ (fun pre c => c.2.1 = pre.map f) (pre ++ [y])) own adr s₁ { s₁ with heap := h', toks := tk } := by
  rw [List.push_toArray] at N
  refine kst_end (us ++ [.int v t], ns ++ [v], cc + 1) F N ?_ ?_ ha (hus.append (.cons v t .nil)) (by intro p hp; cases hp) (fun z h1 _ h3 => hr z h1 h3) ?_
  · intro p hp
    rcases List.mem_cons.mp hp with rfl | hp
    · exact .head _
    · exact .tail _ (List.mem_append.mpr (.inl hp))
  · exact fun p hp => .tail _ (List.mem_append.mpr (.inr hp))
  · show ns ++ [v] = (pre ++ [y]).map f
    rw [List.map_append, ← hns, hv]; rfl

set_option rowWalk.seconds 0 in
set_option maxHeartbeats 8000000 in
theorem places_ok (B : Below A₀ base outer h₀) (F : Fr h₀ L s.heap m) (X : (hd.heap_1 w.params).In h₀) (N : News h₀ L s.heap news) (T : Top p loose mean mg mb h₀) (hk : cs.kind = .function) (hdp : dp + 3 < recursionLimit) (hun : un + 24 < cLine)
    {b : Array UInt8} {tb : Tok} {ks : List Int} (hb : KBw.bInts b = ks) (hlen : ks.length ≤ 1000)
    (ret : ∀ D us c h' tk', Fr h₀ L h' m → News h₀ L h' ((D, listOf (List.toArray us) c) :: news) → (∀ p ∈ news, p.1 < D) → IntsAre us (ks.map placeF) → Q (.ref D) { s with heap := h', toks := tk' }) :
    wpAny (model PG w) (ktrTop dp un gd cn cs L a ccd cl outer) (call (.ref 162) [.bytes b tb]) Q E s := by
  refine wpAny_call ?_
  k_dflt (refine' code_def (binds := [((Str.ofString "writing"), Value.bytes b tb)]) ?k1 ?k2 ?k3 ?k4 ?k5 ?kA ?kF ?kK ?k6 ?k7 ?k8 ?k9 ?kB ?_ ?c2 ?c3 ?c4 ?c5; (case kA => exact rfl); (case kF => exact rfl); (case kK => assumption); (case k1 => k_asm); (case k2 => k_asm); (case k3 => k_asm); (case k4 => k_asm); (case k5 => k_asm); (case k6 => k_is); (case k7 => k_is); (case k8 => ktr_room); (case k9 => first | exact BindsTo.of_eq rfl | exact binds_K (by k_in) rfl (by k_is) rfl rfl rfl); (case c5 => decide); (case kB => exact locs rfl); (case c2 => exact rfl); (case c3 => exact rfl); (case c4 => exact rfl); k_whole; intro g L1 h1 FG F1 N1 B1 X1 T1)
  k_fold
  k_steps
  unfold Held
  rename Fr _ _ _ _ => F1
  rename News _ _ _ _ => N1
  rename ∀ p ∈ news, p.1 < _ => hoffD
  rename_i D _ _
  refine For_invVF F1 (by rfl) (by rfl) ?_
  refine ld F1 (by rfl) ?_
  refine KStb.kst_bytes (len := ks.length) (fun c : List Value × List Int × Nat => (D, listOf (List.toArray c.1) c.2.2) :: news) (fun _ => []) (fun c => IntsAre c.1 c.2.1) [] (fun pre c => c.2.1 = pre.map placeF) ([], [], 0) hb rfl rfl F1 N1 .nil (by intro p hp; cases hp) rfl ?_ ?_
  · rintro ⟨us, ns, cc⟩ pre post x t u h tk own hks hpl hx0 hx1 hoff hus hns F2 N2
    refine foldQ ?_
    intro qI hqI
    change Fr g L1 _ _ at F2
    change News g L1 _ _ at N2
    simp only [List.cons_append] at N2
    dsimp only at hus hns
    have hl2 : us.length < 1000 := by rw [hus.length, hns, List.length_map]; omega
    k_steps
    all_goals (
      unfold Held
      rename Fr g _ _ _ => F5
      rename News g _ _ _ => N5
      refine push_end F5 N5 hus hns ?_ (by intro z h1 h3; simp [kstB, h1]) rfl
      unfold placeF
      (repeat' split) <;> omega)
  · rintro ⟨us, ns, cc⟩ u h tk hlen2 hus hns F2 N2
    change Fr g L1 _ _ at F2
    change News g L1 _ _ at N2
    dsimp only at hus hns
    subst hns
    k_steps
    rename Fr h₀ _ _ _ => kF
    rename News h₀ _ _ _ => kN
    exact ret D us cc _ _ kF kN hoffD hus
end
/-! C09 -/
section
variable {w : World} {dp un : Nat} {gd : Option (List Code)} {cn : Str} {cs : Scope} {a : Addr} {ccd : Value} {cl : List (Str × Addr)} {outer : List Env} {A₀ : Around} {base h₀ : Heap} {L : Addr} {m : Str → Option Value} {news : List (Addr × Obj)} {s : Shared} {Q E : Value → Shared → Prop} {p : Program} {loose : List Str} {mean : ExcName → Option Value} {mg mb : Str → Option Value}
set_option rowWalk.seconds 0 in
set_option maxHeartbeats 8000000 in
theorem b64val_ok (B : Below A₀ base outer h₀) (F : Fr h₀ L s.heap m) (X : (hd.heap_1 w.params).In h₀) (N : News h₀ L s.heap news) (T : Top p loose mean mg mb h₀) (hk : cs.kind = .function) (hdp : dp + 3 < recursionLimit) (hun : un + 24 < cLine)
    {c : Int} {tc : Tok}
    (ret : ∀ t h' tk', Fr h₀ L h' m → News h₀ L h' news → Q (.int (placeF c) t) { s with heap := h', toks := tk' }) :
    wpAny (model PG w) (ktrTop dp un gd cn cs L a ccd cl outer) (call (.ref 84) [.int c tc]) Q E s := by
  refine wpAny_call ?_
  k_dflt (refine' code_def (binds := [((Str.ofString "c"), Value.int c tc)]) ?k1 ?k2 ?k3 ?k4 ?k5 ?kA ?kF ?kK ?k6 ?k7 ?k8 ?k9 ?kB ?_ ?c2 ?c3 ?c4 ?c5; (case kA => exact rfl); (case kF => exact rfl); (case kK => assumption); (case k1 => k_asm); (case k2 => k_asm); (case k3 => k_asm); (case k4 => k_asm); (case k5 => k_asm); (case k6 => k_is); (case k7 => k_is); (case k8 => ktr_room); (case k9 => first | exact BindsTo.of_eq rfl | exact binds_K (by k_in) rfl (by k_is) rfl rfl rfl); (case c5 => decide); (case kB => exact locs rfl); (case c2 => exact rfl); (case c3 => exact rfl); (case c4 => exact rfl); k_whole; intro g L1 h1 FG F1 N1 B1 X1 T1)
  k_fold
  k_steps
  all_goals (
    rename Fr h₀ _ _ _ => kF
    rename News h₀ _ _ _ => kN
    refine cb_retI (x := placeF c) ret ?_ kF kN
    unfold placeF
    (repeat' split) <;> omega)

structure DecSt where
  q : Int
  lc : Int
  out : List Int
noncomputable def decStep (c : DecSt) (b : Int) : DecSt :=
  let v := placeF b
  if c.q = 0 then ⟨1, v, c.out⟩
  else if c.q = 1 then ⟨2, v % 16, c.out ++ [c.lc * 4 + v / 16]⟩
  else if c.q = 2 then ⟨3, v % 4, c.out ++ [c.lc * 16 + v / 4]⟩
  else ⟨0, 0, c.out ++ [c.lc * 64 + v]⟩
noncomputable def decF (ks : List Int) : DecSt := ks.foldl decStep ⟨0, 0, []⟩
theorem decF_snoc (pre : List Int) (x : Int) : decF (pre ++ [x]) = decStep (decF pre) x := by unfold decF; rw [List.foldl_append]; rfl
structure DecC where
  us : List Value
  st : DecSt
  ep : Nat
  tq : Tok
  tl : Tok
  tp : Tok
  ti : Tok
  i : Int
noncomputable abbrev decLed (D : Addr) (news : List (Addr × Obj)) (c : DecC) : List (Addr × Obj) := (D, listOf (List.toArray c.us) c.ep) :: news
noncomputable abbrev decPs (c : DecC) : List (Str × Value) := [((Str.ofString "quad_pos"), .int c.st.q c.tq), ((Str.ofString "leftchar"), .int c.st.lc c.tl), ((Str.ofString "pads"), .int 0 c.tp), ((Str.ofString "i"), .int c.i c.ti)]
noncomputable abbrev decFacts (c : DecC) : Prop := IntsAre c.us c.st.out
structure DecOk (st : DecSt) : Prop where
  a : (st.q = 0) ∨ (st.q = 1 ∧ 0 ≤ st.lc ∧ st.lc < 64) ∨ (st.q = 2 ∧ 0 ≤ st.lc ∧ st.lc < 16) ∨ (st.q = 3 ∧ 0 ≤ st.lc ∧ st.lc < 4)
  b : ∀ v ∈ st.out, 0 ≤ v ∧ v < 256
noncomputable abbrev decP (pre : List Int) (c : DecC) : Prop := c.st = decF pre ∧ DecOk c.st ∧ c.st.out.length ≤ pre.length

theorem dec_end0 {x : Str} {h₀ : Heap} {L D : Addr} {us : List Value} {out pre : List Int} {y q l i : Int} {tq tl tp ti : Tok} {ep : Nat} {news own : List (Addr × Obj)} {m' m₀ : Str → Option Value} {h' : Heap} {tk : Nat} {s₁ : Shared} {adr : List Addr}
    (F : Fr h₀ L h' m') (N : News h₀ L h' ((D, listOf us.toArray ep) :: (news ++ own))) (hus : IntsAre us out) (h1 : m' (Str.ofString "quad_pos") = some (.int q tq)) (h2 : m' (Str.ofString "leftchar") = some (.int l tl)) (h3 : m' (Str.ofString "pads") = some (.int 0 tp)) (h4 : m' (Str.ofString "i") = some (.int i ti))
    (hr : ∀ z, z ≠ x → z ≠ (Str.ofString "quad_pos") → z ≠ (Str.ofString "leftchar") → z ≠ (Str.ofString "pads") → z ≠ (Str.ofString "i") → m' z = m₀ z) (hst : decF (pre ++ [y]) = ⟨q, l, out⟩) (ok : DecOk ⟨q, l, out⟩) (ho : out.length ≤ pre.length + 1) (ha : D :: news.map (·.1) = adr) :
    InvEndN h₀ L (KstS (decLed D news) decPs decFacts x [] m₀ decP (pre ++ [y])) own adr s₁ { s₁ with heap := h', toks := tk } := by
  refine kst_end (⟨us, ⟨q, l, out⟩, ep, tq, tl, tp, ti, i⟩ : DecC) F N ?_ ?_ ha hus (List.forall_mem_cons.mpr ⟨h1, List.forall_mem_cons.mpr ⟨h2, List.forall_mem_cons.mpr ⟨h3, List.forall_mem_cons.mpr ⟨h4, List.forall_mem_nil _⟩⟩⟩⟩) (fun z q1 q2 _ => hr z q1 (q2 _ (.head _)) (q2 _ (.tail _ (.head _))) (q2 _ (.tail _ (.tail _ (.head _)))) (q2 _ (.tail _ (.tail _ (.tail _ (.head _)))))) ⟨hst.symm, ok, ?_⟩
  · intro p hp
    rcases List.mem_cons.mp hp with rfl | hp
    · exact .head _
    · exact .tail _ (List.mem_append.mpr (.inl hp))
  · exact fun p hp => .tail _ (List.mem_append.mpr (.inr hp))
  · simp only [List.length_append, List.length_cons, List.length_nil]; exact ho
theorem dec_end1 {x : Str} {h₀ : Heap} {L D : Addr} {us : List Value} {out pre : List Int} {y v q l i : Int} {t tq tl tp ti : Tok} {ep : Nat} {news own : List (Addr × Obj)} {m' m₀ : Str → Option Value} {h' : Heap} {tk : Nat} {s₁ : Shared} {adr : List Addr}
    (F : Fr h₀ L h' m') (N : News h₀ L h' ((D, listOf (us.toArray.push (.int v t)) (ep + 1)) :: (news ++ own))) (hus : IntsAre us out) (h1 : m' (Str.ofString "quad_pos") = some (.int q tq)) (h2 : m' (Str.ofString "leftchar") = some (.int l tl)) (h3 : m' (Str.ofString "pads") = some (.int 0 tp)) (h4 : m' (Str.ofString "i") = some (.int i ti))
    (hr : ∀ z, z ≠ x → z ≠ (Str.ofString "quad_pos") → z ≠ (Str.ofString "leftchar") → z ≠ (Str.ofString "pads") → z ≠ (Str.ofString "i") → m' z = m₀ z) (hst : decF (pre ++ [y]) = ⟨q, l, out ++ [v]⟩) (ok : DecOk ⟨q, l, out ++ [v]⟩) (ho : out.length ≤ pre.length) (ha : D :: news.map (·.1) = adr) :
    InvEndN h₀ L (KstS (decLed D news) decPs decFacts x [] m₀ decP (pre ++ [y])) own adr s₁ { s₁ with heap := h', toks := tk } := by
  rw [List.push_toArray] at N
  exact dec_end0 F N (hus.append (.cons v t .nil)) h1 h2 h3 h4 hr hst ok (by simp only [List.length_append, List.length_cons, List.length_nil]; omega) ha
theorem in_snoc {out : List Int} {v : Int} (h : ∀ v ∈ out, 0 ≤ v ∧ v < 256) (hv : 0 ≤ v ∧ v < 256) : ∀ u ∈ out ++ [v], 0 ≤ u ∧ u < 256 := by
  intro u hu
  rcases List.mem_append.mp hu with hu | hu
  · exact h u hu
  · rw [List.mem_singleton.mp hu]; exact hv
local macro_rules | `(tactic| walk_at "binaryOp LShift int int") => `(tactic| first | refine shl_by 2 (m := 4) (by decide) (by decide) (by omega) (by omega) ?_ | refine shl_by 4 (m := 16) (by decide) (by decide) (by omega) (by omega) ?_ | refine shl_by 6 (m := 64) (by decide) (by decide) (by omega) (by omega) ?_)
local macro_rules | `(tactic| walk_at "binaryOp BitOr int int") => `(tactic| first | refine or_low 2 (m := 4) (by decide) (by omega) (by omega) (by omega) ?_ | refine or_low 4 (m := 16) (by decide) (by omega) (by omega) (by omega) ?_ | refine or_low 6 (m := 64) (by decide) (by omega) (by omega) (by omega) ?_)
local macro_rules | `(tactic| walk_at "binaryOp BitAnd int int") => `(tactic| first | refine and_mask 4 (m := 16) (by decide) (by decide) ?_ | refine and_mask 2 (m := 4) (by decide) (by decide) ?_)
local macro_rules | `(tactic| walk_at "binaryOp RShift int int") => `(tactic| first | refine shr_by 2 (m := 4) (by decide) (by decide) ?_ | refine shr_by 4 (m := 16) (by decide) (by decide) ?_)
set_option rowWalk.seconds 0 in
set_option maxHeartbeats 8000000 in
theorem a2b_ok (B : Below A₀ base outer h₀) (F : Fr h₀ L s.heap m) (X : (hd.heap_1 w.params).In h₀) (N : News h₀ L s.heap news) (T : Top p loose mean mg mb h₀) (hk : cs.kind = .function) (hdp : dp + 8 < recursionLimit) (hun : un + 64 < cLine)
    {b : Array UInt8} {tb : Tok} {ks : List Int} (hb : KBw.bInts b = ks) (hlen : ks.length ≤ 1000) (hv : ∀ k ∈ ks, 0 ≤ placeF k ∧ placeF k < 64) (h0 : (decF ks).q = 0)
    (ret : ∀ b t h' tk', Fr h₀ L h' m → News h₀ L h' news → KBw.bInts b = (decF ks).out → Q (.bytes b t) { s with heap := h', toks := tk' }) :
    wpAny (model PG w) (ktrTop dp un gd cn cs L a ccd cl outer) (call (.ref 92) [.bytes b tb] [((Str.ofString "strict_mode"), .bool false)]) Q E s := by
  refine wpAny_call ?_
  k_dflt (refine' code_def (binds := [((Str.ofString "data"), Value.bytes b tb), ((Str.ofString "strict_mode"), Value.bool false)]) ?k1 ?k2 ?k3 ?k4 ?k5 ?kA ?kF ?kK ?k6 ?k7 ?k8 ?k9 ?kB ?_ ?c2 ?c3 ?c4 ?c5; (case kA => exact rfl); (case kF => exact rfl); (case kK => assumption); (case k1 => k_asm); (case k2 => k_asm); (case k3 => k_asm); (case k4 => k_asm); (case k5 => k_asm); (case k6 => k_is); (case k7 => k_is); (case k8 => ktr_room); (case k9 => first | exact BindsTo.of_eq rfl | exact binds_K (by k_in) rfl (by k_is) rfl rfl rfl); (case c5 => decide); (case kB => exact locs rfl); (case c2 => exact rfl); (case c3 => exact rfl); (case c4 => exact rfl); k_whole; intro g L1 h1 FG F1 N1 B1 X1 T1)
  k_fold
  k_steps
  unfold Held
  rename Fr g _ _ _ => F1
  rename News g _ _ _ => N1
  rename ∀ p ∈ news, p.1 < _ => hoffD
  rename_i D _ _ _ _ _ _
  refine For_invVF F1 (by rfl) (by rfl) ?_
  refine ld F1 (by rfl) ?_
  refine KStb.kst_bytes (len := ks.length) (decLed D news) decPs decFacts [] decP ⟨[], ⟨0, 0, []⟩, 0, _, _, _, _, 0⟩ hb rfl rfl F1 N1 .nil (List.forall_mem_cons.mpr ⟨Eq.refl _, List.forall_mem_cons.mpr ⟨Eq.refl _, List.forall_mem_cons.mpr ⟨Eq.refl _, List.forall_mem_cons.mpr ⟨Eq.refl _, List.forall_mem_nil _⟩⟩⟩⟩) ⟨rfl, ⟨.inl rfl, (by intro v hv; cases hv)⟩, Nat.le_refl _⟩ ?_ ?_
  · rintro ⟨us, ⟨q, lc, out⟩, ep, tq, tl, tp, ti, i⟩ pre post x t u h tk own hks hpl hx0 hx1 hoff hus ⟨he, ⟨hq, hin⟩, hol⟩ F2 N2
    refine foldQ ?_
    intro qI hqI
    have F2 : Fr g L1 _ (fun y => if y = (Str.ofString "this_ch") then _ else kstB _ [((Str.ofString "quad_pos"), .int q tq), ((Str.ofString "leftchar"), .int lc tl), ((Str.ofString "pads"), .int 0 tp), ((Str.ofString "i"), .int i ti)] y) := F2
    have N2 : News g L1 _ ((D, listOf us.toArray ep) :: (news ++ own)) := N2
    have hus : IntsAre us out := hus
    dsimp only at he hol hq hin
    have hl2 : us.length ≤ 1000 := by rw [hus.length]; omega
    have hvx := hv x (by rw [hks]; exact List.mem_append.mpr (.inr (.head _)))
    have hx61 : x ≠ 61 := by
      rintro rfl
      exact absurd hvx.2 (by decide)
    rcases hq with rfl | ⟨rfl, hlc⟩ | ⟨rfl, hlc⟩ | ⟨rfl, hlc⟩
    all_goals k_steps
    all_goals try exact absurd (by assumption : x = 61) hx61
    all_goals (
      unfold Held
      k_dflt (refine' b64val_ok ?k1 ?k2 ?k3 ?k4 ?k5 ?kK ?kd ?ku  ?_; (case k1 => k_asm); (case k2 => k_asm); (case k3 => k_asm); (case k4 => k_asm); (case k5 => k_asm); (case kK => first | exact rfl | assumption); (case kd => ktr_room); (case ku => ktr_units))
      intro t4 h4 tk4 F4 N4
      dsimp only)
    all_goals k_steps
    all_goals (unfold Held; rename Fr g _ _ _ => F5; rename News g _ _ _ => N5)
    · refine dec_end0 F5 N5 hus (Eq.refl _) (Eq.refl _) (Eq.refl _) (Eq.refl _) ?_ (by rw [decF_snoc, ← he]; rfl) ⟨.inr (.inl ⟨rfl, hvx⟩), hin⟩ (Nat.le_succ_of_le hol) rfl
      intro z h1 h2 h3 h4 h5; simp [kstB, h1, h2, h3, h4, h5]
    · refine dec_end1 F5 N5 hus (Eq.refl _) (Eq.refl _) (Eq.refl _) (Eq.refl _) ?_ (by rw [decF_snoc, ← he]; rfl) ⟨.inr (.inr (.inl ⟨rfl, by dsimp only; omega, by dsimp only; omega⟩)), in_snoc hin ⟨by omega, by omega⟩⟩ hol rfl
      intro z h1 h2 h3 h4 h5; simp [kstB, h1, h2, h3, h4, h5]
    · refine dec_end1 F5 N5 hus (Eq.refl _) (Eq.refl _) (Eq.refl _) (Eq.refl _) ?_ (by rw [decF_snoc, ← he]; rfl) ⟨.inr (.inr (.inr ⟨rfl, by dsimp only; omega, by dsimp only; omega⟩)), in_snoc hin ⟨by omega, by omega⟩⟩ hol rfl
      intro z h1 h2 h3 h4 h5; simp [kstB, h1, h2, h3, h4, h5]
    · refine dec_end1 F5 N5 hus (Eq.refl _) (Eq.refl _) (Eq.refl _) (Eq.refl _) ?_ (by rw [decF_snoc, ← he]; rfl) ⟨.inl rfl, in_snoc hin ⟨by omega, by omega⟩⟩ hol rfl
      intro z h1 h2 h3 h4 h5; simp [kstB, h1, h2, h3, h4, h5]
  · rintro ⟨us, ⟨q, lc, out⟩, ep, tq, tl, tp, ti, i⟩ u h tk hks hus ⟨he, ⟨hq, hin⟩, hol⟩ F2 N2
    have F2 : Fr g L1 _ (fun y => if y = (Str.ofString "this_ch") then _ else kstB _ [((Str.ofString "quad_pos"), .int q tq), ((Str.ofString "leftchar"), .int lc tl), ((Str.ofString "pads"), .int 0 tp), ((Str.ofString "i"), .int i ti)] y) := F2
    have N2 : News g L1 _ ((D, listOf us.toArray ep) :: news) := N2
    have hus : IntsAre us out := hus
    dsimp only at he hol hq hin
    have hq0 : q = 0 := by rw [← he] at h0; exact h0
    clear hq
    subst hq0
    rw [← he] at ret
    dsimp only at ret
    k_steps
    rename KBa.In out => hI
    rename Fr h₀ _ _ _ => kF
    rename News h₀ _ _ _ => kN
    exact ret _ _ _ _ kF (cb_drop kN (by kcf_all)) (KBa.ints_make hI)

set_option rowWalk.seconds 0 in
set_option maxHeartbeats 8000000 in
theorem decode_ok (B : Below A₀ base outer h₀) (F : Fr h₀ L s.heap m) (X : (hd.heap_1 w.params).In h₀) (N : News h₀ L s.heap news) (T : Top p loose mean mg mb h₀) (hk : cs.kind = .function) (hdp : dp + 12 < recursionLimit) (hun : un + 96 < cLine)
    {b : Array UInt8} {tb : Tok} {ks : List Int} (hb : KBw.bInts b = ks) (hlen : ks.length ≤ 1000) (hv : ∀ k ∈ ks, 0 ≤ placeF k ∧ placeF k < 64) (h0 : (decF ks).q = 0)
    (ret : ∀ b t h' tk', Fr h₀ L h' m → News h₀ L h' news → KBw.bInts b = (decF ks).out → Q (.bytes b t) { s with heap := h', toks := tk' }) :
    wpAny (model PG w) (ktrTop dp un gd cn cs L a ccd cl outer) (call (.ref 125) [.bytes b tb]) Q E s := by
  refine wpAny_call ?_
  k_dflt (refine' code_def (binds := [((Str.ofString "s"), Value.bytes b tb), ((Str.ofString "altchars"), Value.none), ((Str.ofString "validate"), Value.bool false)]) ?k1 ?k2 ?k3 ?k4 ?k5 ?kA ?kF ?kK ?k6 ?k7 ?k8 ?k9 ?kB ?_ ?c2 ?c3 ?c4 ?c5; (case kA => exact rfl); (case kF => exact rfl); (case kK => assumption); (case k1 => k_asm); (case k2 => k_asm); (case k3 => k_asm); (case k4 => k_asm); (case k5 => k_asm); (case k6 => k_is); (case k7 => k_is); (case k8 => ktr_room); (case k9 => first | exact BindsTo.of_eq rfl | exact binds_K (by k_in) rfl (by k_is) rfl rfl rfl); (case c5 => decide); (case kB => exact locs rfl); (case c2 => exact rfl); (case c3 => exact rfl); (case c4 => exact rfl); k_whole; intro g L1 h1 FG F1 N1 B1 X1 T1)
  k_fold
  k_steps
  unfold Held
  k_dflt (refine' a2b_ok ?k1 ?k2 ?k3 ?k4 ?k5 ?kK ?kd ?ku hb hlen hv h0 ?_; (case k1 => k_asm); (case k2 => k_asm); (case k3 => k_asm); (case k4 => k_asm); (case k5 => k_asm); (case kK => first | exact rfl | assumption); (case kd => ktr_room); (case ku => ktr_units))
  intro b2 t2 h2 tk2 F2 N2 hb2
  dsimp only
  k_steps
  rename Fr h₀ _ _ _ => kF
  rename News h₀ _ _ _ => kN
  exact ret _ _ _ _ kF kN hb2
end
/-! H10 -/
section
open Builtin
theorem slot_bytes_upper : Slot "bytes" "upper" "bytes.upper" :=
  .of (owner := "bytes") (n := "upper") (by rw [typeLookup_type, builtinLookup_eq_fast]; kernel_rfl) (by decide +kernel) (by decide +kernel) (by decide +kernel)
    (by first | exact .inl (by decide +kernel) | exact .inr (by decide +kernel)) (by rw [isSubtype_type]; kernel_rfl)
theorem type_bytes_upper : typeOf (.builtin "bytes.upper") = pure (.type "method_descriptor") := by show builtinType _ = _; rw [builtinType_eq_fast]; kernel_rfl
theorem entry_bytes_upper : entryFor table "bytes.upper" = some Builtin.«bytes.upper» := entryFor_of_tree (by kernel_rfl)
theorem args_bytes_upper (a : Value) : argsOk "bytes.upper" ⟨[a], []⟩ := by
  unfold argsOk; rw [signature?_of (id := "bytes.upper") (n := ['r', 'e', 'p', 'p', 'u']) (o := ['s', 'e', 't', 'y', 'b']) (by kernel_rfl) FB.owner_bytes]; kernel_rfl

noncomputable def hexA (b : Array UInt8) : Array Nat := b.toList.zipIdx.foldl (fun (out : Array Nat) (x : UInt8 × Nat) => (out.push (Bytes.hexDigit (x.1.toNat / 16))).push (Bytes.hexDigit (x.1.toNat % 16))) #[]
theorem hex_tree (b : Array UInt8) (t : Tok) : «bytes.hex» ⟨[.bytes b t], []⟩ = retStr ⟨hexA b⟩ := by kernel_rfl
theorem up_tree (b : Array UInt8) (t : Tok) : «bytes.upper» ⟨[.bytes b t], []⟩ = (mkBytes (b.toList.map Bytes.toUpper).toArray >>= fun v => ret v) := by kernel_rfl
theorem enc_tree (x : Str) (t u : Tok) : «str.encode» ⟨[.str x t, .str (Str.ofString "ascii") u], []⟩ = ((_codecs.encodeNarrow "str.encode" _codecs.asciiCodec none (.str x t) x >>= fun b => mkBytes b) >>= fun v => ret v) := by kernel_rfl
end
/-! H10b -/
section
open Builtin
theorem narrow_size : ∀ (l : List Nat) (acc : Array UInt8), (l.foldl (fun acc y => acc ++ ([y.toUInt8]).toArray) acc).size = acc.size + l.length
  | [], acc => rfl
  | a :: r, acc => by
    rw [List.foldl_cons, narrow_size r]
    simp only [Array.size_append, List.size_toArray, List.length_cons, List.length_nil]
    omega
theorem narrow_ascii (id : String) (self : Value) (x : Str) (h : ∀ c ∈ x.cps.toList, c < 128) (n : Nat) (hn : x.cps.size = n + 2) (hb : x.cps.size ≤ 10000) : _codecs.encodeNarrow id _codecs.asciiCodec none self x = pure (x.cps.foldl (fun acc y => acc ++ ([y.toUInt8]).toArray) #[]) := by
  have hbad : ∀ c ∈ x.cps.toList, _codecs.asciiCodec.bad c = false := fun c hc => decide_eq_false (by have := h c hc; omega)
  have hc : Array.findIdx? _codecs.asciiCodec.bad x.cps = none := by
    rw [Array.findIdx?_eq_none_iff]
    intro c hm
    exact hbad c (Array.mem_def.mp hm)
  unfold _codecs.encodeNarrow
  have hl : x.length = n + 2 := hn
  rw [hl]
  have e0 : (n + 2 - 0 + 1 - 1) / 1 = n + 1 + 1 := by omega
  have h0 : x.cps[0]? = some (x.cps[0]'(by omega)) := by simp
  have h9 : x.cps[x.cps.size]? = none := by simp
  have hb0 : _codecs.asciiCodec.bad (x.cps[0]'(by omega)) = false := hbad _ (Array.mem_def.mp (Array.getElem_mem _))
  have hz : ¬ ((#[] : Array UInt8).size > sizeLine) := by decide
  have hz2 : ¬ ((Array.foldl (fun acc y => acc ++ (_codecs.asciiCodec.bytesOf y).toArray) #[] x.cps).size > sizeLine) := by
    rw [← Array.foldl_toList]
    have := narrow_size x.cps.toList #[]
    rw [sizeLine_eq]
    have e : (x.cps.toList.foldl (fun acc y => acc ++ (_codecs.asciiCodec.bytesOf y).toArray) #[]).size = 0 + x.cps.toList.length := this
    rw [e, Array.length_toList]
    omega
  simp only [Std.Legacy.Range.forIn_eq_forIn_range', Std.Legacy.Range.size, e0, List.range'_succ, List.forIn_cons, hz, if_false, h0, hb0, Bool.not_false, if_true, pure_bind, Option.getD_none, Array.extract_size, Nat.zero_add, hc, h9, hz2]
  rfl
end
noncomputable def sixF (v : Int) : Int := if v < 10 then 48 + v else 55 + v
noncomputable def hexF (ks : List Int) : List Int := ks.flatMap fun k => [sixF (k / 16), sixF (k % 16)]
section
open Builtin
theorem hexA_aux : ∀ (l : List (UInt8 × Nat)) (acc : Array Nat), (l.foldl (fun (out : Array Nat) (x : UInt8 × Nat) => (out.push (Bytes.hexDigit (x.1.toNat / 16))).push (Bytes.hexDigit (x.1.toNat % 16))) acc).toList = acc.toList ++ (l.map Prod.fst).flatMap fun c => [Bytes.hexDigit (c.toNat / 16), Bytes.hexDigit (c.toNat % 16)]
  | [], acc => by simp
  | x :: r, acc => by
    rw [List.foldl_cons, hexA_aux r]
    simp
theorem zip_fst : ∀ (l : List UInt8) (i : Nat), (l.zipIdx i).map Prod.fst = l
  | [], _ => rfl
  | a :: r, i => by rw [List.zipIdx_cons, List.map_cons, zip_fst r]
theorem hexA_list (b : Array UInt8) : (hexA b).toList = b.toList.flatMap fun c => [Bytes.hexDigit (c.toNat / 16), Bytes.hexDigit (c.toNat % 16)] := by
  unfold hexA
  rw [hexA_aux, zip_fst]
  rfl
theorem narrow_list : ∀ (l : List Nat) (acc : Array UInt8), (l.foldl (fun acc y => acc ++ ([y.toUInt8]).toArray) acc).toList = acc.toList ++ l.map (·.toUInt8)
  | [], acc => by simp
  | a :: r, acc => by
    rw [List.foldl_cons, narrow_list r]
    simp
theorem flat_map {α β γ : Type} (f : β → γ) (g : α → List β) : ∀ l : List α, (l.flatMap g).map f = l.flatMap fun a => (g a).map f
  | [] => rfl
  | a :: r => by rw [List.flatMap_cons, List.map_append, flat_map f g r, List.flatMap_cons]
theorem six_up : ∀ v < 16, (((Bytes.toUpper (Bytes.hexDigit v).toUInt8).toNat : Nat) : Int) = sixF (v : Int) := by decide
theorem up_ints (b : Array UInt8) : KBw.bInts ((((hexA b).foldl (fun acc y => acc ++ ([y.toUInt8]).toArray) #[]).toList.map Bytes.toUpper).toArray) = hexF (KBw.bInts b) := by
  rw [← Array.foldl_toList, narrow_list, hexA_list]
  unfold KBw.bInts hexF
  simp only [List.nil_append, List.map_map]
  rw [flat_map]
  rw [List.flatMap_map]
  congr 1
  funext c
  have h1 := six_up (c.toNat / 16) (by have := c.toNat_lt; omega)
  have h2 := six_up (c.toNat % 16) (by omega)
  simp only [List.map_cons, List.map_nil, Function.comp, h1, h2]
  rw [Int.natCast_ediv, Int.natCast_emod]
  rfl
theorem hexA_size (b : Array UInt8) : (hexA b).size = 2 * b.size := by
  rw [← Array.length_toList, hexA_list, List.length_flatMap]
  simp only [List.length_cons, List.length_nil, Nat.zero_add, List.map_const', List.sum_replicate_nat, Array.length_toList]
  omega
theorem hexA_small (b : Array UInt8) : ∀ c ∈ (hexA b).toList, c < 128 := by
  rw [hexA_list]
  intro c hc
  obtain ⟨a, _, ha⟩ := List.mem_flatMap.mp hc
  have := a.toNat_lt
  have key : ∀ v < 16, Bytes.hexDigit v < 128 := by decide
  rcases List.mem_cons.mp ha with rfl | ha
  · exact key _ (by omega)
  · rw [List.mem_singleton.mp ha]; exact key _ (by omega)
end
section
variable {prog : Program} {w : World} {A : Around} {E : Value → Shared → Prop} {s : Shared} {b : Array UInt8} {t u : Tok} {Q : Value → Shared → Prop}
open Builtin
theorem hex_call (hz : b.size ≤ 1000) (h : ∀ t' k, Q (.str ⟨hexA b⟩ t') { s with toks := k }) : wpAny (model prog w) A (call (.builtin "bytes.hex") [.bytes b t]) Q E s := by
  refine wpAny_call_entry FB.slot_bytes_hex (typeIs_bytes s b t) FB.entry_bytes_hex ?_ (FB.args_bytes_hex_1 _)
  rw [hex_tree]
  refine wpAny_bind (wpAny_mkStr (wpAny_pure ⟨_, rfl, h _ _⟩) ?_)
  show (hexA b).size ≤ sizeLine
  rw [hexA_size, sizeLine_eq]; omega
theorem enc_call {x : Str} (n : Nat) (hn : x.cps.size = n + 2) (hb : x.cps.size ≤ 10000) (hs : ∀ c ∈ x.cps.toList, c < 128) (h : ∀ t' k, Q (.bytes (x.cps.foldl (fun acc y => acc ++ ([y.toUInt8]).toArray) #[]) t') { s with toks := k }) : wpAny (model prog w) A (call (.builtin "str.encode") [.str x t, .str (Str.ofString "ascii") u]) Q E s := by
  refine wpAny_call_entry F.slot_str_encode (typeIs_str s x t) F.entry_str_encode ?_ (F.args_str_encode_2 _ _)
  rw [enc_tree, narrow_ascii _ _ _ hs n hn hb]
  refine wpAny_bind (wpAny_bind (wpAny_pure (wpAny_mkBytes (wpAny_pure ⟨_, rfl, h _ _⟩) ?_)))
  rw [← Array.foldl_toList, narrow_size, sizeLine_eq, Array.length_toList]
  simp; omega
theorem up_call (hz : b.size ≤ 10000) (h : ∀ t' k, Q (.bytes (b.toList.map Bytes.toUpper).toArray t') { s with toks := k }) : wpAny (model prog w) A (call (.builtin "bytes.upper") [.bytes b t]) Q E s := by
  refine wpAny_call_entry slot_bytes_upper (typeIs_bytes s b t) entry_bytes_upper ?_ (args_bytes_upper _)
  rw [up_tree]
  refine wpAny_bind (wpAny_mkBytes (wpAny_pure ⟨_, rfl, h _ _⟩) ?_)
  simp [sizeLine_eq]; omega
end
/-! C10 -/
section
variable {w : World} {dp un : Nat} {gd : Option (List Code)} {cn : Str} {cs : Scope} {a : Addr} {ccd : Value} {cl : List (Str × Addr)} {outer : List Env} {A₀ : Around} {base h₀ : Heap} {L : Addr} {m : Str → Option Value} {news : List (Addr × Obj)} {s : Shared} {Q E : Value → Shared → Prop} {p : Program} {loose : List Str} {mean : ExcName → Option Value} {mg mb : Str → Option Value}
theorem gm_hex {M : Model} {A : Around} {b : Array UInt8} {t : Tok} {pl : Sem Bool} {Q : Value × List Value → Shared → Prop} (h : Q (.builtin "bytes.hex", [.bytes b t]) s) : wpAny M A (getMethod (.bytes b t) "hex" pl) Q E s := by
  with_reducible exact KBd.method_of (.bytes b t) (typeIs_bytes _ _ _) FB.slot_bytes_hex FB.type_bytes_hex KBd.noRef h
theorem gm_upper {M : Model} {A : Around} {b : Array UInt8} {t : Tok} {pl : Sem Bool} {Q : Value × List Value → Shared → Prop} (h : Q (.builtin "bytes.upper", [.bytes b t]) s) : wpAny M A (getMethod (.bytes b t) "upper" pl) Q E s := by
  with_reducible exact KBd.method_of (.bytes b t) (typeIs_bytes _ _ _) slot_bytes_upper type_bytes_upper KBd.noRef h
theorem gm_encode {M : Model} {A : Around} {x : Str} {t : Tok} {pl : Sem Bool} {Q : Value × List Value → Shared → Prop} (h : Q (.builtin "str.encode", [.str x t]) s) : wpAny M A (getMethod (.str x t) "encode" pl) Q E s := by
  with_reducible exact GM.of (.str x t) (typeIs_str _ _ _) F.slot_str_encode F.type_str_encode GM.noRef h
local macro_rules | `(tactic| walk_at "getMethod bytes") => `(tactic| first | with_reducible refine gm_hex ?_ | with_reducible refine gm_upper ?_)
local macro_rules | `(tactic| walk_at "getMethod str") => `(tactic| with_reducible refine gm_encode ?_)
local macro_rules | `(tactic| walk_at "call builtin:bytes.hex") => `(tactic| (refine hex_call (by omega) ?_; intro _ _))
local macro_rules | `(tactic| walk_at "call builtin:bytes.upper") => `(tactic| (refine up_call (by rw [← Array.foldl_toList, narrow_size, Array.length_toList, hexA_size]; simp; omega) ?_; intro _ _))
local macro_rules | `(tactic| walk_at "call builtin:str.encode") => `(tactic| (refine enc_call 14 (by rw [hexA_size]; omega) (by rw [hexA_size]; omega) (hexA_small _) ?_; intro _ _))
set_option rowWalk.seconds 0 in
set_option maxHeartbeats 8000000 in
theorem b16_ok (B : Below A₀ base outer h₀) (F : Fr h₀ L s.heap m) (X : (hd.heap_1 w.params).In h₀) (N : News h₀ L s.heap news) (T : Top p loose mean mg mb h₀) (hk : cs.kind = .function) (hdp : dp + 12 < recursionLimit) (hun : un + 96 < cLine)
    {b : Array UInt8} {tb : Tok} {ks : List Int} (hb : KBw.bInts b = ks) (hlen : ks.length = 8)
    (ret : ∀ b t h' tk', Fr h₀ L h' m → News h₀ L h' news → KBw.bInts b = hexF ks → Q (.bytes b t) { s with heap := h', toks := tk' }) :
    wpAny (model PG w) (ktrTop dp un gd cn cs L a ccd cl outer) (call (.ref 132) [.bytes b tb]) Q E s := by
  have hz : b.size = 8 := by rw [← KBw.ints_length, hb]; exact hlen
  refine wpAny_call ?_
  k_dflt (refine' code_def (binds := [((Str.ofString "s"), Value.bytes b tb)]) ?k1 ?k2 ?k3 ?k4 ?k5 ?kA ?kF ?kK ?k6 ?k7 ?k8 ?k9 ?kB ?_ ?c2 ?c3 ?c4 ?c5; (case kA => exact rfl); (case kF => exact rfl); (case kK => assumption); (case k1 => k_asm); (case k2 => k_asm); (case k3 => k_asm); (case k4 => k_asm); (case k5 => k_asm); (case k6 => k_is); (case k7 => k_is); (case k8 => ktr_room); (case k9 => first | exact BindsTo.of_eq rfl | exact binds_K (by k_in) rfl (by k_is) rfl rfl rfl); (case c5 => decide); (case kB => exact locs rfl); (case c2 => exact rfl); (case c3 => exact rfl); (case c4 => exact rfl); k_whole; intro g L1 h1 FG F1 N1 B1 X1 T1)
  k_fold
  k_steps
  rename Fr h₀ _ _ _ => kF
  rename News h₀ _ _ _ => kN
  exact ret _ _ _ _ kF kN (by rw [← hb]; exact up_ints b)
end
/-! C11 -/
section
open PySem.Spec
variable {prog : Program} {w : World} {A : Around} {s : Shared} {env : Env} {h₀ : Heap}
theorem forT {R : Result → Shared → Prop} {x : Str} {px : Pos} {body : List Stmt} {I : Addr} {b : Array UInt8} {tb : Tok} {ks : List Int} {m : Str → Option Value} {news : List (Addr × Obj)} (T0 : Nat)
    (hk : KBw.bInts b = ks) (hh : A.handled = none) (hx : env.kindOf x = some .local) (hp : (env.scope.kind == .class || (env.scope.kind == .module && env.locals != env.globals)) = false)
    (hIL : env.locals ≠ I) (hI0 : h₀.get? I = none) (hnI : ∀ p ∈ news, p.1 ≠ I) (hit : KBw.IsBytesIter s.heap I b tb 0) (F : Fr h₀ env.locals s.heap m) (N : News h₀ env.locals s.heap news) (hT : T0 ≤ s.toks)
    (J : Nat → (Str → Option Value) → Prop) (h0 : J 0 m)
    (turn : ∀ i k t m₁ h tk own, ks[i]? = some k → T0 ≤ t → J i m₁ → Fr h₀ env.locals h (fun y => if y = x then some (.int k t) else m₁ y) → News h₀ env.locals h (news ++ own) → OwnOff own (news.map (·.1)) →
      wpAny (model prog w) A (execs body env) (InvPostN h₀ env.locals (fun m' nx => nx = news ∧ J (i + 1) m') own (news.map (·.1)) { s with heap := h, toks := tk } (fun f s' => R (.ok f) s')) (notedBy (model prog w) A env fun e s' => R (.error e) s') { s with heap := h, toks := tk })
    (done : ∀ m' h tk, J ks.length m' → Fr h₀ env.locals h m' → News h₀ env.locals h news → R (.ok .next) { s with heap := h, toks := tk }) :
    codeAny (model prog w) A (.forLoop (.Name x px) (.ref I) body [] env) R s := by
  subst hk
  have hn : (KBw.bInts b).length = b.size := KBw.ints_length b
  refine codeAny_forLoop
    (fun k s' => ∃ h' tk m' i, s' = { s with heap := h', toks := tk } ∧ KBw.IsBytesIter h' I b tb i ∧ Fr h₀ env.locals h' m' ∧ News h₀ env.locals h' news ∧ J i m' ∧ i ≤ b.size ∧ k = b.size + 1 - i ∧ T0 ≤ tk) ?_ (b.size + 1)
    ⟨s.heap, s.toks, m, 0, rfl, hit, F, N, h0, Nat.zero_le _, rfl, hT⟩
  rintro k s' ⟨h', tk, m', i, rfl, hst', F', N', hJ, hi, rfl, hTk⟩
  have next : ∀ h₁ : Heap, (∀ b o, b ≠ I → h'.get? b = some o → h₁.get? b = some o) → Fr h₀ env.locals h₁ m' ∧ News h₀ env.locals h₁ news := fun h₁ hk₁ =>
    ⟨⟨F'.ns.at' fun o e => hk₁ _ o hIL e, fun b o e => hk₁ b o (fun q => by rw [q, hI0] at e; cases e) (F'.keep b o e), F'.above⟩, fun p hp => ⟨hk₁ _ _ (hnI p hp) (N' p hp).1, (N' p hp).2⟩⟩
  by_cases hlt : i < b.size
  · refine KBw.next_item hst' (c := b[i]) (by simp [hlt]) fun h₁ hst₁ hs₁ => ?_
    obtain ⟨F₁, N₁⟩ := next h₁ fun c o hc e => hs₁.extBut c o hc e
    refine wpAny_assign_Name (wpAny_storeName_local hx F₁.ns (fun h₂ hn₂ hs₂ => ?_) hp)
    have F₂ := F₁.set hn₂ hs₂
    obtain ⟨oI, hoI, hcI, hdI⟩ := id hst₁
    have hoI2 : h₂.get? I = some oI := (hs₂.2 I (Ne.symm hIL)).trans hoI
    have N₂ : News h₀ env.locals h₂ (news ++ [(I, oI)]) := fun p hp => by
      rcases List.mem_append.mp hp with hp | hp
      · exact (N₁.set hs₂) p hp
      · rw [List.mem_singleton.mp hp]; exact ⟨hoI2, Ne.symm hIL, hI0⟩
    have hoff : OwnOff [(I, oI)] (news.map (·.1)) := by
      intro p hp c hc e
      obtain ⟨q, hq, rfl⟩ := List.mem_map.mp hc
      rw [List.mem_singleton.mp hp] at e
      exact hnI q hq e.symm
    have hget := KBw.ints_get (b := b) (i := i) (c := b[i]) (by simp [hlt])
    refine wpAny_with_toks (n := T0) (by show T0 ≤ tk + 1 + 1; omega) (wpAny_mono (turn i _ _ m' h₂ _ _ hget hTk hJ F₂ N₂ hoff) (fun f s₃ h₃ => ?_) fun _ _ e _ => e)
    intro hT3
    have fin : InvEndN h₀ env.locals (fun m' nx => nx = news ∧ J (i + 1) m') [(I, oI)] (news.map (·.1)) { s with heap := h₂, toks := tk + 1 + 1 } s₃ →
        ∃ m, m < b.size + 1 - i ∧ ∃ h' tk m' i, s₃ = { s with heap := h', toks := tk } ∧ KBw.IsBytesIter h' I b tb i ∧ Fr h₀ env.locals h' m' ∧ News h₀ env.locals h' news ∧ J i m' ∧ i ≤ b.size ∧ m = b.size + 1 - i ∧ T0 ≤ tk := by
      rintro ⟨h₄, tk₄, m₄, news₄, nx, rfl, F₄, N₄, hsub, hown, _, rfl, hJ₄⟩
      refine ⟨b.size + 1 - (i + 1), by omega, h₄, tk₄, m₄, i + 1, rfl, ⟨oI, (N₄ _ (hown _ (.head _))).1, hcI, hdI⟩, F₄, fun p hp => N₄ p (hsub p hp), hJ₄, hlt, rfl, hT3⟩
    cases f with
    | ret v => exact h₃
    | brk => exact h₃
    | cont => exact fin h₃
    | next => exact fin h₃
  · have hin : i = b.size := by omega
    subst hin
    refine KBw.next_end hh hst' (by simp) fun h₁ hs₁ => wpAny_execs_nil ?_
    obtain ⟨F₁, N₁⟩ := next h₁ fun c o hc e => hs₁ c o hc e
    exact done m' h₁ tk (hn ▸ hJ) F₁ N₁
theorem forTQ {Q : Flow → Shared → Prop} {E : Value → Shared → Prop} {x : Str} {px : Pos} {body : List Stmt} {b : Array UInt8} {tb : Tok} {ks : List Int} {m : Str → Option Value} {news : List (Addr × Obj)} (T0 : Nat)
    (hk : KBw.bInts b = ks) (hh : A.handled = none) (hx : env.kindOf x = some .local) (hp : (env.scope.kind == .class || (env.scope.kind == .module && env.locals != env.globals)) = false)
    (F : Fr h₀ env.locals s.heap m) (N : News h₀ env.locals s.heap news) (hT : T0 ≤ s.toks)
    (J : Nat → (Str → Option Value) → Prop) (h0 : J 0 m)
    (turn : ∀ i k t m₁ h tk own, ks[i]? = some k → T0 ≤ t → J i m₁ → Fr h₀ env.locals h (fun y => if y = x then some (.int k t) else m₁ y) → News h₀ env.locals h (news ++ own) → OwnOff own (news.map (·.1)) →
      wpAny (model prog w) A (execs body env) (InvPostN h₀ env.locals (fun m' nx => nx = news ∧ J (i + 1) m') own (news.map (·.1)) { s with heap := h, toks := tk } Q) E { s with heap := h, toks := tk })
    (done : ∀ m' h tk, J ks.length m' → Fr h₀ env.locals h m' → News h₀ env.locals h news → Q .next { s with heap := h, toks := tk })
    (hE : PassesOwn (model prog w) A env E := by passes_own) :
    wpAny (model prog w) A (pyIter (.bytes b tb)) (fun it s₂ => codeAny (model prog w) A (.forLoop (.Name x px) it body [] env) (fun r s' => match r with | .ok f => Q f s' | .error e => cameBackBy (model prog w) A env E e s') s₂) E s := by
  refine KBw.pyIter_bytes ?_
  refine forT (s := { s with heap := s.heap.push { cls := .type "bytes_iterator", data := .fields #[.bytes b tb, .int 0 0] } }) T0 hk hh hx hp ?_ ?_ ?_ ⟨_, Heap.get?_push_size _ rfl, rfl, rfl⟩ (F.push _) (fun p hp => ⟨Heap.get?_push_of_some _ (N p hp).1, (N p hp).2⟩) hT J h0 ?_ ?_
  · intro e
    exact absurd F.ns.lt (e ▸ Nat.lt_irrefl _)
  · exact next_is_new F
  · intro p hp e
    exact absurd (Heap.lt_size (N p hp).1) (e ▸ Nat.lt_irrefl _)
  · intro i k t m₁ h tk own h1 h2 h3 h4 h5 h6
    exact wpAny_passesOwn hE (turn i k t m₁ h tk own h1 h2 h3 h4 h5 h6)
  · intro m' h tk h1 h2 h3
    exact done m' h tk h1 h2 h3
theorem is_ints_eq {M : Model} {Q : Value → Shared → Prop} {E : Value → Shared → Prop} {x : Int} {t u : Tok} (ht : t ≠ 0) (hu : u ≠ 0) (hx : smallInt x = true) (h : Q (.bool true) s) : wpAny M A (compareOp .Is (.int x t) (.int x u)) Q E s := by
  have e1 : (t == 0 || u == 0) = false := by simp [ht, hu]
  show wpAny M A (do return .bool (← isSame (.int x t) (.int x u))) Q E s
  refine wpAny_bind ?_
  have e2 : isSame (.int x t) (.int x u) = (do rule "is.small-int-cache"; pure true) := by
    show (if (x == x && smallInt x) = true then isSame.cachedInt t u else isSame.created (x == x) t u) = _
    rw [if_pos (by simp [hx])]
    unfold isSame.cachedInt
    rw [e1]; rfl
  rw [e2]
  exact wpAny_bind (wpAny_rule (wpAny_pure (wpAny_pure h)))
theorem is_ints_ne {M : Model} {Q : Value → Shared → Prop} {E : Value → Shared → Prop} {x y : Int} {t u : Tok} (hxy : x ≠ y) (ht : t ≠ 0) (hu : u ≠ 0) (htu : t ≠ u) (h : Q (.bool false) s) : wpAny M A (compareOp .Is (.int x t) (.int y u)) Q E s := by
  have e1 : (t == 0 || u == 0) = false := by simp [ht, hu]
  have e4 : (x == y) = false := by simp [hxy]
  show wpAny M A (do return .bool (← isSame (.int x t) (.int y u))) Q E s
  have e3 : (t == u) = false := by simp [htu]
  have e2 : isSame (.int x t) (.int y u) = pure false := by
    show (if (x == y && smallInt x) = true then isSame.cachedInt t u else isSame.created (x == y) t u) = _
    rw [if_neg (by simp [hxy]), e4]
    unfold isSame.created
    simp only [e1, e3]
    rfl
  refine wpAny_bind ?_
  rw [e2]
  exact wpAny_pure (wpAny_pure h)
theorem is_ints_eq' {M : Model} {Q : Value → Shared → Prop} {E : Value → Shared → Prop} {x : Int} {t u : Nat} (hu : 0 < u) (hT : u + 1 ≤ t) (hx : smallInt x = true) (h : Q (.bool true) s) : wpAny M A (compareOp .Is (.int x t) (.int x u)) Q E s :=
  is_ints_eq (Nat.ne_of_gt (Nat.lt_of_lt_of_le (Nat.succ_pos _) hT)) (Nat.ne_of_gt hu) hx h
theorem is_ints_ne' {M : Model} {Q : Value → Shared → Prop} {E : Value → Shared → Prop} {x y : Int} {t u : Nat} (hu : 0 < u) (hT : u + 1 ≤ t) (hxy : ¬x = y) (h : Q (.bool false) s) : wpAny M A (compareOp .Is (.int x t) (.int y u)) Q E s :=
  is_ints_ne hxy (Nat.ne_of_gt (Nat.lt_of_lt_of_le (Nat.succ_pos _) hT)) (Nat.ne_of_gt hu) (Nat.ne_of_gt hT) h
end
local macro_rules | `(tactic| walk_at "compareOp Is int int") => `(tactic| first | refine is_ints_eq' (by assumption) (by assumption) (by assumption) ?_ | refine is_ints_ne' (by assumption) (by assumption) (by assumption) ?_)
section
variable {w : World} {dp un : Nat} {gd : Option (List Code)} {cn : Str} {cs : Scope} {a : Addr} {ccd : Value} {cl : List (Str × Addr)} {outer : List Env} {A₀ : Around} {base h₀ : Heap} {L : Addr} {m : Str → Option Value} {news : List (Addr × Obj)} {s : Shared} {Q E : Value → Shared → Prop} {p : Program} {loose : List Str} {mean : ExcName → Option Value} {mg mb : Str → Option Value}

theorem count_step {ks : List Int} {i : Nat} {k x : Int} (h : ks[i]? = some k) : ((ks.take (i + 1)).count x : Int) = ((ks.take i).count x : Int) + (if k = x then 1 else 0) := by
  rw [List.take_add_one, h]
  simp only [Option.toList_some, List.count_append, List.count_singleton]
  by_cases e : k = x <;> simp [e]

set_option rowWalk.seconds 0 in
set_option maxHeartbeats 8000000 in
theorem countOf_ok (B : Below A₀ base outer h₀) (F : Fr h₀ L s.heap m) (X : (hd.heap_1 w.params).In h₀) (N : News h₀ L s.heap news) (T : Top p loose mean mg mb h₀) (hk : cs.kind = .function) (hdp : dp + 3 < recursionLimit) (hun : un + 24 < cLine)
    {b : Array UInt8} {tb : Tok} {ks : List Int} {x : Int} {u : Tok} (hb : KBw.bInts b = ks) (hlen : ks.length ≤ 1000) (hu : 0 < u) (hut : u < s.toks) (hsm : smallInt x = true)
    (ret : ∀ t h' tk', Fr h₀ L h' m → News h₀ L h' news → Q (.int (ks.count x) t) { s with heap := h', toks := tk' }) :
    wpAny (model PG w) (ktrTop dp un gd cn cs L a ccd cl outer) (call (.ref 35) [.bytes b tb, .int x u]) Q E s := by
  refine wpAny_call ?_
  k_dflt (refine' code_def (binds := [((Str.ofString "a"), Value.bytes b tb), ((Str.ofString "b"), Value.int x u)]) ?k1 ?k2 ?k3 ?k4 ?k5 ?kA ?kF ?kK ?k6 ?k7 ?k8 ?k9 ?kB ?_ ?c2 ?c3 ?c4 ?c5; (case kA => exact rfl); (case kF => exact rfl); (case kK => assumption); (case k1 => k_asm); (case k2 => k_asm); (case k3 => k_asm); (case k4 => k_asm); (case k5 => k_asm); (case k6 => k_is); (case k7 => k_is); (case k8 => ktr_room); (case k9 => first | exact BindsTo.of_eq rfl | exact binds_K (by k_in) rfl (by k_is) rfl rfl rfl); (case c5 => decide); (case kB => exact locs rfl); (case c2 => exact rfl); (case c3 => exact rfl); (case c4 => exact rfl); k_whole; intro g L1 h1 FG F1 N1 B1 X1 T1)
  k_fold
  refine (fun (key : ∀ tk0, s.toks ≤ tk0 → wpAny _ _ _ _ _ { s with heap := h1, toks := tk0 }) => key _ (Nat.le_add_right _ _)) ?_
  intro tk0 htk0
  k_steps
  unfold Held
  rename Fr _ _ _ _ => F2
  rename News _ _ _ _ => N2
  have F2 : Fr g L1 _ (fun y => if y = (Str.ofString "count") then some (.int 0 _) else [((Str.ofString "a"), Value.bytes b tb), ((Str.ofString "b"), Value.int x u)].reverse.lookup y) := F2
  refine wpAny_For (ld F2 (by rfl) ?_) (by intro _; rfl)
  refine forTQ (u + 1) hb (by rfl) (by rfl) (by rfl) F2 N2 (Nat.le_trans hut (Nat.le_succ_of_le (Nat.le_succ_of_le htk0))) (fun i m₁ => ∃ t, ∀ z, z ≠ (Str.ofString "i") → m₁ z = (if z = (Str.ofString "count") then some (.int ((ks.take i).count x) t) else [((Str.ofString "a"), Value.bytes b tb), ((Str.ofString "b"), Value.int x u)].reverse.lookup z)) ⟨_, fun _ _ => rfl⟩ ?_ ?_
  · intro i k t m₁ h tk own hx hT hJ F3 N3 hoff
    obtain ⟨t1, hm⟩ := hJ
    rw [map_none hm] at F3
    change Fr g L1 _ _ at F3
    change News g L1 _ _ at N3
    have hcnt := count_step (x := x) hx
    have hc2 : ((ks.take i).count x : Int) ≤ 1000 := by
      have := List.count_le_length (a := x) (l := ks.take i)
      have := List.length_take_le i ks
      have : (ks.take i).length ≤ ks.length := by rw [List.length_take]; omega
      omega
    have hc0 : 0 ≤ ((ks.take i).count x : Int) := by omega
    by_cases hkx : k = x
    · subst hkx
      rw [if_pos rfl] at hcnt
      k_steps
      rename Fr _ _ _ _ => F4
      rename News _ _ _ _ => N4
      unfold Held
      refine' InvEndN.intro F4 N4 ⟨rfl, ⟨tk + 1, fun z h1 => ?hZ⟩⟩ ?hA ?hS ?hO
      case hZ => rw [hcnt]; by_cases h2 : z = (Str.ofString "count") <;> simp [h1, h2]
      case hA => rfl
      case hS => kcf_all
      case hO => intro p hp; exact List.mem_append.mpr (.inr hp)
    · rw [if_neg hkx] at hcnt
      k_steps
      (exfalso; exact hkx (by assumption))
      rename Fr _ _ _ _ => F4
      rename News _ _ _ _ => N4
      unfold Held
      refine' InvEndN.intro F4 N4 ⟨rfl, ⟨t1, fun z h1 => ?hZ⟩⟩ ?hA ?hS ?hO
      case hZ => rw [hcnt]; simp [h1]
      case hA => rfl
      case hS => kcf_all
      case hO => intro p hp; exact List.mem_append.mpr (.inr hp)
  · intro m' h tk hJ F3 N3
    obtain ⟨t1, hm⟩ := hJ
    rw [List.take_length] at hm
    rw [← done_none hm] at F3
    k_steps
    rename Fr h₀ _ _ _ => kF
    rename News h₀ _ _ _ => kN
    exact ret _ _ _ kF kN
end
/-! C12 -/
section
variable {w : World} {dp un : Nat} {gd : Option (List Code)} {cn : Str} {cs : Scope} {a : Addr} {ccd : Value} {cl : List (Str × Addr)} {outer : List Env} {A₀ : Around} {base h₀ : Heap} {L : Addr} {m : Str → Option Value} {news : List (Addr × Obj)} {s : Shared} {Q E : Value → Shared → Prop} {p : Program} {loose : List Str} {mean : ExcName → Option Value} {mg mb : Str → Option Value}

noncomputable def tallyF (ns : List Int) : List Int := ns.foldl (fun t x => t.set x.toNat (t.getD x.toNat 0 + 1)) (List.replicate 16 0)
theorem tallyF_len (ns : List Int) : (tallyF ns).length = 16 := by
  unfold tallyF
  have : ∀ (l t : List Int), (l.foldl (fun t x => t.set x.toNat (t.getD x.toNat 0 + 1)) t).length = t.length := by
    intro l; induction l with
    | nil => intro t; rfl
    | cons x r ih => intro t; rw [List.foldl_cons, ih, List.length_set]
  rw [this]; rfl
theorem tallyF_step {ns : List Int} {i : Nat} {x : Int} (h : ns[i]? = some x) : tallyF (ns.take (i + 1)) = (tallyF (ns.take i)).set x.toNat ((tallyF (ns.take i)).getD x.toNat 0 + 1) := by
  unfold tallyF
  rw [List.take_add_one, h]; simp

set_option rowWalk.seconds 0 in
set_option maxHeartbeats 8000000 in
theorem tally_ok (B : Below A₀ base outer h₀) (F : Fr h₀ L s.heap m) (X : (hd.heap_1 w.params).In h₀) (N : News h₀ L s.heap news) (T : Top p loose mean mg mb h₀) (hk : cs.kind = .function) (hdp : dp + 3 < recursionLimit) (hun : un + 24 < cLine)
    {l : Addr} {vs : List Value} {n : Nat} {ns : List Int} (hl : (l, listOf vs.toArray n) ∈ news) (hi : IntsAre vs ns) (hn : ∀ x ∈ ns, 0 ≤ x ∧ x < 16) (hlen : ns.length ≤ 1000)
    (ret : ∀ D us c h' tk', Fr h₀ L h' m → News h₀ L h' ((D, listOf (List.toArray us) c) :: news) → (∀ p ∈ news, p.1 < D) → IntsAre us (tallyF ns) → Q (.ref D) { s with heap := h', toks := tk' }) :
    wpAny (model PG w) (ktrTop dp un gd cn cs L a ccd cl outer) (call (.ref 176) [.ref l]) Q E s := by
  refine wpAny_call ?_
  k_dflt (refine' code_def (binds := [((Str.ofString "figures"), Value.ref l)]) ?k1 ?k2 ?k3 ?k4 ?k5 ?kA ?kF ?kK ?k6 ?k7 ?k8 ?k9 ?kB ?_ ?c2 ?c3 ?c4 ?c5; (case kA => exact rfl); (case kF => exact rfl); (case kK => assumption); (case k1 => k_asm); (case k2 => k_asm); (case k3 => k_asm); (case k4 => k_asm); (case k5 => k_asm); (case k6 => k_is); (case k7 => k_is); (case k8 => ktr_room); (case k9 => first | exact BindsTo.of_eq rfl | exact binds_K (by k_in) rfl (by k_is) rfl rfl rfl); (case c5 => decide); (case kB => exact locs rfl); (case c2 => exact rfl); (case c3 => exact rfl); (case c4 => exact rfl); k_whole; intro g L1 h1 FG F1 N1 B1 X1 T1)
  k_fold
  k_steps
  rename Fr _ _ _ _ => F1
  rename News _ _ _ _ => N1
  rename _ ∧ AllLt _ _ => l1
  rename IntsAre (List.flatten _) _ => i1
  rename_i l0 _ _ D _ _ _ _ _ _ _
  obtain ⟨l1a, l1b⟩ := l1
  refine For_invVF F1 (by rfl) (by rfl) ?_
  refine ld F1 (by rfl) ?_
  refine iter_invNL (fun i m₁ news₁ => (∃ us c, news₁ = (D, listOf (List.toArray us) c) :: (l0, listOf #[.int 0 _] 0) :: news ∧ IntsAre us (tallyF (ns.take i))) ∧ ∀ z, z ≠ (Str.ofString "figure") → m₁ z = (if z = (Str.ofString "tally") then some (.ref D) else [((Str.ofString "figures"), Value.ref l)].reverse.lookup z)) rfl (List.Mem.tail _ (List.Mem.tail _ hl)) hi F1 N1 ⟨⟨_, _, rfl, i1⟩, fun _ _ => rfl⟩ ?_ ?_
  · intro i x t m₁ news₁ h tk own hx hadr hoff hmem hJ F2 N2
    obtain ⟨⟨us, c, rfl, hus⟩, hm⟩ := hJ
    rw [map_none hm] at F2
    change Fr g L1 _ _ at F2
    change News g L1 _ _ at N2
    simp only [List.cons_append] at N2
    have hlen := tallyF_len (ns.take i)
    have hx2 := hn x (List.mem_of_getElem? hx)
    k_steps
    rename Fr _ _ _ _ => F3
    rename News _ _ _ _ => N3
    unfold Held
    refine' InvEndN.intro F3 N3 ⟨?hM, ⟨_, _, rfl, ?hI⟩, ?hZ⟩ ?hA ?hS ?hO
    case hI => rw [tallyF_step hx]; assumption
    case hM => exact .tail _ (.tail _ hl)
    case hZ => intro z h1; simp [h1]
    case hA => rfl
    case hS => kcf_all
    case hO => intro p hp; exact .tail _ (.tail _ (List.mem_append.mpr (.inr hp)))
  · intro m₁ news₁ h tk hmem hJ F2 N2
    obtain ⟨⟨us, c, rfl, hus⟩, hm⟩ := hJ
    rw [← done_none hm] at F2
    change Fr g L1 _ _ at F2
    change News g L1 _ _ at N2
    k_steps
    rename Fr h₀ _ _ _ => kF
    rename News h₀ _ _ _ => kN
    rw [List.take_length] at hus
    exact ret D us c _ _ kF (cb_drop kN (by kcf_all)) (lt_allLt l1b) hus
end
/-! C13 -/
noncomputable def rgObj (a n : Int) : Obj := { cls := .type "range_iterator", dict := none, data := .fields #[rawInt a, rawInt n, rawInt 1], slots := #[] }
noncomputable def liObj (l : Addr) : Obj := { cls := .type "list_iterator", data := .fields #[.ref l, .int ((0 : Nat) : Int) 0] }
section
open PySem.Spec PySem.Calls
variable {prog : Program} {w : World} {A : Around} {E : Value → Shared → Prop} {s : Shared} {env : Env} {h₀ : Heap} {x : Str} {body : List Stmt} {L : Addr} {m : Str → Option Value} {news : List (Addr × Obj)}
theorem call_iter {v : Value} {Q : Value → Shared → Prop} (h : wpAny (model prog w) A.in1 (pyIter v) Q E s) : wpAny (model prog w) A (call (.builtin "iter") [v]) Q E s := by
  refine call_function_entry (by decide +kernel) (by decide +kernel) kdk_entry_iter (kdk_args_iter _) ?_
  unfold Builtin.«iter»
  refine wpAny_bind (m := someArgs "iter" 1 2 _) (wpAny_of_eq (a := [v]) (by first | rfl | kernel_rfl!) ?_)
  show wpAny _ _ (pyIter v >>= _) _ _ _
  exact wpAny_bind (wpAny_mono h (fun u s' hq => wpAny_pure ⟨_, rfl, hq⟩) fun _ _ e => e)
theorem iter_range_new {r : Addr} {a b : Int} {t u v : Tok} {n : Nat} {Q : Value → Shared → Prop} (F : Fr h₀ L s.heap m) (N : News h₀ L s.heap news) (hr : IsRange s.heap r a b 1 t u v) (hsmall : Builtin.Range.small a b 1 = true) (hn : Builtin.Range.rangeSize a b 1 = (n : Int))
    (h : ∀ I h', Fr h₀ L h' m → News h₀ L h' ((I, rgObj a n) :: news) → (∀ p ∈ news, p.1 < I) → Q (.ref I) { s with heap := h' }) : wpAny (model prog w) A (call (.builtin "iter") [.ref r]) Q E s := by
  refine call_iter (PySem.wpAny_pyIter_range hr hsmall ?_)
  rw [hn]
  exact h _ _ (F.push _) (News.push F N _ rfl) (fun q hq => Heap.lt_size (N q hq).1)
theorem iter_list_new {l : Addr} {its : Array Value} {k : Nat} {Q : Value → Shared → Prop} (F : Fr h₀ L s.heap m) (N : News h₀ L s.heap news) (hl : (l, listOf its k) ∈ news)
    (h : ∀ I h', Fr h₀ L h' m → News h₀ L h' ((I, liObj l) :: news) → (∀ p ∈ news, p.1 < I) → Q (.ref I) { s with heap := h' }) : wpAny (model prog w) A (call (.builtin "iter") [.ref l]) Q E s := by
  refine call_iter (wpAny_pyIter_list ⟨_, (N _ hl).1, rfl, k, rfl⟩ ?_)
  exact h _ _ (F.push _) (News.push F N _ rfl) (fun q hq => Heap.lt_size (N q hq).1)
theorem loop_rangeI {I : Addr} {a : Int} {n : Nat} {m₀ : Str → Option Value} {Q : Flow → Shared → Prop} (J : Nat → (Str → Option Value) → List (Addr × Obj) → Prop)
    (hh : A.handled = none) (F : Fr h₀ env.locals s.heap m₀) (N : News h₀ env.locals s.heap ((I, rgObj a n) :: news)) (off : ∀ p ∈ news, p.1 ≠ I) (hj : J 0 m₀ news)
    (turn : ∀ (i : Nat) t m₁ nx h tk own, i < n → nx.map (·.1) = news.map (·.1) → OwnOff own (news.map (·.1)) → J i m₁ nx → Fr h₀ env.locals h (fun y => if y = x then some (.int (a + (i : Int)) t) else m₁ y) → News h₀ env.locals h (nx ++ own) →
      wpAny (model prog w) A (execs body env) (InvPostN h₀ env.locals (J (i + 1)) own (news.map (·.1)) { s with heap := h, toks := tk } Q) E { s with heap := h, toks := tk })
    (done : ∀ m₁ nx h tk, J n m₁ nx → Fr h₀ env.locals h m₁ → News h₀ env.locals h nx → Q .next { s with heap := h, toks := tk }) :
    wpAny (model prog w) A (pyIter (.ref I)) (fun it s₂ => LoopAtV prog w A h₀ env x body Q E it s₂) E s := by
  have W : Walks prog w A I [I] [I] n (fun i v => i < n ∧ ∃ t, v = .int (a + i * 1) t) (fun i h => IsRangeIter h I (a + (i : Nat) * 1) ((n : Int) - (i : Nat)) 1) := (Walks.range hh _ a 1 n).bound
  have hI := N _ (.head _)
  have st0 : IsRangeIter s.heap I (a + ((0 : Nat) : Int) * 1) ((n : Int) - ((0 : Nat) : Int)) 1 := by
    have e1 : a + ((0 : Nat) : Int) * 1 = a := by simp
    have e2 : (n : Int) - ((0 : Nat) : Int) = n := by simp
    rw [e1, e2]
    exact hI.1
  refine W.self 0 _ _ _ st0 ?_
  refine loop_invN J W ?_ ?_ ?_ ?_ st0 F (fun p hp => N p (.tail _ hp)) hj ?_ done
  · intro hm
    exact hI.2.1 (List.mem_singleton.mp hm).symm
  · intro b hb
    rw [List.mem_singleton.mp hb]
    exact hI.2.2
  · intro p hp hm
    exact off p hp (List.mem_singleton.mp hm)
  · intro p hp hm
    exact off p hp (List.mem_singleton.mp hm)
  · rintro i v m₁ nx h tk own hi ⟨_, t, rfl⟩ ha ho hJ F' N'
    rw [Int.mul_one] at F'
    exact turn i t m₁ nx h tk own hi ha ho hJ F' N'
theorem loop_listI {I l : Addr} {vs : List Value} {ns : List Int} {nn : Nat} {m₀ : Str → Option Value} {Q : Flow → Shared → Prop} (J : Nat → (Str → Option Value) → List (Addr × Obj) → Prop)
    (hh : A.handled = none) (hl : (l, listOf vs.toArray nn) ∈ news) (hi : IntsAre vs ns) (F : Fr h₀ env.locals s.heap m₀) (N : News h₀ env.locals s.heap ((I, liObj l) :: news)) (off : ∀ p ∈ news, p.1 ≠ I) (hj : J 0 m₀ news)
    (turn : ∀ i n t m₁ news₁ h tk own, ns[i]? = some n → news₁.map (·.1) = news.map (·.1) → OwnOff own (news.map (·.1)) → (l, listOf vs.toArray nn) ∈ news₁ → J i m₁ news₁ → Fr h₀ env.locals h (fun y => if y = x then some (.int n t) else m₁ y) → News h₀ env.locals h (news₁ ++ own) →
      wpAny (model prog w) A (execs body env) (InvPostN h₀ env.locals (fun m' nx => (l, listOf vs.toArray nn) ∈ nx ∧ J (i + 1) m' nx) own (news.map (·.1)) { s with heap := h, toks := tk } Q) E { s with heap := h, toks := tk })
    (done : ∀ m₁ news₁ h tk, (l, listOf vs.toArray nn) ∈ news₁ → J ns.length m₁ news₁ → Fr h₀ env.locals h m₁ → News h₀ env.locals h news₁ → Q .next { s with heap := h, toks := tk }) :
    wpAny (model prog w) A (pyIter (.ref I)) (fun it s₂ => LoopAtV prog w A h₀ env x body Q E it s₂) E s := by
  have hI := N _ (.head _)
  have hol := (N _ (.tail _ hl)).1
  have hls : s.heap.IsList l vs.toArray := ⟨_, hol, rfl, nn, rfl⟩
  have hne : l ≠ I := off _ hl
  have W := Walks.list (prog := prog) (w := w) hh I l hne vs.toArray
  have hlen : vs.toArray.size = ns.length := by simp [hi.length]
  rw [hlen] at W
  have st0 : s.heap.IsListIter I l 0 ∧ s.heap.IsList l vs.toArray := ⟨⟨_, hI.1, rfl, rfl⟩, hls⟩
  refine W.self 0 _ _ _ st0 ?_
  refine ⟨_, _, _, ns.length, _, _, m₀, news, (fun i m nx => nx.map (·.1) = news.map (·.1) ∧ (l, listOf vs.toArray nn) ∈ nx ∧ J i m nx), rfl, W, ?_, ?_, ?_, st0, F, (fun p hp => N p (.tail _ hp)), ⟨rfl, hl, hj⟩, ?_, ?_⟩
  · intro hm
    rcases List.mem_cons.mp hm with e | hm
    · exact hI.2.1 e.symm
    · exact (N _ (.tail _ hl)).2.1 ((List.mem_singleton.mp hm).symm)
  · intro b hb
    rw [List.mem_singleton.mp hb]
    exact hI.2.2
  · intro p hp hm
    exact off p hp (List.mem_singleton.mp hm)
  · rintro i v m₁ news₁ s₁ own ⟨hh', tk', rfl⟩ hin hP ⟨hadr, hl₁, hJ⟩ hoff hown hget hfp _ F₁ N₁
    have hsep : OwnOff (own.filter fun p => decide (p.1 = I)) (news.map (·.1)) := by
      intro p hp b hb e
      obtain ⟨q, hq, rfl⟩ := List.mem_map.mp hb
      have h1 : p.1 = I := by simpa using (List.mem_filter.mp hp).2
      exact off q hq (by rw [← e, h1])
    have hlt' : i < ns.length := hin
    obtain ⟨t, hx⟩ := hi.get i ns[i] (by simp [hlt'])
    have hv : v = .int ns[i] t := by
      have hP' : vs[i]? = some v := by simpa using hP
      rw [hx] at hP'; exact (Option.some.inj hP').symm
    subst hv
    have N₂ : News h₀ env.locals hh' (news₁ ++ own.filter fun p => decide (p.1 = I)) := fun p hp => N₁ p ((List.mem_append.mp hp).elim (fun h => List.mem_append.mpr (.inr h)) fun h => List.mem_append.mpr (.inl ((List.mem_filter.mp h).1)))
    have hlo : hh'.get? l = some (listOf vs.toArray nn) := (N₁ _ (List.mem_append.mpr (.inr hl₁))).1
    refine wpAny_mono (turn i ns[i] t m₁ news₁ hh' tk' _ (by simp [hlt']) hadr hsep hl₁ hJ F₁ N₂) (fun f s₂ p => ?_) fun _ _ e => e
    have fin : InvEndN h₀ env.locals (fun m' nx => (l, listOf vs.toArray nn) ∈ nx ∧ J (i + 1) m' nx) (own.filter fun p => decide (p.1 = I)) (news.map (·.1)) { s with heap := hh', toks := tk' } s₂ →
        LoopStepU h₀ env.locals [I] own (fun m nx => nx.map (·.1) = news.map (·.1) ∧ (l, listOf vs.toArray nn) ∈ nx ∧ J (i + 1) m nx) { s with heap := hh', toks := tk' } .next s₂ := by
      rintro ⟨h', tk, m', news', nx, e, F', N', hn, ho, ha, hm⟩
      refine ⟨rfl, h', tk, m', nx, e, F', fun p hp => ?_, fun p hp => ?_, ha, hm⟩
      · rcases List.mem_append.mp hp with h | h
        · by_cases hpI : p.1 = I
          · exact N' p (ho p (List.mem_filter.mpr ⟨h, by simpa using hpI⟩))
          · have h1 : p.1 = l := by
              rcases List.mem_cons.mp (hown p h) with h2 | h2
              · exact absurd h2 hpI
              · exact List.mem_singleton.mp h2
            have h2 : hh'.get? p.1 = some p.2 := hget p h
            rw [h1, hlo] at h2
            have h3 : p = (l, listOf vs.toArray nn) := Prod.ext h1 (Option.some.inj h2).symm
            rw [h3]
            exact N' _ (hn _ hm.1)
        · exact N' p (hn p h)
      · have h1 : p.1 ∈ nx.map (·.1) := List.mem_map.mpr ⟨p, hp, rfl⟩
        rw [ha] at h1
        obtain ⟨q, hq, e⟩ := List.mem_map.mp h1
        intro hpI
        exact off q hq (by rw [e, List.mem_singleton.mp hpI])
    cases f with
    | ret v => exact .ret p
    | brk => exact .brk p
    | next => exact .next (fin p)
    | cont => exact .cont (fin p)
  · rintro h' tk m' news' F' N' _ ⟨_, hl', hJ⟩
    exact done m' news' h' tk hl' hJ F' N'
end
/-! C14 -/
structure WSt where
  node : Int
  seen : List Int
  bits : List Int
noncomputable def wbit (ex : List Int) (s : WSt) : Int := if s.seen.getD s.node.toNat 0 = 1 then ex.getD s.node.toNat 0 else 1 - ex.getD s.node.toNat 0
noncomputable def wstep (ex : List Int) (s : WSt) : WSt := ⟨Int.fmod (2 * s.node + wbit ex s) 32, s.seen.set s.node.toNat 1, s.bits ++ [wbit ex s]⟩
noncomputable def walkF (ex : List Int) : Nat → WSt
  | 0 => ⟨0, List.replicate 32 0, []⟩
  | i + 1 => wstep ex (walkF ex i)
structure WOk (i : Nat) (s : WSt) : Prop where
  lo : 0 ≤ s.node
  hi : s.node < 32
  len : s.seen.length = 32
  bl : s.bits.length = i
  b01 : ∀ b ∈ s.bits, b = 0 ∨ b = 1
theorem walk_ok {ex : List Int} (h : ∀ v, ex.getD v 0 = 0 ∨ ex.getD v 0 = 1) : ∀ i, WOk i (walkF ex i)
  | 0 => ⟨Int.le_refl _, (by decide : (0:Int) < 32), by simp [walkF], rfl, by intro b hb; cases hb⟩
  | i + 1 => by
    have x := walk_ok h i
    refine ⟨fmod_lo' (by decide), fmod_hi' (by decide), ?_, ?_, ?_⟩
    · show ((walkF ex i).seen.set _ 1).length = 32
      rw [List.length_set, x.len]
    · show ((walkF ex i).bits ++ [_]).length = i + 1
      rw [List.length_append, x.bl]; rfl
    · intro b hb
      rcases List.mem_append.mp hb with hb | hb
      · exact x.b01 b hb
      · rw [List.mem_singleton.mp hb]
        unfold wbit
        rcases h (walkF ex i).node.toNat with e | e <;> rw [e] <;> split <;> simp
theorem ExOk.b01 {ex : List Int} (h : ExOk ex) (v : Nat) : ex.getD v 0 = 0 ∨ ex.getD v 0 = 1 := by
  have := h.bit v
  omega
noncomputable def RedJ (ex : List Int) (n0 : List (Addr × Obj)) (DS D6 : Addr) (m0 : Str → Option Value) (i : Nat) (m₁ : Str → Option Value) (nx : List (Addr × Obj)) : Prop :=
  ∃ uS cS bs cB t, nx = (n0.set 3 (DS, listOf (List.toArray uS) cS)).set 8 (D6, listOf (List.toArray bs) cB) ∧ IntsAre uS (walkF ex i).seen ∧ IntsAre bs (walkF ex i).bits ∧ ∀ z, z ≠ (Str.ofString "element") → m₁ z = (if z = (Str.ofString "value") then some (.int (walkF ex i).node t) else m0 z)
theorem red_end {G h' : Heap} {L DS D6 : Addr} {m' m0 : Str → Option Value} {own n0 : List (Addr × Obj)} {adr : List Addr} {s₁ : Shared} {tk : Nat} {ex : List Int} {i : Nat} {uS' bs : List Value} {cS cB : Nat} {b node' : Int} {tb tn : Tok}
    (hus : IntsAre uS' ((walkF ex i).seen.set (walkF ex i).node.toNat 1)) (hbs : IntsAre bs (walkF ex i).bits) (hb : b = wbit ex (walkF ex i)) (hn : node' = Int.fmod (2 * (walkF ex i).node + b) 32)
    (F : Fr G L h' m') (N : News G L h' (((n0.set 3 (DS, listOf (List.toArray uS') cS)).set 8 (D6, listOf ((List.toArray bs).push (.int b tb)) cB)) ++ own))
    (hm : ∀ z, z ≠ (Str.ofString "element") → m' z = (if z = (Str.ofString "value") then some (.int node' tn) else m0 z))
    (hA : ((n0.set 3 (DS, listOf (List.toArray uS') cS)).set 8 (D6, listOf ((List.toArray bs).push (.int b tb)) cB)).map (·.1) = adr) :
    InvEndN G L (RedJ ex n0 DS D6 m0 (i + 1)) own adr s₁ { s₁ with heap := h', toks := tk } := by
  subst hb
  subst hn
  rw [List.push_toArray] at N hA
  exact InvEndN.intro F N ⟨_, _, _, _, tn, rfl, hus, hbs.append (.cons _ _ .nil), hm⟩ hA (fun p hp => List.mem_append.mpr (.inl hp)) (fun p hp => List.mem_append.mpr (.inr hp))

/-! C15 -/
noncomputable def numF (bits : List Int) : Int := bits.foldl (fun w b => w + w + b) 0
theorem numF_step {bits : List Int} {i : Nat} {b : Int} (h : bits[i]? = some b) : numF (bits.take (i + 1)) = numF (bits.take i) + numF (bits.take i) + b := by
  unfold numF
  rw [List.take_add_one, h]; simp
noncomputable def NumJ (bits : List Int) (n0 : List (Addr × Obj)) (m0 : Str → Option Value) (i : Nat) (m₁ : Str → Option Value) (nx : List (Addr × Obj)) : Prop :=
  nx = n0 ∧ ∃ t, ∀ z, z ≠ (Str.ofString "element") → m₁ z = (if z = (Str.ofString "value") then some (.int (numF (bits.take i)) t) else m0 z)
theorem num_start {bits : List Int} {n0 : List (Addr × Obj)} {M : Str → Option Value} {t : Tok} : NumJ bits n0 (fun y => if y = (Str.ofString "value") then some (.int 0 t) else M y) 0 (fun y => if y = (Str.ofString "value") then some (.int 0 t) else M y) n0 := by
  refine ⟨rfl, t, fun z hz => ?_⟩
  show (if z = (Str.ofString "value") then some (Value.int 0 t) else M z) = (if z = (Str.ofString "value") then some (Value.int (numF (bits.take 0)) t) else (if z = (Str.ofString "value") then some (Value.int 0 t) else M z))
  by_cases h : z = (Str.ofString "value")
  · simp only [h, if_true]; rfl
  · simp only [h, if_false]
theorem num_end {G h' : Heap} {L l : Addr} {o : Obj} {m' m0 : Str → Option Value} {own n0 : List (Addr × Obj)} {adr : List Addr} {s₁ : Shared} {tk : Nat} {bits : List Int} {i : Nat} {b v : Int} {tn : Tok}
    (hl : (l, o) ∈ n0) (hb : bits[i]? = some b) (hv : v = numF (bits.take i) + numF (bits.take i) + b)
    (F : Fr G L h' m') (N : News G L h' (n0 ++ own))
    (hm : ∀ z, z ≠ (Str.ofString "element") → m' z = (if z = (Str.ofString "value") then some (.int v tn) else m0 z))
    (hA : n0.map (·.1) = adr) :
    InvEndN G L (fun m' nx => (l, o) ∈ nx ∧ NumJ bits n0 m0 (i + 1) m' nx) own adr s₁ { s₁ with heap := h', toks := tk } := by
  subst hv
  refine InvEndN.intro F N ⟨hl, rfl, tn, fun z hz => ?_⟩ hA (fun p hp => List.mem_append.mpr (.inl hp)) (fun p hp => List.mem_append.mpr (.inr hp))
  rw [numF_step hb]
  exact hm z hz
theorem num_range' : ∀ (bits : List Int), (∀ b ∈ bits, b = 0 ∨ b = 1) → ∀ w : Int, 0 ≤ w → 0 ≤ bits.foldl (fun w b => w + w + b) w ∧ bits.foldl (fun w b => w + w + b) w < (w + 1) * 2 ^ bits.length
  | [], _, w, h => ⟨h, by simp; omega⟩
  | b :: r, hb, w, h => by
    have h1 := hb b (.head _)
    have x := num_range' r (fun b hb' => hb b (.tail _ hb')) (w + w + b) (by omega)
    refine ⟨x.1, Int.lt_of_lt_of_le x.2 ?_⟩
    have e : (w + 1) * 2 ^ (b :: r).length = (2 * (w + 1)) * 2 ^ r.length := by
      rw [List.length_cons, Int.pow_succ, Int.mul_comm (2 ^ r.length) 2, ← Int.mul_assoc, Int.mul_comm (w + 1) 2]
    rw [e]
    exact Int.mul_le_mul_of_nonneg_right (by omega) (Int.le_of_lt (Int.pow_pos (by decide)))
theorem num_range {bits : List Int} (hl : bits.length = 64) (hb : ∀ b ∈ bits, b = 0 ∨ b = 1) : 0 ≤ numF bits ∧ numF bits < 18446744073709551616 := by
  have x := num_range' bits hb 0 (Int.le_refl _)
  rw [hl] at x
  refine ⟨x.1, Int.lt_of_lt_of_le x.2 (by decide)⟩
/-! C16 -/
section
open PySem.Spec
variable {prog : Program} {w : World} {A : Around} {s : Shared} {env : Env} {h₀ : Heap}
theorem for_rangeC {Q : Flow → Shared → Prop} {E : Value → Shared → Prop} {x : Str} {px : Pos} {body : List Stmt} {r : Addr} {b : Int} {t₀ u₀ v₀ : Tok} {n : Nat} {m : Str → Option Value} {news : List (Addr × Obj)}
    (J : Nat → (Str → Option Value) → List (Addr × Obj) → Prop)
    (hh : A.handled = none) (hr : IsRange s.heap r 0 b 1 t₀ u₀ v₀) (hsmall : Builtin.Range.small 0 b 1 = true) (hn : Builtin.Range.rangeSize 0 b 1 = (n : Int))
    (F : Fr h₀ env.locals s.heap m) (N : News h₀ env.locals s.heap news) (h0 : J 0 m news)
    (turn : ∀ (i : Nat) t m₁ nx h tk own, i < n → nx.map (·.1) = news.map (·.1) → OwnOff own (news.map (·.1)) → J i m₁ nx → Fr h₀ env.locals h m₁ → News h₀ env.locals h (nx ++ own) →
      wpAny (model prog w) A (storeName env x (.int (i : Int) t)) (fun _ s' => wpAny (model prog w) A (execs body env) (InvPostN h₀ env.locals (J (i + 1)) own (news.map (·.1)) s Q) E s') E { s with heap := h, toks := tk })
    (done : ∀ m₁ nx h tk, J n m₁ nx → Fr h₀ env.locals h m₁ → News h₀ env.locals h nx → Q .next { s with heap := h, toks := tk })
    (hE : PassesOwn (model prog w) A env E := by passes_own) :
    wpAny (model prog w) A (pyIter (.ref r)) (fun it s₂ => codeAny (model prog w) A (.forLoop (.Name x px) it body [] env) (fun r s' => match r with | .ok f => Q f s' | .error e => cameBackBy (model prog w) A env E e s') s₂) E s := by
  refine PySem.wpAny_pyIter_range hr hsmall ?_
  rw [hn]
  generalize hI : s.heap.objs.size = I
  generalize hs2 : s.heap.push { cls := .type "range_iterator", dict := none, data := .fields #[rawInt 0, rawInt (n : Int), rawInt 1], slots := #[] } = h2
  have W : Walks prog w A I [I] [I] n (fun i v => ∃ t, v = .int (0 + (i : Int)) t) (fun i h => IsRangeIter h I (0 + (i : Nat) * 1) ((n : Int) - (i : Nat)) 1) := LCg.range_walks hh 0 n
  have hIL : env.locals ≠ I := fun e => absurd F.ns.lt (by rw [hI, e]; exact Nat.lt_irrefl _)
  have hI0 : h₀.get? I = none := by rw [← hI]; exact next_is_new F
  have hnI : ∀ p ∈ news, p.1 ≠ I := fun p hp e => absurd (Heap.lt_size (N p hp).1) (by rw [hI, e]; exact Nat.lt_irrefl _)
  have F2 : Fr h₀ env.locals h2 m := by rw [← hs2]; exact F.push _
  have N2 : News h₀ env.locals h2 news := by rw [← hs2]; exact fun p hp => ⟨Heap.get?_push_of_some _ (N p hp).1, (N p hp).2⟩
  have st0 : IsRangeIter h2 I (0 + ((0 : Nat) : Int) * 1) ((n : Int) - ((0 : Nat) : Int)) 1 := by
    show h2.get? I = some _
    rw [← hs2, ← hI]
    simpa using Heap.get?_push_size _ rfl
  refine codeAny_forLoop
    (fun k s' => ∃ h' tk m' nx i, s' = { s with heap := h', toks := tk } ∧ IsRangeIter h' I (0 + (i : Nat) * 1) ((n : Int) - (i : Nat)) 1 ∧ Fr h₀ env.locals h' m' ∧ News h₀ env.locals h' nx ∧ nx.map (·.1) = news.map (·.1) ∧ J i m' nx ∧ i ≤ n ∧ k = n + 1 - i) ?_ (n + 1)
    ⟨h2, s.toks, m, news, 0, rfl, st0, F2, N2, rfl, h0, Nat.zero_le _, rfl⟩
  rintro k s' ⟨h', tk, m', nx, i, rfl, hst', F', N', hadr, hJ, hi, rfl⟩
  have hnx : ∀ p ∈ nx, p.1 ≠ I := by
    intro p hp e
    have h1 : p.1 ∈ nx.map (·.1) := List.mem_map.mpr ⟨p, hp, rfl⟩
    rw [hadr] at h1
    obtain ⟨q, hq, e2⟩ := List.mem_map.mp h1
    exact hnI q hq (by rw [e2, e])
  by_cases hlt : i < n
  · refine W.item i _ _ _ hlt hst' fun v h₁ tk₁ hPv hst₁ hk₁ => ?_
    obtain ⟨t, rfl⟩ := hPv
    rw [Int.zero_add]
    have F₁ := LCg.fr_but F' hk₁ hIL hI0
    have N₁ := LCg.news_but N' hk₁ hnx
    have hst1' : h₁.get? I = some _ := hst₁
    have N₂ : News h₀ env.locals h₁ (nx ++ [(I, _)]) := fun p hp => by
      rcases List.mem_append.mp hp with hp | hp
      · exact N₁ p hp
      · rw [List.mem_singleton.mp hp]; exact ⟨hst1', Ne.symm hIL, hI0⟩
    have hoff : OwnOff [(I, ({ cls := .type "range_iterator", dict := none, data := .fields #[rawInt (0 + ((i + 1 : Nat) : Int) * 1), rawInt ((n : Int) - ((i + 1 : Nat) : Int)), rawInt 1], slots := #[] } : Obj))] (news.map (·.1)) := by
      intro p hp c hc e
      obtain ⟨q, hq, rfl⟩ := List.mem_map.mp hc
      rw [List.mem_singleton.mp hp] at e
      exact hnI q hq e.symm
    have z := turn i t m' nx h₁ tk₁ _ hlt hadr hoff hJ F₁ N₂
    refine wpAny_assign_Name (wpAny_mono (wpAny_passesOwn hE z) (fun _ s₄ z => ?_) fun _ _ e => e)
    refine wpAny_mono (wpAny_passesOwn hE z) (fun f s₃ h₃ => ?_) fun _ _ e => e
    have fin : InvEndN h₀ env.locals (J (i + 1)) [(I, ({ cls := .type "range_iterator", dict := none, data := .fields #[rawInt (0 + ((i + 1 : Nat) : Int) * 1), rawInt ((n : Int) - ((i + 1 : Nat) : Int)), rawInt 1], slots := #[] } : Obj))] (news.map (·.1)) s s₃ →
        ∃ m, m < n + 1 - i ∧ ∃ h' tk m' nx i, s₃ = { s with heap := h', toks := tk } ∧ IsRangeIter h' I (0 + (i : Nat) * 1) ((n : Int) - (i : Nat)) 1 ∧ Fr h₀ env.locals h' m' ∧ News h₀ env.locals h' nx ∧ nx.map (·.1) = news.map (·.1) ∧ J i m' nx ∧ i ≤ n ∧ m = n + 1 - i := by
      rintro ⟨h₄, tk₄, m₄, news₄, nx₄, rfl, F₄, N₄, hsub, hown, ha, hJ₄⟩
      refine ⟨n + 1 - (i + 1), by omega, h₄, tk₄, m₄, nx₄, i + 1, rfl, (N₄ _ (hown _ (.head _))).1, F₄, fun p hp => N₄ p (hsub p hp), ha, hJ₄, hlt, rfl⟩
    cases f with
    | ret v => exact h₃
    | brk => exact h₃
    | cont => exact fin h₃
    | next => exact fin h₃
  · have hin : i = n := by omega
    subst hin
    refine W.done _ _ _ hst' fun h₁ tk₁ hk₁ => wpAny_execs_nil ?_
    exact done m' nx h₁ tk₁ hJ (LCg.fr_but F' hk₁ hIL hI0) (LCg.news_but N' hk₁ hnx)
end
/-! C20 -/
noncomputable def InvEnd2 (h₀ : Heap) (L : Addr) (J : (Str → Option Value) → List (Addr × Obj) → Prop) (own : List (Addr × Obj)) (s₁ s₂ : Shared) : Prop :=
  ∃ h' tk m' news' nx, s₂ = { s₁ with heap := h', toks := tk } ∧ Fr h₀ L h' m' ∧ News h₀ L h' news' ∧ (∀ p ∈ nx, p ∈ news') ∧ (∀ p ∈ own, p ∈ news') ∧ J m' nx
noncomputable def InvPost2 (h₀ : Heap) (L : Addr) (J : (Str → Option Value) → List (Addr × Obj) → Prop) (own : List (Addr × Obj)) (s₁ : Shared) (Q : Flow → Shared → Prop) (f : Flow) (s₂ : Shared) : Prop :=
  match f with
  | .ret v => Q (.ret v) s₂
  | .brk => Q .next s₂
  | _ => InvEnd2 h₀ L J own s₁ s₂
theorem InvEnd2.intro {G h' : Heap} {L : Addr} {J : (Str → Option Value) → List (Addr × Obj) → Prop} {m' : Str → Option Value} {own all : List (Addr × Obj)} {s₁ : Shared} {tk : Nat} (F : Fr G L h' m') (N : News G L h' all) (nx : List (Addr × Obj)) (hs : ∀ p ∈ nx, p ∈ all) (ho : ∀ p ∈ own, p ∈ all) (hJ : J m' nx) : InvEnd2 G L J own s₁ { s₁ with heap := h', toks := tk } :=
  ⟨h', tk, m', all, nx, rfl, F, N, hs, ho, hJ⟩
section
open PySem.Spec
variable {prog : Program} {w : World} {A : Around} {s : Shared} {env : Env} {h₀ : Heap}
theorem for_rangeD {Q : Flow → Shared → Prop} {E : Value → Shared → Prop} {x : Str} {px : Pos} {body : List Stmt} {r : Addr} {b : Int} {t₀ u₀ v₀ : Tok} {n : Nat} {m : Str → Option Value} {news : List (Addr × Obj)}
    (J : Nat → (Str → Option Value) → List (Addr × Obj) → Prop)
    (T0 : Nat) (hT : T0 ≤ s.toks) (hh : A.handled = none) (hr : IsRange s.heap r 0 b 1 t₀ u₀ v₀) (hsmall : Builtin.Range.small 0 b 1 = true) (hn : Builtin.Range.rangeSize 0 b 1 = (n : Int))
    (F : Fr h₀ env.locals s.heap m) (N : News h₀ env.locals s.heap news) (h0 : J 0 m news) (hJc : ∀ i m nx, J i m nx → ∀ p ∈ nx, ∀ fs, p.2.data = .fields fs → p.2.cls ≠ .type "range_iterator")
    (turn : ∀ (i : Nat) t m₁ nx h tk own, i < n → T0 ≤ tk → OwnOff own (nx.map (·.1)) → J i m₁ nx → Fr h₀ env.locals h m₁ → News h₀ env.locals h (nx ++ own) →
      wpAny (model prog w) A (storeName env x (.int (i : Int) t)) (fun _ s' => wpAny (model prog w) A (execs body env) (InvPost2 h₀ env.locals (J (i + 1)) own s Q) E s') E { s with heap := h, toks := tk })
    (done : ∀ m₁ nx h tk, J n m₁ nx → Fr h₀ env.locals h m₁ → News h₀ env.locals h nx → Q .next { s with heap := h, toks := tk })
    (hE : PassesOwn (model prog w) A env E := by passes_own) :
    wpAny (model prog w) A (pyIter (.ref r)) (fun it s₂ => codeAny (model prog w) A (.forLoop (.Name x px) it body [] env) (fun r s' => match r with | .ok f => Q f s' | .error e => cameBackBy (model prog w) A env E e s') s₂) E s := by
  refine PySem.wpAny_pyIter_range hr hsmall ?_
  rw [hn]
  generalize hI : s.heap.objs.size = I
  generalize hs2 : s.heap.push { cls := .type "range_iterator", dict := none, data := .fields #[rawInt 0, rawInt (n : Int), rawInt 1], slots := #[] } = h2
  have W : Walks prog w A I [I] [I] n (fun i v => ∃ t, v = .int (0 + (i : Int)) t) (fun i h => IsRangeIter h I (0 + (i : Nat) * 1) ((n : Int) - (i : Nat)) 1) := LCg.range_walks hh 0 n
  have hIL : env.locals ≠ I := fun e => absurd F.ns.lt (by rw [hI, e]; exact Nat.lt_irrefl _)
  have hI0 : h₀.get? I = none := by rw [← hI]; exact next_is_new F
  have hnI : ∀ p ∈ news, p.1 ≠ I := fun p hp e => absurd (Heap.lt_size (N p hp).1) (by rw [hI, e]; exact Nat.lt_irrefl _)
  have F2 : Fr h₀ env.locals h2 m := by rw [← hs2]; exact F.push _
  have N2 : News h₀ env.locals h2 news := by rw [← hs2]; exact fun p hp => ⟨Heap.get?_push_of_some _ (N p hp).1, (N p hp).2⟩
  have st0 : IsRangeIter h2 I (0 + ((0 : Nat) : Int) * 1) ((n : Int) - ((0 : Nat) : Int)) 1 := by
    show h2.get? I = some _
    rw [← hs2, ← hI]
    simpa using Heap.get?_push_size _ rfl
  refine codeAny_forLoop
    (fun k s' => ∃ h' tk m' nx i, s' = { s with heap := h', toks := tk } ∧ T0 ≤ tk ∧ IsRangeIter h' I (0 + (i : Nat) * 1) ((n : Int) - (i : Nat)) 1 ∧ Fr h₀ env.locals h' m' ∧ News h₀ env.locals h' nx ∧ (∀ p ∈ nx, p.1 ≠ I) ∧ J i m' nx ∧ i ≤ n ∧ k = n + 1 - i) ?_ (n + 1)
    ⟨h2, s.toks, m, news, 0, rfl, hT, st0, F2, N2, hnI, h0, Nat.zero_le _, rfl⟩
  rintro k s' ⟨h', tk, m', nx, i, rfl, hTk, hst', F', N', hnx, hJ, hi, rfl⟩
  by_cases hlt : i < n
  · refine wpAny_with_toks (n := T0) hTk (W.item i _ _ _ hlt hst' fun v h₁ tk₁ hPv hst₁ hk₁ hT1 => ?_)
    have hT1 : T0 ≤ tk₁ := hT1
    obtain ⟨t, rfl⟩ := hPv
    rw [Int.zero_add]
    have F₁ := LCg.fr_but F' hk₁ hIL hI0
    have N₁ := LCg.news_but N' hk₁ hnx
    have hst1' : h₁.get? I = some _ := hst₁
    have N₂ : News h₀ env.locals h₁ (nx ++ [(I, _)]) := fun p hp => by
      rcases List.mem_append.mp hp with hp | hp
      · exact N₁ p hp
      · rw [List.mem_singleton.mp hp]; exact ⟨hst1', Ne.symm hIL, hI0⟩
    have hoff : OwnOff [(I, ({ cls := .type "range_iterator", dict := none, data := .fields #[rawInt (0 + ((i + 1 : Nat) : Int) * 1), rawInt ((n : Int) - ((i + 1 : Nat) : Int)), rawInt 1], slots := #[] } : Obj))] (nx.map (·.1)) := by
      intro p hp c hc e
      obtain ⟨q, hq, rfl⟩ := List.mem_map.mp hc
      rw [List.mem_singleton.mp hp] at e
      exact hnx q hq e.symm
    have z := turn i t m' nx h₁ tk₁ _ hlt hT1 hoff hJ F₁ N₂
    refine wpAny_assign_Name (wpAny_with_toks (n := T0) hT1 (wpAny_mono (wpAny_passesOwn hE z) (fun _ s₄ z hT4 => ?_) fun _ _ e _ => e))
    refine wpAny_with_toks (n := T0) hT4 (wpAny_mono (wpAny_passesOwn hE z) (fun f s₃ h₃ hT3 => ?_) fun _ _ e _ => e)
    have fin : InvEnd2 h₀ env.locals (J (i + 1)) [(I, ({ cls := .type "range_iterator", dict := none, data := .fields #[rawInt (0 + ((i + 1 : Nat) : Int) * 1), rawInt ((n : Int) - ((i + 1 : Nat) : Int)), rawInt 1], slots := #[] } : Obj))] s s₃ →
        ∃ m, m < n + 1 - i ∧ ∃ h' tk m' nx i, s₃ = { s with heap := h', toks := tk } ∧ T0 ≤ tk ∧ IsRangeIter h' I (0 + (i : Nat) * 1) ((n : Int) - (i : Nat)) 1 ∧ Fr h₀ env.locals h' m' ∧ News h₀ env.locals h' nx ∧ (∀ p ∈ nx, p.1 ≠ I) ∧ J i m' nx ∧ i ≤ n ∧ m = n + 1 - i := by
      rintro ⟨h₄, tk₄, m₄, news₄, nx₄, rfl, F₄, N₄, hsub, hown, hJ₄⟩
      have eI := (N₄ _ (hown _ (.head _))).1
      refine ⟨n + 1 - (i + 1), by omega, h₄, tk₄, m₄, nx₄, i + 1, rfl, hT3, eI, F₄, fun p hp => N₄ p (hsub p hp), fun p hp e => ?_, hJ₄, hlt, rfl⟩
      have e2 := (N₄ p (hsub p hp)).1
      rw [e, eI] at e2
      exact hJc _ _ _ hJ₄ p hp _ (by rw [← Option.some.inj e2]) (by rw [← Option.some.inj e2])
    cases f with
    | ret v => exact h₃
    | brk => exact h₃
    | cont => exact fin h₃
    | next => exact fin h₃
  · have hin : i = n := by omega
    subst hin
    refine W.done _ _ _ hst' fun h₁ tk₁ hk₁ => wpAny_execs_nil ?_
    exact done m' nx h₁ tk₁ hJ (LCg.fr_but F' hk₁ hIL hI0) (LCg.news_but N' hk₁ hnx)
end
/-! C21 -/
section
open PySem.Spec PySem.Calls
variable {prog : Program} {w : World} {A : Around} {E : Value → Shared → Prop} {s : Shared} {h₀ : Heap} {L : Addr} {m : Str → Option Value} {env : Env}
/-- a list comprehension over the ints of a bytes value; each item's token lies between a bound and the state's -/
theorem ListComp_B {elt iter : Expr} {x : Str} {px : Pos} {scope : Scope} {cl : List (Str × Addr)} {pos : Pos} {Q : Value → Shared → Prop} (T0 : Nat) (g : Int → Int) (F₀ : Fr h₀ L s.heap m)
    (hclos : closureFor scope env = pure cl) (hcell : ∀ y ∈ scope.names, y.2 ≠ .cell) (hkind : scope.kind = .function)
    (hnames : ∀ y ∈ scope.names, y.2 = .local → scope.names.lookup y.1 = some .local) (hx : scope.names.lookup x = some .local) (hh : A.handled = none)
    (h : wpAny (model prog w) A (eval iter env) (fun xv s₁ => Held (∃ b tb ks news, xv = .bytes b tb ∧ KBw.bInts b = ks ∧ ks.length ≤ sizeLine ∧ Fr h₀ L s₁.heap m ∧ News h₀ L s₁.heap news ∧ T0 ≤ s₁.toks ∧
      (∀ k t I oI C oC D m₂ ys h tk (E' : Value → Shared → Prop), k ∈ ks → T0 ≤ t → t < tk → LCg.NsObj oC m₂ → m₂ x = some (.int k t) → Fr h₀ L h m → News h₀ L h ((I, oI) :: (C, oC) :: (D, LCg.lst ys) :: news) → LCg.Off3 I C D news → ((@Ne Nat I C) ∧ (@Ne Nat I D) ∧ (@Ne Nat C D)) →
        wpAny (model prog w) A (eval elt (compEnvC scope cl C env)) (LCg.CompEnd h₀ L m { s₁ with heap := h, toks := tk } I oI C oC D (LCg.lst ys) (fun _ => True) (fun y news' => KCfEl news (g k) y news')) E' { s₁ with heap := h, toks := tk }) ∧
      (∀ ys D h tk, IntsAre ys (ks.map g) → Fr h₀ L h m → News h₀ L h ((D, LCg.lst ys) :: news) → LCg.Off1 D news → Q (.ref D) { s₁ with heap := h, toks := tk }))) E s)
    (hs : ∀ x, foldedSetIterable iter env x = pure x := by intro _; rfl) :
    wpAny (model prog w) A (eval (.ListComp elt [⟨.Name x px, iter, [], 0⟩] scope pos) env) Q E s := by
  rw [eval_ListComp]
  refine wpAny_comprehension_free (use := none) rfl hs hclos hkind hnames (wpAny_mono h (fun xv s₁ h₁ => ?_) fun _ _ e => e)
  obtain ⟨b, tb, ks, news, rfl, hks, hsz, F, N, hT, turn, fin⟩ := h₁
  subst hks
  have hn : (KBw.bInts b).length = b.size := KBw.ints_length b
  rw [hn] at hsz
  refine KBw.pyIter_bytes ?_
  have up : ∀ c o, s₁.heap.get? c = some o → (s₁.heap.push { cls := .type "bytes_iterator", data := .fields #[.bytes b tb, .int 0 0] }).get? c = some o := fun c o e => Heap.get?_push_of_some _ e
  have hIL : L ≠ s₁.heap.objs.size := Nat.ne_of_lt F.ns.lt
  have hI₀ : h₀.get? s₁.heap.objs.size = none := next_is_new F
  have offI : ∀ p ∈ news, p.1 ≠ s₁.heap.objs.size := fun p hp => Nat.ne_of_lt (Heap.lt_size (N p hp).1)
  have hst0 : KBw.IsBytesIter (s₁.heap.push { cls := .type "bytes_iterator", data := .fields #[.bytes b tb, .int 0 0] }) s₁.heap.objs.size b tb 0 := ⟨_, Heap.get?_push_size _ rfl, rfl, rfl⟩
  have Fp : Fr h₀ L (s₁.heap.push { cls := .type "bytes_iterator", data := .fields #[.bytes b tb, .int 0 0] }) m := F.keeps up
  have Np : News h₀ L (s₁.heap.push { cls := .type "bytes_iterator", data := .fields #[.bytes b tb, .int 0 0] }) news := N.grown up
  have hIsz : s₁.heap.objs.size < (s₁.heap.push { cls := .type "bytes_iterator", data := .fields #[.bytes b tb, .int 0 0] }).objs.size := by rw [Heap.size_push]; exact Nat.lt_succ_self _
  generalize s₁.heap.push { cls := .type "bytes_iterator", data := .fields #[.bytes b tb, .int 0 0] } = H1 at *
  generalize s₁.heap.objs.size = I at *
  refine wpAny_newObj_type (wpAny_newFunctionEnv hcell (by intro y hy; simp at hy) (fun h₁ hns₁ hsb₁ => ?_) hkind)
  dsimp only at hns₁ hsb₁ ⊢
  generalize hH2 : H1.push { cls := .type "list", dict := none, data := .seq ([] : List Value).toArray } = H2 at hns₁ hsb₁ ⊢
  have hC : H2.objs.size = H1.objs.size + 1 := by rw [← hH2, Heap.size_push]
  have hDC : H1.objs.size ≠ H2.objs.size := by rw [hC]; exact Nat.ne_of_lt (Nat.lt_succ_self _)
  have below : ∀ c, c < H1.objs.size → c ≠ H2.objs.size ∧ c ≠ H1.objs.size := fun c hb => ⟨by rw [hC]; exact Nat.ne_of_lt (Nat.lt_succ_of_lt hb), Nat.ne_of_lt hb⟩
  have old : ∀ c o, H1.get? c = some o → h₁.get? c = some o := fun c o e => hsb₁.extBut c o (below c (Heap.lt_size e)).1 (Heap.get?_push_of_some _ (hH2 ▸ Heap.get?_push_of_some _ e))
  have hacc : h₁.get? H1.objs.size = some (LCg.lst []) := hsb₁.extBut _ _ hDC (Heap.get?_push_of_some _ (hH2 ▸ Heap.get?_push_size _ rfl))
  have keepIt : ∀ {h h' : Heap} {i : Nat}, KBw.IsBytesIter h I b tb i → (∀ o, h.get? I = some o → h'.get? I = some o) → KBw.IsBytesIter h' I b tb i := by
    rintro h h' i ⟨o, e, r⟩ k
    exact ⟨o, k o e, r⟩
  have hst₁ : KBw.IsBytesIter h₁ I b tb 0 := keepIt hst0 fun o e => old _ o e
  have fresh : ∀ a, H1.objs.size ≤ a → H1.get? a = none := fun a ha => by
    cases e : H1.get? a with
    | none => rfl
    | some o' => exact absurd (Heap.lt_size e) (Nat.not_lt.mpr ha)
  have fresh₀ : ∀ a, H1.objs.size ≤ a → h₀.get? a = none := fun a ha => by
    cases e : h₀.get? a with
    | none => rfl
    | some o' => have := Fp.keep a o' e; rw [fresh a ha] at this; cases this
  have hD₀ : h₀.get? H1.objs.size = none := fresh₀ _ (Nat.le_refl _)
  have hC₀ : h₀.get? H2.objs.size = none := fresh₀ _ (by rw [hC]; exact Nat.le_succ _)
  have hLlt : L < H1.objs.size := Fp.ns.lt
  have hDL : H1.objs.size ≠ L := Ne.symm (below L hLlt).2
  have hCL : H2.objs.size ≠ L := Ne.symm (below L hLlt).1
  have hCI : I ≠ H2.objs.size := (below I hIsz).1
  have hDI : I ≠ H1.objs.size := (below I hIsz).2
  have off₀ : LCg.Off3 I H2.objs.size H1.objs.size news := LCg.Off3.of fun p hp => ⟨offI p hp, (below _ (Heap.lt_size (Np p hp).1)).1, (below _ (Heap.lt_size (Np p hp).1)).2⟩
  have off3 := off₀.mem
  have loop : ∀ s₃ : Shared, s₃ = { s₁ with heap := h₁, toks := s₁.toks + ([] : List (Str × Value)).length } →
      codeAny (model prog w) A (.compLoop (.ListComp elt [⟨.Name x px, iter, [], 0⟩] scope pos) 0 (.ref I) (.ref H1.objs.size) (compEnvC scope cl H2.objs.size env)) (compPost (model prog w) A E none Q (.ref H1.objs.size) H2.objs.size) s₃ := by
    rintro s₃ rfl
    refine codeAny_compLoop_tests
      (fun k s' => ∃ h' tk i ys m', s' = { s₁ with heap := h', toks := tk } ∧ i ≤ b.size ∧ k = b.size + 1 - i ∧ ys.length = i ∧ T0 ≤ tk ∧ KBw.IsBytesIter h' I b tb i ∧ Fr h₀ L h' m ∧ h'.Ns H2.objs.size m' ∧ News h₀ L h' ((H1.objs.size, LCg.lst ys) :: news) ∧
        IntsAre ys (((KBw.bInts b).take i).map g)) ?_ (b.size + 1)
      ⟨h₁, _, 0, [], _, rfl, Nat.zero_le _, rfl, rfl, Nat.le_trans hT (Nat.le_add_right _ _), hst₁, Fp.keeps old, hns₁, fun p hp => ?_, by simp only [List.take_zero, List.map_nil]; exact .nil⟩
    · rintro k s' ⟨h', tk, i, ys, m', rfl, hi, rfl, hyl, hTk, hst', F', hn', N', hys⟩
      by_cases hlt : i < b.size
      · refine KBw.next_item hst' (c := b[i]) (by simp [hlt]) fun h₂ hst₂ hs₂ => ?_
        have hk₂ : ∀ c o, c ∉ [I] → h'.get? c = some o → h₂.get? c = some o := fun c o hc e => hs₂.extBut c o (by simpa using hc) e
        refine wpAny_assign_Name (wpAny_storeName_local (lookup_relabel_local hx) (hn'.at' fun o e => hk₂ _ o (by simpa using Ne.symm hCI) e) (fun h₃ hn₃ hs₃ => ?_) (by simp [compEnvC, relabel, hkind]))
        refine wpAny_tests_nil ?_
        simp only [if_true]
        have hst₃ : KBw.IsBytesIter h₃ I b tb (i + 1) := keepIt hst₂ fun o e => hs₃.extBut _ o hCI e
        obtain ⟨oI, heI, hIr⟩ := id hst₃
        obtain ⟨oC, heC, hoC⟩ := LCg.ns_obj hn₃
        have F₃ : Fr h₀ L h₃ m := (LCg.fr_but F' hk₂ hIL hI₀).change hs₃ hCL hC₀
        have N₂ : News h₀ L h₂ ((H1.objs.size, LCg.lst ys) :: news) := LCg.news_but N' hk₂ fun p hp => by
          rcases List.mem_cons.mp hp with rfl | hp
          · exact Ne.symm hDI
          · exact (off3 p hp).1
        have N₃ : News h₀ L h₃ ((I, oI) :: (H2.objs.size, oC) :: (H1.objs.size, LCg.lst ys) :: news) := fun p hp => by
          rcases List.mem_cons.mp hp with rfl | hp
          · exact ⟨heI, Ne.symm hIL, hI₀⟩
          · rcases List.mem_cons.mp hp with rfl | hp
            · exact ⟨heC, hCL, hC₀⟩
            · have z := N₂ p hp
              refine ⟨hs₃.extBut _ _ ?_ z.1, z.2⟩
              rcases List.mem_cons.mp hp with rfl | hp
              · exact hDC
              · exact (off3 p hp).2.1
        have hget := KBw.ints_get (b := b) (i := i) (c := b[i]) (by simp [hlt])
        refine wpAny_with_toks (n := T0) (by show T0 ≤ tk + 1 + 1; omega) (wpAny_mono (turn (b[i].toNat : Int) tk I oI H2.objs.size oC H1.objs.size _ ys h₃ (tk + 1 + 1) _ (List.mem_of_getElem? hget) hTk (by omega) hoC (by simp) F₃ N₃ off₀ ⟨hCI, hDI, Ne.symm hDC⟩) (fun y s₄ h₄ hT4 => ?_) fun _ _ e _ => e)
        obtain ⟨h₄, tk₄, news₄, rfl, F₄, N₄, off₄, -, rfl, t4, rfl⟩ := h₄
        have zI := (N₄ (I, oI) List.mem_cons_self).1
        have zC := (N₄ (H2.objs.size, oC) (List.mem_cons_of_mem _ List.mem_cons_self)).1
        have zD := (N₄ (H1.objs.size, LCg.lst ys) (List.mem_cons_of_mem _ (List.mem_cons_of_mem _ List.mem_cons_self))).1
        have N₄' : News h₀ L h₄ news₄ := fun p hp => N₄ p (List.mem_cons_of_mem _ (List.mem_cons_of_mem _ (List.mem_cons_of_mem _ hp)))
        refine append_at (hsz := by show ys.toArray.size ≤ sizeLine; rw [List.size_toArray, hyl]; exact Nat.le_trans hi hsz) zD fun h₅ hs₅ hD₅ => ?_
        refine ⟨b.size + 1 - (i + 1), by omega, h₅, tk₄, i + 1, ys ++ [.int (g (b[i].toNat : Int)) t4], _, rfl, hlt, rfl, by rw [List.length_append, List.length_singleton, hyl], hT4, ⟨oI, hs₅.extBut _ _ hDI zI, hIr⟩, F₄.change hs₅ hDL hD₀,
          (hoC.ns zC).sameBut hs₅ (Ne.symm hDC), fun p hp => ?_, ?_⟩
        · rcases List.mem_cons.mp hp with rfl | hp
          · exact ⟨hD₅.trans (congrArg some (LCg.lst_snoc ys _)), hDL, hD₀⟩
          · exact ⟨hs₅.extBut _ _ (off3 p hp).2.2 (N₄' p hp).1, (N₄' p hp).2⟩
        · rw [List.take_add_one, hget]
          simpa using IntsAre.append hys (.cons (g (b[i].toNat : Int)) t4 .nil)
      · obtain rfl : i = b.size := Nat.le_antisymm hi (Nat.not_lt.mp hlt)
        refine KBw.next_end hh hst' (by simp) fun h₂ hs₂ => ?_
        have hk₂ : ∀ c o, c ∉ [I] → h'.get? c = some o → h₂.get? c = some o := fun c o hc e => hs₂ c o (by simpa using hc) e
        have F₂ := LCg.fr_but F' hk₂ hIL hI₀
        have N₂ : News h₀ L h₂ ((H1.objs.size, LCg.lst ys) :: news) := LCg.news_but N' hk₂ fun p hp => by
          rcases List.mem_cons.mp hp with rfl | hp
          · exact Ne.symm hDI
          · exact (off3 p hp).1
        rw [← hn, List.take_length] at hys
        refine ⟨m', hn'.at' fun o e => hk₂ _ o (by simpa using Ne.symm hCI) e, fun h'' hs'' => ?_⟩
        refine fin ys H1.objs.size h'' tk hys (F₂.change hs'' hCL hC₀) (fun p hp => ?_) off₀.one
        refine ⟨hs''.extBut _ _ ?_ (N₂ p hp).1, (N₂ p hp).2⟩
        rcases List.mem_cons.mp hp with rfl | hp
        · exact hDC
        · exact (off3 p hp).2.1
    · rcases List.mem_cons.mp hp with rfl | hp
      · exact ⟨hacc, hDL, hD₀⟩
      · exact ⟨old _ _ (Np p hp).1, (Np p hp).2⟩
  exact codeAny_compStart_list (loop _ rfl) (KBw.pyIter_self hst₁ (loop _ rfl))
end
/-! C17 -/
noncomputable def winAt (wins : List Int) (j : Int) : Int := wins.getD j.toNat 0
noncomputable def placesAt (wins : List Int) (late : Int) : List Int := (rangeKs 0 32).map fun k => winAt wins (Int.fmod (6 * k + late) 64)
noncomputable def signsAcc (wins : List Int) (i : Nat) : List Int := ((List.range i).map fun (j : Nat) => placesAt wins (j : Int)).flatten
theorem signsAcc_succ (wins : List Int) (i : Nat) : signsAcc wins (i + 1) = signsAcc wins i ++ placesAt wins (i : Int) := by
  unfold signsAcc
  rw [List.range_succ]
  simp
theorem map3 {a b c : Str} {m m0 : Str → Option Value} (hm : ∀ z, z ≠ a → z ≠ b → z ≠ c → m z = m0 z) : m = fun y => if y = a then m a else if y = b then m b else if y = c then m c else m0 y := by
  funext y
  by_cases h1 : y = a
  · subst h1; rw [if_pos rfl]
  · rw [if_neg h1]
    by_cases h2 : y = b
    · subst h2; rw [if_pos rfl]
    · rw [if_neg h2]
      by_cases h3 : y = c
      · subst h3; rw [if_pos rfl]
      · rw [if_neg h3]; exact hm y h1 h2 h3
noncomputable def Loop1 (wins : List Int) (S D : Addr) (L : Nat) (oD o7 o6 o5 o2 o1 : Obj) (p1 p2 : Array Value) (m0 : Str → Option Value) (i : Nat) (m₁ : Str → Option Value) (nx : List (Addr × Obj)) : Prop :=
  ∃ us cS o4 o3 v4 v3, nx = [(S, listOf (List.toArray us) cS), (D, oD), (L + 1 + 1 + 1 + 1 + 1 + 1 + 1, o7), (L + 1 + 1 + 1 + 1 + 1 + 1, o6), (L + 1 + 1 + 1 + 1 + 1, o5), (L + 1 + 1 + 1 + 1, o4), (L + 1 + 1 + 1, o3), (L + 1 + 1, o2), (L + 1, o1), (150, tabObj p1), (183, tabObj p2)] ∧
    IntsAre us (signsAcc wins i) ∧ o4.data = Data.cell v4 ∧ o3.data = Data.cell v3 ∧ ∀ z, z ≠ (Str.ofString "octets") → z ≠ (Str.ofString "places") → z ≠ (Str.ofString "read") → m₁ z = m0 z
theorem oct_range {T : Int} : ∀ k ∈ (rangeKs 0 8).map (octetF T), 0 ≤ k ∧ k < 256 := by
  intro v hv
  obtain ⟨k, _, rfl⟩ := List.mem_map.mp hv
  exact ⟨fmod_lo' (by decide), fmod_hi' (by decide)⟩
theorem app3_range {ks : List Int} (h : ∀ k ∈ ks, 0 ≤ k ∧ k < 256) : ∀ k ∈ ks ++ ks ++ ks, 0 ≤ k ∧ k < 256 := by
  intro k hk
  rcases List.mem_append.mp hk with hk | hk
  · rcases List.mem_append.mp hk with hk | hk
    · exact h k hk
    · exact h k hk
  · exact h k hk
/-! C18 -/
theorem bInts_inj {a b : Array UInt8} (h : KBw.bInts a = KBw.bInts b) : a = b := by
  have key : ∀ x y : List UInt8, x.map (fun c => (c.toNat : Int)) = y.map (fun c => (c.toNat : Int)) → x = y := by
    intro x
    induction x with
    | nil => intro y h; cases y with
      | nil => rfl
      | cons => simp at h
    | cons c r ih => intro y h; cases y with
      | nil => simp at h
      | cons d q =>
        simp only [List.map_cons, List.cons.injEq] at h
        have e1 : c.toNat = d.toNat := by omega
        rw [UInt8.toNat_inj.mp e1, ih q h.2]
  have e := key a.toList b.toList h
  rw [← Array.toArray_toList (xs := a), e, Array.toArray_toList]
theorem bytes_mul3 {prog : Program} {w : World} {A : Around} {E : Value → Shared → Prop} {s : Shared} {b : Array UInt8} {ks : List Int} {t u : Tok} {Q : Value → Shared → Prop} (hb : KBw.bInts b = ks) (hl : ks.length = 8)
    (h : ∀ c t' k, KBw.bInts c = ks ++ ks ++ ks → Q (.bytes c t') { s with toks := k }) : wpAny (model prog w) A (binaryOp .Mult (.bytes b t) (.int 3 u)) Q E s := by
  have hn : b.toList.length = 8 := by
    have := KBw.ints_length b
    rw [hb, hl] at this
    simpa using this.symm
  rw [← Array.toArray_toList (xs := b)]
  refine bytes_mul_K (d := b.toList ++ b.toList ++ b.toList) (by intro e; rw [e] at hn; cases hn) (by decide) (by decide) (by rw [hn]; decide) ?_ fun t' k => h _ t' k ?_
  · show (List.replicate 3 b.toList).flatten = _
    simp [List.replicate_succ]
  · rw [← hb]
    unfold KBw.bInts
    simp
theorem ne_bytes_self {prog : Program} {w : World} {A : Around} {E : Value → Shared → Prop} {s : Shared} {b : Array UInt8} {t u : Tok} {Q : Value → Shared → Prop} (h : Q (.bool false) s) : wpAny (model prog w) A (compareOp .NotEq (.bytes b t) (.bytes b u)) Q E s :=
  ne_bytes (by rw [show (b.toList != b.toList) = false by simp]; exact h)
theorem ltl {n : Nat} (h : n ≤ 1000) : Builtin.List.listTooLong n = false := by
  unfold Builtin.List.listTooLong
  rw [sizeLine_eq]
  simp only [decide_eq_false_iff_not]
  omega
theorem acc_len {wins : List Int} : ∀ {i : Nat}, (signsAcc wins i).length = 32 * i
  | 0 => rfl
  | i + 1 => by
    rw [signsAcc_succ, List.length_append, acc_len]
    unfold placesAt
    rw [List.length_map, rangeKs_length]
    omega
theorem loop1_end {G h' : Heap} {S D : Addr} {L : Nat} {L0 : Addr} {oD o7 o6 o5 o4 o3 o2 o1 : Obj} {v4 v3 : Option Value} {m' m0 : Str → Option Value} {own N9 : List (Addr × Obj)} {adr : List Addr} {s₁ : Shared} {tk : Nat} {wins pl : List Int} {i cS : Nat} {us up : List Value} {p1 p2 : Array Value}
    (hus : IntsAre us (signsAcc wins i)) (hup : IntsAre up pl) (hpl : pl = placesAt wins (i : Int)) (d4 : o4.data = Data.cell v4) (d3 : o3.data = Data.cell v3)
    (F : Fr G L0 h' m') (N : News G L0 h' N9)
    (hs : ∀ p ∈ [(S, listOf (us ++ up).toArray cS), (D, oD), (L + 1 + 1 + 1 + 1 + 1 + 1 + 1, o7), (L + 1 + 1 + 1 + 1 + 1 + 1, o6), (L + 1 + 1 + 1 + 1 + 1, o5), (L + 1 + 1 + 1 + 1, o4), (L + 1 + 1 + 1, o3), (L + 1 + 1, o2), (L + 1, o1), (150, tabObj p1), (183, tabObj p2)], p ∈ N9) (ho : ∀ p ∈ own, p ∈ N9)
    (hm : ∀ z, z ≠ (Str.ofString "octets") → z ≠ (Str.ofString "places") → z ≠ (Str.ofString "read") → m' z = m0 z)
    (hA : [S, D, L + 1 + 1 + 1 + 1 + 1 + 1 + 1, L + 1 + 1 + 1 + 1 + 1 + 1, L + 1 + 1 + 1 + 1 + 1, L + 1 + 1 + 1 + 1, L + 1 + 1 + 1, L + 1 + 1, L + 1, 150, 183] = adr) :
    InvEndN G L0 (Loop1 wins S D L oD o7 o6 o5 o2 o1 p1 p2 m0 (i + 1)) own adr s₁ { s₁ with heap := h', toks := tk } := by
  subst hpl
  exact InvEndN.intro F N ⟨us ++ up, cS, o4, o3, v4, v3, rfl, by rw [signsAcc_succ]; exact hus.append hup, d4, d3, hm⟩ hA hs ho
/-! C22 -/
noncomputable def foursAt (wins : List Int) (late : Int) : List Int := (rangeKs 0 16).map fun k => Int.fdiv (winAt wins (Int.fmod (4 * k + late) 64)) 4
/-- flags: while one stands in the context the walk holds at that step -/
noncomputable def FlagR : Prop := True
noncomputable def FlagA : Prop := True
noncomputable def FlagU : Prop := True
theorem holdU {P : Prop} (_ : FlagU) (h : Held P) : P := h
noncomputable def FlagC : Prop := True
theorem holdC {P : Prop} (_ : FlagC) (h : Held P) : P := h
noncomputable def FlagD : Prop := True
theorem holdD {P : Prop} (_ : FlagD) (h : Held P) : P := h
noncomputable def FlagL : Prop := True
theorem holdL {P : Prop} (_ : FlagL) (h : Held P) : P := h
noncomputable def FlagE : Prop := True
theorem holdE {P : Prop} (_ : FlagE) (h : Held P) : P := h
theorem toks_gen {M : Model} {A : Around} {α : Type} {t : Sem α} {Q : α → Shared → Prop} {E : Value → Shared → Prop} {h : Heap} {g d o} {k : Nat} (h1 : 1 ≤ k) (H : ∀ tk, 1 ≤ tk → wpAny M A t Q E (Shared.mk h g d tk o)) : wpAny M A t Q E (Shared.mk h g d k o) := H k h1
theorem holdR {P : Prop} (_ : FlagR) (h : Held P) : P := h
theorem holdA {P : Prop} (_ : FlagA) (h : Held P) : P := h
noncomputable def S16 : List Int := [48, 49, 50, 51, 52, 53, 54, 55, 56, 57, 65, 66, 67, 68, 69, 70]
noncomputable def totAt (wins : List Int) : Nat → List Int
  | 0 => List.replicate 16 0
  | i + 1 => (rangeKs 0 16).map fun k => (totAt wins i).getD k.toNat 0 + (tallyF (foursAt wins (i : Int))).getD k.toNat 0
noncomputable def Loop2 (wins : List Int) (D : Addr) (L : Nat) (ys : List Value) (o5 o2 o1 : Obj) (p1 p2 : Array Value) (m0 : Str → Option Value) (i : Nat) (m₁ : Str → Option Value) (nx : List (Addr × Obj)) : Prop :=
  ∃ T ut cT o7 o6 o4 o3 v7 v4 v3, nx = [(T, listOf ut.toArray cT), (D, listOf ys.toArray ys.length), (L + 1 + 1 + 1 + 1 + 1 + 1 + 1, o7), (L + 1 + 1 + 1 + 1 + 1 + 1, o6), (L + 1 + 1 + 1 + 1 + 1, o5), (L + 1 + 1 + 1 + 1, o4), (L + 1 + 1 + 1, o3), (L + 1 + 1, o2), (L + 1, o1), (150, tabObj p1), (183, tabObj p2)] ∧
    ((@Ne Nat D T) ∧ (@Ne Nat (L + 1 + 1 + 1 + 1 + 1 + 1 + 1) T) ∧ (@Ne Nat (L + 1 + 1 + 1 + 1 + 1 + 1) T) ∧ (@Ne Nat (L + 1 + 1 + 1 + 1 + 1) T) ∧ (@Ne Nat (L + 1 + 1 + 1 + 1) T) ∧ (@Ne Nat (L + 1 + 1 + 1) T) ∧ (@Ne Nat (L + 1 + 1) T) ∧ (@Ne Nat (L + 1) T)) ∧ IntsAre ut (totAt wins i) ∧ o7.data = Data.cell v7 ∧ o6.data = Data.cell (some (Value.ref T)) ∧ o4.data = Data.cell v4 ∧ o3.data = Data.cell v3 ∧ ∀ z, z ≠ (Str.ofString "fours") → m₁ z = m0 z
theorem loop2_nf {wins : List Int} {D : Addr} {L : Nat} {ys : List Value} {o5 o2 o1 : Obj} {p1 p2 : Array Value} {m0 : Str → Option Value} {v5 v2 v1 : Option Value} (h5 : o5.data = Data.cell v5) (h2 : o2.data = Data.cell v2) (h1 : o1.data = Data.cell v1) (i : Nat) (m₁ : Str → Option Value) (nx : List (Addr × Obj))
    (h : Loop2 wins D L ys o5 o2 o1 p1 p2 m0 i m₁ nx) : ∀ p ∈ nx, ∀ fs, p.2.data = .fields fs → p.2.cls ≠ .type "range_iterator" := by
  obtain ⟨T, ut, cT, o7, o6, o4, o3, v7, v4, v3, rfl, -, -, d7, d6, d4, d3, -⟩ := h
  intro p hp fs e
  simp only [List.mem_cons, List.not_mem_nil, or_false] at hp
  rcases hp with rfl | rfl | rfl | rfl | rfl | rfl | rfl | rfl | rfl | rfl | rfl
  · cases e
  · cases e
  · rw [d7] at e; cases e
  · rw [d6] at e; cases e
  · rw [h5] at e; cases e
  · rw [d4] at e; cases e
  · rw [d3] at e; cases e
  · rw [h2] at e; cases e
  · rw [h1] at e; cases e
  · intro h; cases h
  · intro h; cases h
theorem totAt_len (wins : List Int) : ∀ i, (totAt wins i).length = 16
  | 0 => rfl
  | i + 1 => by
    show ((rangeKs 0 16).map _).length = 16
    rw [List.length_map, rangeKs_length]
theorem loop2_end {G h' : Heap} {D T : Addr} {L : Nat} {L0 : Addr} {ys : List Value} {o7 o6 o5 o4 o3 o2 o1 : Obj} {v7 v4 v3 : Option Value} {m' m0 : Str → Option Value} {own N9 : List (Addr × Obj)} {s₁ : Shared} {tk : Nat} {wins tot : List Int} {i cT : Nat} {ut : List Value} {p1 p2 : Array Value}
    (hut : IntsAre ut tot) (htot : tot = totAt wins (i + 1)) (d7 : o7.data = Data.cell v7) (d6 : o6.data = Data.cell (some (Value.ref T))) (d4 : o4.data = Data.cell v4) (d3 : o3.data = Data.cell v3)
    (hT : ((@Ne Nat D T) ∧ (@Ne Nat (L + 1 + 1 + 1 + 1 + 1 + 1 + 1) T) ∧ (@Ne Nat (L + 1 + 1 + 1 + 1 + 1 + 1) T) ∧ (@Ne Nat (L + 1 + 1 + 1 + 1 + 1) T) ∧ (@Ne Nat (L + 1 + 1 + 1 + 1) T) ∧ (@Ne Nat (L + 1 + 1 + 1) T) ∧ (@Ne Nat (L + 1 + 1) T) ∧ (@Ne Nat (L + 1) T)))
    (F : Fr G L0 h' m') (N : News G L0 h' N9)
    (hs : ∀ p ∈ [(T, listOf ut.toArray cT), (D, listOf ys.toArray ys.length), (L + 1 + 1 + 1 + 1 + 1 + 1 + 1, o7), (L + 1 + 1 + 1 + 1 + 1 + 1, o6), (L + 1 + 1 + 1 + 1 + 1, o5), (L + 1 + 1 + 1 + 1, o4), (L + 1 + 1 + 1, o3), (L + 1 + 1, o2), (L + 1, o1), (150, tabObj p1), (183, tabObj p2)], p ∈ N9) (ho : ∀ p ∈ own, p ∈ N9)
    (hm : ∀ z, z ≠ (Str.ofString "fours") → m' z = m0 z) :
    InvEnd2 G L0 (Loop2 wins D L ys o5 o2 o1 p1 p2 m0 (i + 1)) own s₁ { s₁ with heap := h', toks := tk } := by
  subst htot
  exact InvEnd2.intro F N _ hs ho ⟨T, ut, cT, o7, o6, o4, o3, v7, v4, v3, rfl, hT, hut, d7, d6, d4, d3, hm⟩
theorem map1 {a : Str} {m m0 : Str → Option Value} (hm : ∀ z, z ≠ a → m z = m0 z) : m = fun y => if y = a then m a else m0 y := by
  funext y
  by_cases h1 : y = a
  · subst h1; rw [if_pos rfl]
  · rw [if_neg h1]; exact hm y h1
theorem fours_len {wins : List Int} {i : Int} : (foursAt wins i).length = 16 := by unfold foursAt; rw [List.length_map, rangeKs_length]

/-! C23 -/
section
open PySem.Spec PySem.Calls Builtin
variable {prog : Program} {w : World} {A : Around} {E : Value → Shared → Prop} {s : Shared}
theorem bytes_walks {I : Addr} (hh : A.handled = none) (b : Array UInt8) (tb : Tok) : Walks prog w A I [I] [I] b.size (fun i v => ∃ k t, (KBw.bInts b)[i]? = some k ∧ v = .int k t) (fun i h => KBw.IsBytesIter h I b tb i) where
  sub := fun _ h => h
  frame := fun i h h' st hk => by
    obtain ⟨o, e, r⟩ := st
    exact ⟨o, hk I (List.mem_singleton.mpr rfl) o e, r⟩
  item := fun i s Q E hi st hQ => by
    refine KBw.next_item st (c := b[i]) (by simp [hi]) fun h₁ hst₁ hs₁ => ?_
    exact hQ _ h₁ _ ⟨_, _, KBw.ints_get (b := b) (i := i) (c := b[i]) (by simp [hi]), rfl⟩ hst₁ (fun c o hc e => hs₁.extBut c o (by simpa using hc) e)
  done := fun s Q E st hQ => by
    refine KBw.next_end hh st (by simp) fun h₁ hs₁ => ?_
    exact hQ h₁ s.toks (fun c o hc e => hs₁ c o (by simpa using hc) e)
  self := fun i s Q E st hQ => KBw.pyIter_self st hQ
theorem call_list_bytes {Q : Value → Shared → Prop} (hh : A.handled = none) (b : Array UInt8) (t : Tok) (hn : b.size ≤ sizeLine)
    (hQ : ∀ h' tk acc' c', (∀ b o, s.heap.get? b = some o → h'.get? b = some o) →
      h'.get? s.heap.objs.size = some { cls := .type "list", dict := none, data := .seq acc' c', slots := #[] } → ItemsOf (fun i v => ∃ k t, (KBw.bInts b)[i]? = some k ∧ v = .int k t) acc' b.size → Q (.ref s.heap.objs.size) { s with heap := h', toks := tk }) :
    wpAny (model prog w) A (call (.type "list") [.bytes b t]) Q E s := by
  refine callType_codes (Q₁ := fun obj s₁ => obj = .ref s.heap.objs.size ∧ s₁ = { s with heap := s.heap.push { cls := .type "list", data := .seq #[] } }) F.called_list (F.typeCall_list_1 _) F.entry_list_init
    (code_list_new _ ⟨rfl, rfl⟩) fun obj s₁ h₁ => ?_
  obtain ⟨rfl, rfl⟩ := h₁
  have hS : (s.heap.push { cls := .type "list", data := .seq #[] }).get? s.heap.objs.size = some { cls := .type "list", data := .seq #[] } := Heap.get?_push_size _ rfl
  refine ⟨⟨_, hS, rfl⟩, F.args_list_init_2 _ _, ?_⟩
  have hpush : ∀ c o, s.heap.get? c = some o → (s.heap.push { cls := .type "list", data := .seq #[] }).get? c = some o := fun c o e => Heap.get?_push_of_some _ e
  have hSn : ∀ c o, s.heap.get? c = some o → c ≠ s.heap.objs.size := fun c o e => Nat.ne_of_lt (Heap.lt_size e)
  generalize s.heap.push { cls := .type "list", data := .seq #[] } = H at *
  generalize s.heap.objs.size = S at *
  show wpAny _ _ (do let old ← Builtin.List.listItems (.ref S); Builtin.List.listUpdate (.ref S) (fun _ => #[]); letGo old.toList.reverse; Builtin.List.listExtendWith (.ref S) (.bytes b t) .none) _ _ _
  refine wpAny_bind ?_
  unfold Builtin.List.listItems
  refine wpAny_bind (wpAny_seqItems hS rfl (wpAny_pure ?_))
  show wpAny _ _ (updateSeq S (fun _ => #[]) >>= fun _ => letGo (#[] : Array Value).toList.reverse >>= fun _ => Builtin.List.listExtendWith (.ref S) (.bytes b t) .none) _ _ _
  refine wpAny_bind (wpAny_updateSeq hS rfl ?_)
  have hS₂ := Heap.get?_update_self (Obj.mapSeq (fun _ => (#[] : Array Value))) hS rfl
  have oth : ∀ b o, b ≠ S → H.get? b = some o → (H.update S (Obj.mapSeq (fun _ => (#[] : Array Value)))).get? b = some o :=
    fun b o hb e => (Heap.get?_update_other _ _ (Ne.symm hb)).trans e
  refine wpAny_bind (wpAny_letGo ?_)
  have oth2 : ∀ c o, s.heap.get? c = some o → (H.update S (Obj.mapSeq (fun _ => (#[] : Array Value)))).get? c = some o := fun c o e => oth c o (hSn c o e) (hpush c o e)
  show wpAny _ _ _ _ _ { s with heap := H.update S (Obj.mapSeq (fun _ => (#[] : Array Value))) }
  generalize H.update S (Obj.mapSeq (fun _ => (#[] : Array Value))) = H2 at *
  have hSI : S ≠ H2.objs.size := Nat.ne_of_lt (Heap.lt_size hS₂)
  have hSf : S ∉ [H2.objs.size] := fun hm => hSI (List.mem_singleton.mp hm)
  unfold Builtin.List.listExtendWith
  refine wpAny_bind (wpAny_typeOf (T := "bytes") (v := .bytes b t) rfl ?_)
  have h1 : Builtin.List.listSameRef (.ref S) (.bytes b t) = false := rfl
  have h2 : (Value.type "bytes" == Value.type "list") = false := by decide
  have h3 : (Value.type "bytes" == Value.type "tuple") = false := by decide
  simp only [h1, h2, h3, Bool.or_false, Bool.false_eq_true, if_false]
  refine wpAny_bind (KBw.pyIter_bytes ?_)
  refine wpAny_bind (wpAny_holding ?_)
  unfold Builtin.List.listLengthHint
  refine wpAny_bind (wpAny_specialOf (T := "bytes") (v := .bytes b t) rfl FB.slot_bytes_len.lookup ?_)
  wp_delta
  refine wpAny_bind (wpAny_isInstance (T := "bytes") (v := .bytes b t) (b := true) rfl (by rw [isSubtype_type]; kernel_rfl) ?_)
  show wpAny _ _ (typeOf (Value.bytes b t) >>= _) _ _ _
  refine wpAny_bind (wpAny_typeOf (T := "bytes") (v := .bytes b t) rfl ?_)
  refine wpAny_pure ?_
  rw [if_neg (by decide)]
  refine wpAny_pure ⟨plainId_quiet F.plain_extend_loop _, codeAny_extend_loopS (bytes_walks (A := A.in1.in1) hh b t).toS hn _ hSf _ b.size 0 _ _ _ rfl (Nat.zero_le _) ⟨_, Heap.get?_push_size _ rfl, rfl, rfl⟩ (Heap.get?_push_of_some _ hS₂) (ItemsOf.nil _) fun s' acc' c' hm hS' hacc => ?_⟩
  rw [Moved.eq_with hm]
  refine ⟨rfl, hQ s'.heap s'.toks acc' c' (fun c o e => hm.heap c o (fun hmem => ?_) (Heap.get?_push_of_some _ (oth2 c o e))) hS' hacc⟩
  rcases List.mem_cons.mp hmem with e' | hmem
  · exact hSn c o e e'
  · exact absurd (Heap.lt_size (oth2 c o e)) (by rw [List.mem_singleton.mp hmem]; exact Nat.lt_irrefl _)
theorem list_bytes {b : Array UInt8} {t : Tok} {ks : List Int} {h₀ : Heap} {L : Addr} {m : Str → Option Value} {news : List (Addr × Obj)} {Q : Value → Shared → Prop} (hh : A.handled = none) (F : Fr h₀ L s.heap m) (N : News h₀ L s.heap news) (hb : KBw.bInts b = ks) (hn : ks.length ≤ 1000)
    (h : ∀ D us c h' tk, Fr h₀ L h' m → News h₀ L h' ((D, W.listOf (List.toArray us) c) :: news) → (∀ p ∈ news, p.1 < D) → IntsAre us ks → Q (.ref D) { s with heap := h', toks := tk }) :
    wpAny (model prog w) A (call (.type "list") [.bytes b t]) Q E s := by
  have hz : b.size = ks.length := by rw [← hb, KBw.ints_length]
  refine call_list_bytes hh b t (by rw [sizeLine_eq]; omega) fun h' tk acc c hk hD hI => ?_
  have hD' : h'.get? s.heap.objs.size = some (W.listOf (List.toArray acc.toList) c) := by
    rw [Array.toArray_toList]
    exact hD
  refine h _ acc.toList c h' tk (F.keeps hk) (news_pushed F N hk hD' rfl) (fun p hp => Heap.lt_size (N p hp).1) ?_
  have key : ∀ (l : List Value) (js : List Int), l.length = js.length → (∀ (i : Nat) (v : Value), l[i]? = some v → ∃ k t, js[i]? = some k ∧ v = Value.int k t) → IntsAre l js := by
    intro l
    induction l with
    | nil =>
      intro js hl _
      cases js with
      | nil => exact .nil
      | cons => simp at hl
    | cons v r ih =>
      intro js hl hv
      cases js with
      | nil => simp at hl
      | cons k q =>
        obtain ⟨k', t', e1, rfl⟩ := hv 0 v rfl
        simp only [List.getElem?_cons_zero, Option.some.injEq] at e1
        subst e1
        exact .cons _ _ (ih q (by simpa using hl) fun i v hi => hv (i + 1) v (by simpa using hi))
  refine key _ _ (by rw [Array.length_toList, hI.1, hz]) fun i v hi => ?_
  obtain ⟨k, t', e1, e2⟩ := hI.2 i v (by rw [← hi, Array.getElem?_toList])
  exact ⟨k, t', by rw [← hb]; exact e1, e2⟩
end
/-! C24 -/
theorem post_true (ns : List Int) : PySem.Challenge.rw_kq0047_01.row.claim.post [ofPy (PyData.list (List.map PyData.int ns))] (WData.bool true) [ofPy (PyData.list (List.map PyData.int ns))] = true := by
  wrow_post
/-! P1 -/
/-! the walk takes each way once -/
noncomputable def wedge (ex : List Int) (i : Nat) : Int := 2 * (walkF ex i).node + wbit ex (walkF ex i)
noncomputable def edgesF (ex : List Int) : Nat → List Int
  | 0 => []
  | i + 1 => edgesF ex i ++ [wedge ex i]
noncomputable def sumC (E : List Int) : Nat → Nat
  | 0 => 0
  | n + 1 => sumC E n + E.count (n : Int)
theorem sumC_cons (x : Int) (E : List Int) : ∀ n : Nat, sumC (x :: E) n = sumC E n + (if 0 ≤ x ∧ x < (n : Int) then 1 else 0)
  | 0 => by
    show 0 = 0 + _
    rw [if_neg (by omega)]
  | n + 1 => by
    show sumC (x :: E) n + (x :: E).count (n : Int) = sumC E n + E.count (n : Int) + _
    rw [sumC_cons x E n, List.count_cons]
    by_cases e : x = (n : Int)
    · subst e
      rw [if_neg (by omega), if_pos (by simp), if_pos (by omega)]
      omega
    · rw [if_neg (c := (x == (n : Int)) = true) (by simpa using e)]
      by_cases h : 0 ≤ x ∧ x < (n : Int)
      · rw [if_pos h, if_pos (by omega)]; omega
      · rw [if_neg h, if_neg (by omega)]; omega
theorem sumC_len {n : Nat} : ∀ {E : List Int}, (∀ e ∈ E, 0 ≤ e ∧ e < (n : Int)) → sumC E n = E.length
  | [], _ => by
    have : ∀ n, sumC [] n = 0 := by
      intro n
      induction n with
      | zero => rfl
      | succ n ih => show sumC [] n + 0 = 0; rw [ih]
    rw [this]; rfl
  | x :: E, h => by
    rw [sumC_cons, if_pos (h x (.head _)), sumC_len fun e he => h e (.tail _ he), List.length_cons]
theorem sumC_one {E : List Int} (h : ∀ e, E.count e ≤ 1) : ∀ n : Nat, sumC E n ≤ n ∧ (sumC E n = n → ∀ e : Nat, e < n → E.count (e : Int) = 1)
  | 0 => ⟨Nat.le_refl _, fun _ e he => by omega⟩
  | n + 1 => by
    obtain ⟨h1, h2⟩ := sumC_one h n
    have h3 := h (n : Int)
    refine ⟨by show sumC E n + E.count (n : Int) ≤ n + 1; omega, fun e k hk => ?_⟩
    have e : sumC E n + E.count (n : Int) = n + 1 := e
    by_cases hkn : k = n
    · subst hkn; omega
    · exact h2 (by omega) k (by omega)
theorem sumC_all {E : List Int} : ∀ n : Nat, (∀ e : Nat, e < n → E.count (e : Int) = 1) → sumC E n = n
  | 0, _ => rfl
  | n + 1, h => by
    show sumC E n + E.count (n : Int) = n + 1
    rw [sumC_all n fun e he => h e (by omega), h n (by omega)]
noncomputable def ind (p : Prop) [Decidable p] : Nat := if p then 1 else 0
structure WInv (ex : List Int) (E : List Int) (s : WSt) : Prop where
  lo : 0 ≤ s.node
  hi : s.node < 32
  len : s.seen.length = 32
  one : ∀ e, E.count e ≤ 1
  rng : ∀ e ∈ E, 0 ≤ e ∧ e < 64
  seen : ∀ v : Int, 0 ≤ v → v < 32 → s.seen.getD v.toNat 0 = (E.count (2 * v + (1 - ex.getD v.toNat 0)) : Int)
  ord : ∀ v : Int, 0 ≤ v → v < 32 → E.count (2 * v + ex.getD v.toNat 0) ≤ E.count (2 * v + (1 - ex.getD v.toNat 0))
  flow : ∀ v : Int, 0 ≤ v → v < 32 → E.count v + E.count (v + 32) + ind (v = 0) = E.count (2 * v) + E.count (2 * v + 1) + ind (v = s.node)
theorem WInv.stuck {ex E : List Int} {s : WSt} (hex : ExOk ex) (W : WInv ex E s) (hx : 1 ≤ E.count (2 * s.node + ex.getD s.node.toNat 0)) : ∀ e : Nat, e < 64 → E.count (e : Int) = 1 := by
  have both : ∀ v : Int, 0 ≤ v → v < 32 → 1 ≤ E.count (2 * v + ex.getD v.toNat 0) → E.count (2 * v) = 1 ∧ E.count (2 * v + 1) = 1 := by
    intro v a b c
    have o := W.ord v a b
    have o1 := W.one (2 * v)
    have o2 := W.one (2 * v + 1)
    rcases hex.b01 v.toNat with h | h
    · rw [h] at o c
      rw [Int.add_zero] at o c
      rw [show 2 * v + (1 - 0) = 2 * v + 1 by omega] at o
      omega
    · rw [h] at o c
      rw [show 2 * v + (1 - 1) = 2 * v by omega] at o
      omega
  have h0 : s.node = 0 := by
    have f := W.flow s.node W.lo W.hi
    obtain ⟨b1, b2⟩ := both s.node W.lo W.hi hx
    have o1 := W.one s.node
    have o2 := W.one (s.node + 32)
    unfold ind at f
    rw [b1, b2, if_pos rfl] at f
    by_cases e : s.node = 0
    · exact e
    · rw [if_neg e] at f; omega
  have key : ∀ k (v : Int), 0 ≤ v → v < 32 → far ex k v = 0 → 1 ≤ E.count (2 * v + ex.getD v.toNat 0) := by
    intro k
    induction k with
    | zero =>
      intro v a b e
      have e : v = 0 := e
      subst e
      have hx' := hx
      rw [h0] at hx'
      exact hx'
    | succ k ih =>
      intro v a b e
      rw [far_next] at e
      obtain ⟨n1, n2⟩ := nxt_in ex v
      obtain ⟨b1, b2⟩ := both _ n1 n2 (ih _ n1 n2 e)
      have f := W.flow _ n1 n2
      rw [b1, b2, h0] at f
      have o1 := W.one (nxt ex v)
      have o2 := W.one (nxt ex v + 32)
      have c : E.count (nxt ex v) = 1 ∧ E.count (nxt ex v + 32) = 1 := by omega
      have hb := hex.bit v.toNat
      have en : nxt ex v = (2 * v + ex.getD v.toNat 0) % 32 := by
        unfold nxt
        exact Int.fmod_eq_emod_of_nonneg _ (by decide)
      by_cases hlt : 2 * v + ex.getD v.toNat 0 < 32
      · have : nxt ex v = 2 * v + ex.getD v.toNat 0 := by omega
        rw [← this, c.1]; exact Nat.le_refl 1
      · have : nxt ex v + 32 = 2 * v + ex.getD v.toNat 0 := by omega
        rw [← this, c.2]; exact Nat.le_refl 1
  intro e he
  obtain ⟨k, hk⟩ := hex.tree ((e / 2 : Nat) : Int) (by omega) (by omega)
  obtain ⟨b1, b2⟩ := both _ (by omega) (by omega) (key k ((e / 2 : Nat) : Int) (by omega) (by omega) hk)
  by_cases hp : e % 2 = 0
  · rw [show (e : Int) = 2 * ((e / 2 : Nat) : Int) by omega]; exact b1
  · rw [show (e : Int) = 2 * ((e / 2 : Nat) : Int) + 1 by omega]; exact b2
theorem WInv.next {ex E : List Int} {s : WSt} (hex : ExOk ex) (W : WInv ex E s) (hl : E.length < 64) : WInv ex (E ++ [2 * s.node + wbit ex s]) (wstep ex s) := by
  obtain ⟨p, hp⟩ : ∃ p, p = s.node := ⟨_, rfl⟩
  have plo := W.lo
  have phi := W.hi
  have hx01 := hex.b01
  have hxp := hx01 p.toNat
  have nstuck : E.count (2 * s.node + ex.getD s.node.toNat 0) = 0 := by
    by_cases h : 1 ≤ E.count (2 * s.node + ex.getD s.node.toNat 0)
    · have a := W.stuck hex h
      have b := sumC_all 64 a
      rw [sumC_len W.rng] at b
      omega
    · omega
  have hsN := W.seen s.node plo phi
  have oN := W.one (2 * s.node + (1 - ex.getD s.node.toNat 0))
  -- the bit and the count of the edge
  have hb : (wbit ex s = ex.getD s.node.toNat 0 ∧ E.count (2 * s.node + (1 - ex.getD s.node.toNat 0)) = 1) ∨ (wbit ex s = 1 - ex.getD s.node.toNat 0 ∧ E.count (2 * s.node + (1 - ex.getD s.node.toNat 0)) = 0) := by
    unfold wbit
    by_cases h : s.seen.getD s.node.toNat 0 = 1
    · rw [if_pos h]
      exact .inl ⟨rfl, by omega⟩
    · rw [if_neg h]
      exact .inr ⟨rfl, by omega⟩
  rw [← hp] at plo phi nstuck hsN oN hb ⊢
  have en : (wstep ex s).node = (2 * p + wbit ex s) % 32 := by
    rw [hp]
    exact Int.fmod_eq_emod_of_nonneg _ (by decide)
  have eseen : (wstep ex s).seen = s.seen.set p.toNat 1 := by rw [hp]; rfl
  generalize wbit ex s = b at *
  have b01 : b = 0 ∨ b = 1 := by omega
  have hcnt : ∀ e, (E ++ [2 * p + b]).count e = E.count e + (if 2 * p + b = e then 1 else 0) := by
    intro e
    rw [List.count_append, List.count_singleton]
    by_cases h : 2 * p + b = e
    · subst h; simp
    · simp [h]
  have he0 : E.count (2 * p + b) = 0 := by
    rcases hb with ⟨e, _⟩ | ⟨e, h⟩
    · rw [e]; exact nstuck
    · rw [e]; exact h
  refine ⟨by rw [en]; omega, by rw [en]; omega, by rw [eseen, List.length_set]; exact W.len, ?_, ?_, ?_, ?_, ?_⟩
  · intro e
    rw [hcnt]
    by_cases h : 2 * p + b = e
    · subst h; rw [he0, if_pos rfl]; exact Nat.le_refl 1
    · rw [if_neg h]; exact W.one e
  · intro e h
    rcases List.mem_append.mp h with h | h
    · exact W.rng e h
    · rw [List.mem_singleton.mp h]; omega
  · intro v a c
    rw [hcnt, eseen, List.getD_eq_getElem?_getD, List.getElem?_set]
    by_cases hv : v = p
    · subst hv
      rw [if_pos rfl, if_pos (by rw [W.len]; omega)]
      simp only [Option.getD_some]
      rcases hb with ⟨e, h⟩ | ⟨e, h⟩
      · rw [h, if_neg (by omega)]; rfl
      · rw [h, e, if_pos rfl]; rfl
    · rw [if_neg (by omega), ← List.getD_eq_getElem?_getD, W.seen v a c]
      have := hx01 v.toNat
      rw [if_neg (by omega)]; rfl
  · intro v a c
    rw [hcnt, hcnt]
    have o := W.ord v a c
    have hv1 := hx01 v.toNat
    by_cases hv : v = p
    · subst hv
      rcases hb with ⟨e, h⟩ | ⟨e, h⟩
      · rw [nstuck, h]; split <;> omega
      · rw [nstuck, h, e, if_neg (by omega), if_pos rfl]; omega
    · rw [if_neg (by omega), if_neg (by omega)]; exact o
  · intro v a c
    rw [hcnt, hcnt, hcnt, hcnt, en]
    have f := W.flow v a c
    rw [← hp] at f
    unfold ind at f ⊢
    have i1 : (if 2 * p + b = v then 1 else 0) + (if 2 * p + b = v + 32 then 1 else 0) = (if v = (2 * p + b) % 32 then 1 else 0) := by
      repeat' split
      all_goals omega
    have i2 : (if 2 * p + b = 2 * v then 1 else 0) + (if 2 * p + b = 2 * v + 1 then 1 else 0) = (if v = p then 1 else 0) := by
      repeat' split
      all_goals omega
    omega
theorem edges_len (ex : List Int) : ∀ i, (edgesF ex i).length = i
  | 0 => rfl
  | i + 1 => by
    show (edgesF ex i ++ [_]).length = i + 1
    rw [List.length_append, edges_len ex i]; rfl
theorem walk_inv {ex : List Int} (hex : ExOk ex) : ∀ i, i ≤ 64 → WInv ex (edgesF ex i) (walkF ex i)
  | 0, _ => by
    refine ⟨Int.le_refl _, (by decide : (0 : Int) < 32), by simp [walkF], fun e => Nat.zero_le _, (fun e he => nomatch he), fun v a c => ?_, fun v a c => Nat.le_refl _, fun v a c => ?_⟩
    · show (List.replicate 32 (0 : Int)).getD v.toNat 0 = ((0 : Nat) : Int)
      rw [List.getD_eq_getElem?_getD, List.getElem?_replicate]
      split <;> rfl
    · show 0 + 0 + ind (v = 0) = 0 + 0 + ind (v = 0)
      rfl
  | i + 1, h => (walk_inv hex i (by omega)).next hex (by rw [edges_len]; omega)
theorem edges_all {ex : List Int} (hex : ExOk ex) : ∀ e : Nat, e < 64 → (edgesF ex 64).count (e : Int) = 1 := by
  have W := walk_inv hex 64 (Nat.le_refl _)
  refine (sumC_one W.one 64).2 ?_
  rw [sumC_len W.rng, edges_len]
theorem walk_home {ex : List Int} (h : ExOk ex) : (walkF ex 64).node = 0 := by
  have W := walk_inv h 64 (Nat.le_refl _)
  have f := W.flow 0 (by decide) (by decide)
  have a := edges_all h
  have a0 := a 0 (by decide)
  have a1 := a 1 (by decide)
  have a2 := a 32 (by decide)
  have f : (edgesF ex 64).count ((0 : Nat) : Int) + (edgesF ex 64).count ((32 : Nat) : Int) + 1 = (edgesF ex 64).count ((0 : Nat) : Int) + (edgesF ex 64).count ((1 : Nat) : Int) + ind (0 = (walkF ex 64).node) := f
  rw [a0, a1, a2] at f
  unfold ind at f
  by_cases e : 0 = (walkF ex 64).node
  · exact e.symm
  · rw [if_neg e] at f; omega
theorem edges_perm {ex : List Int} (h : ExOk ex) : (edgesF ex 64).Perm (rangeKs 0 64) := by
  have W := walk_inv h 64 (Nat.le_refl _)
  have a := edges_all h
  rw [List.perm_iff_count]
  intro e
  by_cases he : 0 ≤ e ∧ e < 64
  · obtain ⟨n, rfl⟩ := Int.eq_ofNat_of_zero_le he.1
    rw [a n (by omega)]
    have key : ∀ n : Fin 64, (rangeKs 0 64).count ((n.val : Nat) : Int) = 1 := by decide +kernel
    exact (key ⟨n, by omega⟩).symm
  · rw [List.count_eq_zero.mpr fun hm => he (W.rng e hm), List.count_eq_zero.mpr fun hm => he ?_]
    have := mem_rangeKs hm
    omega
/-! P2 -/
/-- bit p of the ring -/
noncomputable def bitR (ns : List Int) (p : Nat) : Int := ns.getD (p % 64) 0
/-- k bits of the ring from p -/
noncomputable def win (ns : List Int) (p k : Nat) : Int := windowN ns (p : Int) k
theorem win_succ (ns : List Int) (p k : Nat) : win ns p (k + 1) = win ns p k * 2 + bitR ns (p + k) := by
  show windowN ns (p : Int) k * 2 + ns.getD (Int.fmod ((p : Int) + (k : Int)) 64).toNat 0 = _
  unfold win bitR
  congr 2
  rw [Int.fmod_eq_emod_of_nonneg _ (by decide)]
  omega
theorem win_zero (ns : List Int) (p : Nat) : win ns p 0 = 0 := rfl
theorem win_add (ns : List Int) (p a : Nat) : ∀ b, win ns p (a + b) = win ns p a * 2 ^ b + win ns (p + a) b
  | 0 => by rw [Nat.add_zero, win_zero, Int.pow_zero]; omega
  | b + 1 => by
    rw [← Nat.add_assoc, win_succ, win_add ns p a b, win_succ, Int.pow_succ, Nat.add_assoc, Int.add_mul, Int.mul_assoc]
    omega
theorem bit_per (ns : List Int) (p : Nat) : bitR ns (p + 64) = bitR ns p := by unfold bitR; rw [Nat.add_mod_right]
theorem win_per (ns : List Int) (p : Nat) : ∀ k, win ns (p + 64) k = win ns p k
  | 0 => rfl
  | k + 1 => by rw [win_succ, win_succ, win_per ns p k, show p + 64 + k = p + k + 64 by omega, bit_per]
theorem win_mod (ns : List Int) (p k : Nat) : win ns (p % 64) k = win ns p k := by
  have key : ∀ q r, win ns (r + 64 * q) k = win ns r k := by
    intro q
    induction q with
    | zero => intro r; rfl
    | succ q ih => intro r; rw [show r + 64 * (q + 1) = r + 64 * q + 64 by omega, win_per, ih]
  have := key (p / 64) (p % 64)
  rw [Nat.mod_add_div] at this
  exact this.symm
section
variable {ns : List Int} (hb : ∀ b ∈ ns, b = 0 ∨ b = 1)
theorem bitR_in (hb : ∀ b ∈ ns, b = 0 ∨ b = 1) (p : Nat) : 0 ≤ bitR ns p ∧ bitR ns p ≤ 1 := bits_getD hb _
theorem win_in (hb : ∀ b ∈ ns, b = 0 ∨ b = 1) (p k : Nat) : 0 ≤ win ns p k ∧ win ns p k < 2 ^ k := windowN_bound (bits_getD hb) _ k
end
theorem walk_bits (ex : List Int) (j : Nat) : ∀ i, j < i → (walkF ex i).bits.getD j 0 = wbit ex (walkF ex j) ∧ (walkF ex i).bits.length = i := by
  have len : ∀ i, (walkF ex i).bits.length = i := by
    intro i
    induction i with
    | zero => rfl
    | succ i ih => show ((walkF ex i).bits ++ [_]).length = i + 1; rw [List.length_append, ih]; rfl
  intro i
  induction i with
  | zero => intro h; omega
  | succ i ih =>
    intro h
    refine ⟨?_, len _⟩
    show ((walkF ex i).bits ++ [wbit ex (walkF ex i)]).getD j 0 = _
    rw [List.getD_eq_getElem?_getD, List.getElem?_append, len]
    by_cases e : j < i
    · rw [if_pos e, ← List.getD_eq_getElem?_getD]; exact (ih e).1
    · obtain rfl : j = i := by omega
      rw [if_neg e, Nat.sub_self]; rfl
section
variable {ex ns : List Int} (hex : ExOk ex) (hn : ns = (walkF ex 64).bits)
theorem ring_bit (hn : ns = (walkF ex 64).bits) {t : Nat} (ht : t < 64) : bitR ns t = wbit ex (walkF ex t) := by
  unfold bitR
  rw [Nat.mod_eq_of_lt ht, hn]
  exact (walk_bits ex t 64 ht).1
theorem ring_01 (hex : ExOk ex) (hn : ns = (walkF ex 64).bits) : ∀ b ∈ ns, b = 0 ∨ b = 1 := by
  rw [hn]; exact (walk_ok hex.b01 64).b01
theorem node_next (hn : ns = (walkF ex 64).bits) {t : Nat} (ht : t < 64) : (walkF ex (t + 1)).node = (2 * (walkF ex t).node + bitR ns t) % 32 := by
  rw [ring_bit hn ht]
  exact Int.fmod_eq_emod_of_nonneg _ (by decide)
theorem win5_next (hb : ∀ b ∈ ns, b = 0 ∨ b = 1) (p : Nat) : win ns (p + 1) 5 = (2 * win ns p 5 + bitR ns (p + 5)) % 32 := by
  have e1 := win_succ ns p 5
  have e2 := win_add ns p 1 5
  have e3 := win_succ ns p 0
  have b0 := bitR_in hb (p + 0)
  have w := win_in hb (p + 1) 5
  rw [win_zero] at e3
  have e2 : win ns p 6 = win ns p (0 + 1) * 32 + win ns (p + 1) 5 := e2
  have e1 : win ns p 6 = win ns p 5 * 2 + bitR ns (p + 5) := e1
  have w : 0 ≤ win ns (p + 1) 5 ∧ win ns (p + 1) 5 < 32 := w
  omega
theorem node_low (hex : ExOk ex) (hn : ns = (walkF ex 64).bits) : ∀ k, k ≤ 5 → (walkF ex k).node = win ns 0 k
  | 0, _ => rfl
  | k + 1, h => by
    have hb := ring_01 hex hn
    rw [node_next hn (by omega), node_low hex hn k (by omega), win_succ, Nat.zero_add]
    have w := win_in hb 0 (k + 1)
    rw [win_succ, Nat.zero_add] at w
    have : (2 : Int) ^ (k + 1) ≤ 2 ^ 5 := by
      have : k = 0 ∨ k = 1 ∨ k = 2 ∨ k = 3 ∨ k = 4 := by omega
      rcases this with h | h | h | h | h <;> subst h <;> decide
    have e : (2 : Int) ^ 5 = 32 := rfl
    omega
theorem node_mid (hex : ExOk ex) (hn : ns = (walkF ex 64).bits) : ∀ t, t ≤ 59 → (walkF ex (t + 5)).node = win ns t 5
  | 0, _ => node_low hex hn 5 (by omega)
  | t + 1, h => by
    rw [show t + 1 + 5 = t + 5 + 1 by omega, node_next hn (by omega), node_mid hex hn t (by omega), win5_next (ring_01 hex hn)]
theorem node_ring (hex : ExOk ex) (hn : ns = (walkF ex 64).bits) : ∀ t, t ≤ 64 → (walkF ex t).node = win ns (59 + t) 5
  | 0, _ => by
    have := node_mid hex hn 59 (by omega)
    rw [walk_home hex] at this
    exact this
  | t + 1, h => by
    rw [node_next hn (by omega), node_ring hex hn t (by omega), show 59 + (t + 1) = 59 + t + 1 by omega, win5_next (ring_01 hex hn), show 59 + t + 5 = t + 64 by omega, bit_per]
theorem edge_ring (hex : ExOk ex) (hn : ns = (walkF ex 64).bits) {t : Nat} (ht : t < 64) : wedge ex t = win ns (59 + t) 6 := by
  unfold wedge
  rw [node_ring hex hn t (by omega), ← ring_bit hn ht]
  have e : win ns (59 + t) 6 = win ns (59 + t) 5 * 2 + bitR ns (59 + t + 5) := win_succ ns (59 + t) 5
  rw [show 59 + t + 5 = t + 64 by omega, bit_per] at e
  omega
theorem wins_at {wins : List Int} (hw : wins = (rangeKs 0 64).map (fun p => windowN ns p 6)) (j : Nat) (hj : j < 64) : wins.getD j 0 = win ns j 6 := by
  subst hw
  have e : (rangeKs 0 64)[j]? = some (j : Int) := by
    unfold rangeKs
    rw [List.getElem?_map, List.getElem?_range hj]
    simp
  rw [List.getD_eq_getElem?_getD, List.getElem?_map, e]
  rfl
theorem edges_list (ex : List Int) : ∀ i, edgesF ex i = (List.range i).map (wedge ex)
  | 0 => rfl
  | i + 1 => by
    show edgesF ex i ++ [wedge ex i] = _
    rw [List.range_succ, List.map_append, edges_list ex i]; rfl
/-- every row of six bits stands just once in the windows -/
theorem wins_perm (hex : ExOk ex) (hn : ns = (walkF ex 64).bits) {wins : List Int} (hw : wins = (rangeKs 0 64).map (fun p => windowN ns p 6)) (js : List Nat) (hj : js.Perm (List.range 64)) : (js.map fun j => wins.getD j 0).Perm (rangeKs 0 64) := by
  have e1 : edgesF ex 64 = ((List.range 64).map fun t => (59 + t) % 64).map fun j => wins.getD j 0 := by
    rw [edges_list, List.map_map]
    refine List.map_congr_left fun t ht => ?_
    have ht := List.mem_range.mp ht
    show wedge ex t = wins.getD ((59 + t) % 64) 0
    rw [edge_ring hex hn ht, wins_at hw _ (Nat.mod_lt _ (by decide)), win_mod]
  have p1 : ((List.range 64).map fun t => (59 + t) % 64).Perm (List.range 64) := by decide +kernel
  have p2 := (hj.trans p1.symm).map fun j => wins.getD j 0
  rw [← e1] at p2
  exact p2.trans (edges_perm hex)
theorem signs_perm (hex : ExOk ex) (hn : ns = (walkF ex 64).bits) {wins : List Int} (hw : wins = (rangeKs 0 64).map (fun p => windowN ns p 6)) : (signsAcc wins 2).Perm (rangeKs 0 64) := by
  have e : signsAcc wins 2 = (((List.range 2).map fun (j : Nat) => (rangeKs 0 32).map fun k => (Int.fmod (6 * k + (j : Int)) 64).toNat).flatten).map fun j => wins.getD j 0 := by
    unfold signsAcc placesAt winAt
    rw [List.map_flatten, List.map_map]
    congr 1
  rw [e]
  exact wins_perm hex hn hw _ (by decide +kernel)
end
theorem sorted_perm_eq : ∀ {a b : List Int}, a.Perm b → a.Pairwise (· ≤ ·) → b.Pairwise (· ≤ ·) → a = b
  | [], b, p, _, _ => by rw [List.nil_perm.mp p]
  | x :: a, [], p, _, _ => by cases List.perm_nil.mp p
  | x :: a, y :: b, p, ha, hb => by
    have h1 : x ≤ y := by
      rcases List.mem_cons.mp (p.mem_iff.mpr (List.mem_cons_self (a := y) (l := b))) with e | h
      · omega
      · exact List.rel_of_pairwise_cons ha h
    have h2 : y ≤ x := by
      rcases List.mem_cons.mp (p.mem_iff.mp (List.mem_cons_self (a := x) (l := a))) with e | h
      · omega
      · exact List.rel_of_pairwise_cons hb h
    obtain rfl : x = y := by omega
    rw [sorted_perm_eq (List.Perm.cons_inv p) (List.Pairwise.of_cons ha) (List.Pairwise.of_cons hb)]
theorem range_sorted : (rangeKs 0 64).Pairwise (· ≤ ·) := by decide +kernel
theorem range_nodup : (rangeKs 0 64).Nodup := by decide +kernel
theorem signs_sorted {ex wbits wins ns : List Int} (hex : ExOk ex) (hw : wbits = (walkF ex 64).bits) (hwin : wins = (rangeKs 0 64).map (fun p => windowN wbits p 6)) (hp : ns.Perm (signsAcc wins 2)) (ho : ns.Pairwise (· ≤ ·)) : ns = rangeKs 0 64 :=
  sorted_perm_eq (hp.trans (signs_perm hex hw hwin)) ho range_sorted
theorem signs_nodup {ex wbits wins : List Int} (hex : ExOk ex) (hw : wbits = (walkF ex 64).bits) (hwin : wins = (rangeKs 0 64).map (fun p => windowN wbits p 6)) : (signsAcc wins 2).Nodup :=
  (signs_perm hex hw hwin).nodup_iff.mpr range_nodup
/-! P3 -/
theorem winAt_win {ns wins : List Int} (hw : wins = (rangeKs 0 64).map (fun p => windowN ns p 6)) {k : Int} (hk : 0 ≤ k) : winAt wins (Int.fmod k 64) = win ns k.toNat 6 := by
  unfold winAt
  obtain ⟨n, rfl⟩ := Int.eq_ofNat_of_zero_le hk
  rw [Int.fmod_eq_emod_of_nonneg _ (by decide)]
  have e : (((n : Nat) : Int) % 64).toNat = n % 64 := by omega
  rw [e, wins_at hw _ (Nat.mod_lt _ (by decide)), win_mod]; rfl
theorem win_fdiv (ns : List Int) (hb : ∀ b ∈ ns, b = 0 ∨ b = 1) (p : Nat) : Int.fdiv (win ns p 6) 4 = win ns p 4 := by
  rw [fdiv_pos (by decide)]
  have e : win ns p 6 = win ns p 4 * 4 + win ns (p + 4) 2 := win_add ns p 4 2
  have w : 0 ≤ win ns (p + 4) 2 ∧ win ns (p + 4) 2 < 4 := win_in hb (p + 4) 2
  omega
theorem fours_win {ns wins : List Int} (hb : ∀ b ∈ ns, b = 0 ∨ b = 1) (hw : wins = (rangeKs 0 64).map (fun p => windowN ns p 6)) (i : Nat) : foursAt wins (i : Int) = (List.range 16).map fun k => win ns (4 * k + i) 4 := by
  unfold foursAt
  rw [show rangeKs 0 16 = (List.range 16).map (fun (k : Nat) => (k : Int)) by decide +kernel, List.map_map]
  refine List.map_congr_left fun k _ => ?_
  show Int.fdiv (winAt wins (Int.fmod (4 * (k : Int) + (i : Int)) 64)) 4 = _
  rw [winAt_win hw (by omega), win_fdiv ns hb]
  congr 1
theorem fours_in' {wbits wins : List Int} {i : Nat} (hb : ∀ b ∈ wbits, b = 0 ∨ b = 1) (hw : wins = (rangeKs 0 64).map (fun p => windowN wbits p 6)) : ∀ x ∈ foursAt wins (i : Int), 0 ≤ x ∧ x < 16 := by
  rw [fours_win hb hw]
  intro x hx
  obtain ⟨k, _, rfl⟩ := List.mem_map.mp hx
  exact win_in hb _ 4
theorem tally_gen : ∀ (l t : List Int), t.length = 16 → (∀ x ∈ l, 0 ≤ x ∧ x < 16) → ∀ f : Nat, f < 16 → (l.foldl (fun t x => t.set x.toNat (t.getD x.toNat 0 + 1)) t).getD f 0 = t.getD f 0 + (l.count (f : Int) : Int)
  | [], t, _, _, f, _ => by simp
  | x :: l, t, ht, hx, f, hf => by
    have h0 := hx x (.head _)
    rw [List.foldl_cons, tally_gen l _ (by rw [List.length_set]; exact ht) (fun y hy => hx y (.tail _ hy)) f hf, List.count_cons, List.getD_eq_getElem?_getD, List.getElem?_set]
    by_cases e : x = (f : Int)
    · subst e
      rw [Int.toNat_natCast, if_pos rfl, if_pos (by omega)]
      simp only [Option.getD_some, beq_self_eq_true, if_true]
      omega
    · rw [if_neg (by omega), ← List.getD_eq_getElem?_getD]
      simp [e]
theorem tally_at {fs : List Int} (h : ∀ x ∈ fs, 0 ≤ x ∧ x < 16) {f : Nat} (hf : f < 16) : (tallyF fs).getD f 0 = (fs.count (f : Int) : Int) := by
  unfold tallyF
  rw [tally_gen fs _ rfl h f hf, List.getD_eq_getElem?_getD, List.getElem?_replicate]
  split <;> simp
theorem ext16 {a b : List Int} (ha : a.length = 16) (hb : b.length = 16) (h : ∀ f : Nat, f < 16 → a.getD f 0 = b.getD f 0) : a = b := by
  refine List.ext_getElem (by rw [ha, hb]) fun i h1 h2 => ?_
  have := h i (by omega)
  rw [List.getD_eq_getElem?_getD, List.getD_eq_getElem?_getD, List.getElem?_eq_getElem h1, List.getElem?_eq_getElem h2] at this
  exact this
theorem count_map_inj {g : Int → Int} (f : Int) : ∀ (l : List Int), (∀ x ∈ l, g x = g f → x = f) → (l.map g).count (g f) = l.count f
  | [], _ => rfl
  | x :: l, h => by
    rw [List.map_cons, List.count_cons, List.count_cons, count_map_inj f l fun y hy => h y (.tail _ hy)]
    by_cases e : x = f
    · subst e; simp
    · have : g x ≠ g f := fun q => e (h x (.head _) q)
      simp [e, this]
theorem count_tally {fs : List Int} (h : ∀ x ∈ fs, 0 ≤ x ∧ x < 16) : S16.map (fun c => ((fs.map (fun v => S16.getD v.toNat 0)).count c : Int)) = tallyF fs := by
  refine ext16 (by rw [List.length_map]; rfl) (tallyF_len fs) fun f hf => ?_
  rw [tally_at h hf, List.getD_eq_getElem?_getD, List.getElem?_map]
  have e : S16[f]? = some (S16.getD ((f : Int)).toNat 0) := by
    have key : ∀ f : Fin 16, S16[f.val]? = some (S16.getD (((f.val : Nat) : Int)).toNat 0) := by decide +kernel
    exact key ⟨f, hf⟩
  rw [e]
  show (((fs.map (fun v => S16.getD v.toNat 0)).count (S16.getD ((f : Int)).toNat 0) : Nat) : Int) = _
  congr 1
  refine count_map_inj (g := fun v => S16.getD v.toNat 0) (f : Int) fs fun x hx q => ?_
  obtain ⟨a, b⟩ := h x hx
  obtain ⟨n, rfl⟩ := Int.eq_ofNat_of_zero_le a
  have key : ∀ a b : Fin 16, S16.getD (((a.val : Nat) : Int)).toNat 0 = S16.getD (((b.val : Nat) : Int)).toNat 0 → a.val = b.val := by decide +kernel
  have := key ⟨n, by omega⟩ ⟨f, hf⟩ q
  exact congrArg _ this
/-- all fours of the first i writings -/
noncomputable def foursTo (wins : List Int) : Nat → List Int
  | 0 => []
  | i + 1 => foursTo wins i ++ foursAt wins (i : Int)
theorem tot_at {ns wins : List Int} (hb : ∀ b ∈ ns, b = 0 ∨ b = 1) (hw : wins = (rangeKs 0 64).map (fun p => windowN ns p 6)) {f : Nat} (hf : f < 16) : ∀ i : Nat, (totAt wins i).getD f 0 = ((foursTo wins i).count (f : Int) : Int)
  | 0 => by
    show (List.replicate 16 (0 : Int)).getD f 0 = 0
    rw [List.getD_eq_getElem?_getD, List.getElem?_replicate]
    split <;> rfl
  | i + 1 => by
    show ((rangeKs 0 16).map fun k => (totAt wins i).getD k.toNat 0 + (tallyF (foursAt wins (i : Int))).getD k.toNat 0).getD f 0 = ((foursTo wins i ++ foursAt wins (i : Int)).count (f : Int) : Int)
    have e : (rangeKs 0 16)[f]? = some (f : Int) := by
      unfold rangeKs
      rw [List.getElem?_map, List.getElem?_range hf]
      simp
    rw [List.getD_eq_getElem?_getD, List.getElem?_map, e]
    show (totAt wins i).getD ((f : Int)).toNat 0 + (tallyF (foursAt wins (i : Int))).getD ((f : Int)).toNat 0 = _
    rw [Int.toNat_natCast, tot_at hb hw hf i, tally_at (fours_in' hb hw) hf, List.count_append]
    omega
theorem tot_four {wbits wins ex : List Int} (hex : ExOk ex) (hw : wbits = (walkF ex 64).bits) (hwin : wins = (rangeKs 0 64).map (fun p => windowN wbits p 6)) : totAt wins 4 = List.replicate 16 4 := by
  have hb := ring_01 hex hw
  refine ext16 (totAt_len _ _) rfl fun f hf => ?_
  rw [tot_at hb hwin hf]
  have e : foursTo wins 4 = ((((List.range 4).map fun i => (List.range 16).map fun k => (4 * k + i) % 64).flatten).map fun j => wins.getD j 0).map fun x => Int.fdiv x 4 := by
    have one : ∀ i : Nat, foursAt wins (i : Int) = (((List.range 16).map fun k => (4 * k + i) % 64).map fun j => wins.getD j 0).map fun x => Int.fdiv x 4 := by
      intro i
      rw [fours_win hb hwin, List.map_map, List.map_map]
      refine List.map_congr_left fun k _ => ?_
      show _ = Int.fdiv (wins.getD ((4 * k + i) % 64) 0) 4
      rw [wins_at hwin _ (Nat.mod_lt _ (by decide)), win_mod, win_fdiv _ hb]
    show ((([] ++ foursAt wins ((0 : Nat) : Int)) ++ foursAt wins ((1 : Nat) : Int)) ++ foursAt wins ((2 : Nat) : Int)) ++ foursAt wins ((3 : Nat) : Int) = _
    rw [one, one, one, one]
    simp only [List.range_succ, List.range_zero, List.nil_append, List.map_append, List.map_cons, List.map_nil, List.flatten_append, List.flatten_cons, List.flatten_nil, List.append_nil]
  rw [e]
  have p := (wins_perm hex hw hwin (((List.range 4).map fun i => (List.range 16).map fun k => (4 * k + i) % 64).flatten) (by decide +kernel)).map fun x => Int.fdiv x 4
  rw [p.count_eq]
  have key : ∀ f : Fin 16, (((rangeKs 0 64).map fun x => Int.fdiv x 4).count ((f.val : Nat) : Int) : Int) = (List.replicate 16 (4 : Int)).getD f.val 0 := by decide +kernel
  exact key ⟨f, hf⟩
theorem fours_in {wbits wins : List Int} {i : Nat} (_ : wbits.length = 64) (hb : ∀ b ∈ wbits, b = 0 ∨ b = 1) (hw : wins = (rangeKs 0 64).map (fun p => windowN wbits p 6)) : ∀ x ∈ foursAt wins (i : Int), 0 ≤ x ∧ x < 16 := fours_in' hb hw
/-! P4 -/
section
variable {ns : List Int}
theorem num_win (hl : ns.length = 64) : ∀ k, k ≤ 64 → numF (ns.take k) = win ns 0 k
  | 0, _ => rfl
  | k + 1, h => by
    have e : ns[k]? = some (bitR ns (0 + k)) := by
      unfold bitR
      rw [Nat.zero_add, Nat.mod_eq_of_lt (by omega), List.getD_eq_getElem?_getD, List.getElem?_eq_getElem (by omega), Option.getD_some]
    rw [numF_step e, num_win hl k (by omega), win_succ]
    omega
theorem num_all (hl : ns.length = 64) : numF ns = win ns 0 64 := by
  rw [← num_win hl 64 (Nat.le_refl _), ← hl, List.take_length]
theorem pow_split (a b : Nat) : (2 : Int) ^ (a + b) = 2 ^ a * 2 ^ b := Int.pow_add 2 a b
theorem p2pos (k : Nat) : (0 : Int) < 2 ^ k := Int.pow_pos (by decide)
theorem turn_win (hl : ns.length = 64) (hb : ∀ b ∈ ns, b = 0 ∨ b = 1) {i : Nat} (hi : i ≤ 64) : turnF (numF ns) (i : Int) = win ns i 64 := by
  have e : win ns 0 64 = win ns 0 i * 2 ^ (64 - i) + win ns i (64 - i) := by
    have := win_add ns 0 i (64 - i)
    rwa [Nat.add_sub_of_le hi, Nat.zero_add] at this
  have e2 : win ns i 64 = win ns i (64 - i) * 2 ^ i + win ns 0 i := by
    have := win_add ns i (64 - i) i
    rwa [Nat.sub_add_cancel hi, Nat.add_sub_of_le hi, show (64 : Nat) = 0 + 64 from rfl, win_per] at this
  have w1 := win_in hb i (64 - i)
  have w2 := win_in hb 0 i
  unfold turnF
  rw [num_all hl, Int.toNat_natCast, show ((64 : Int) - (i : Int)).toNat = 64 - i by omega, show Int.toNat 64 = 64 from rfl, e2]
  rw [Int.fmod_eq_emod_of_nonneg _ (Int.le_of_lt (p2pos _)), fdiv_pos (p2pos _)]
  have hp : (2 : Int) ^ 64 = 2 ^ (64 - i) * 2 ^ i := by rw [← pow_split, Nat.sub_add_cancel hi]
  have a1 : win ns 0 64 * 2 ^ i % 2 ^ 64 = win ns i (64 - i) * 2 ^ i := by
    rw [hp, Int.mul_comm (win ns 0 64), Int.mul_comm (2 ^ (64 - i)), Int.mul_emod_mul_of_pos _ _ (p2pos i), e, Int.add_comm, Int.add_mul_emod_self_right, Int.emod_eq_of_lt w1.1 w1.2, Int.mul_comm]
  have a2 : win ns 0 64 / 2 ^ (64 - i) = win ns 0 i := by
    rw [e, Int.add_comm, Int.add_mul_ediv_right _ _ (Int.ne_of_gt (p2pos _)), Int.ediv_eq_zero_of_lt w1.1 w1.2, Int.zero_add]
  rw [a1, a2]
theorem octet_win (hl : ns.length = 64) (hb : ∀ b ∈ ns, b = 0 ∨ b = 1) {i j : Nat} (hi : i ≤ 64) (hj : j < 8) : octetF (turnF (numF ns) (i : Int)) (j : Int) = win ns (8 * j + i) 8 := by
  rw [turn_win hl hb hi]
  have e : win ns i 64 = (win ns i (8 * j) * 2 ^ 8 + win ns (i + 8 * j) 8) * 2 ^ (56 - 8 * j) + win ns (i + (8 * j + 8)) (56 - 8 * j) := by
    have a := win_add ns i (8 * j + 8) (56 - 8 * j)
    rw [show 8 * j + 8 + (56 - 8 * j) = 64 by omega, win_add ns i (8 * j) 8] at a
    exact a
  have w1 := win_in hb (i + (8 * j + 8)) (56 - 8 * j)
  have w2 := win_in hb (i + 8 * j) 8
  have hq : (256 : Int) ^ ((7 : Int) - (j : Int)).toNat = 2 ^ (56 - 8 * j) := by
    rw [show ((7 : Int) - (j : Int)).toNat = 7 - j by omega, show (256 : Int) = 2 ^ 8 from rfl, ← Int.pow_mul, show 8 * (7 - j) = 56 - 8 * j by omega]
  unfold octetF
  rw [hq, fdiv_pos (p2pos _), Int.fmod_eq_emod_of_nonneg _ (by decide), e, Int.add_comm, Int.add_mul_ediv_right _ _ (Int.ne_of_gt (p2pos _)), Int.ediv_eq_zero_of_lt w1.1 w1.2, Int.zero_add, show 8 * j + i = i + 8 * j by omega]
  have w2 : 0 ≤ win ns (i + 8 * j) 8 ∧ win ns (i + 8 * j) 8 < 256 := w2
  rw [show (2 : Int) ^ 8 = 256 from rfl]
  omega
theorem octets_win (hl : ns.length = 64) (hb : ∀ b ∈ ns, b = 0 ∨ b = 1) {i : Nat} (hi : i ≤ 64) : (rangeKs 0 8).map (octetF (turnF (numF ns) (i : Int))) = (List.range 8).map fun j => win ns (8 * j + i) 8 := by
  rw [show rangeKs 0 8 = (List.range 8).map (fun (k : Nat) => (k : Int)) by decide +kernel, List.map_map]
  refine List.map_congr_left fun j hj => ?_
  exact octet_win hl hb hi (List.mem_range.mp hj)
theorem six_S16 : ∀ v : Fin 16, sixF ((v.val : Nat) : Int) = S16.getD (((v.val : Nat) : Int)).toNat 0 := by decide +kernel
theorem six_of {x : Int} (h0 : 0 ≤ x) (h1 : x < 16) : sixF x = S16.getD x.toNat 0 := by
  obtain ⟨n, rfl⟩ := Int.eq_ofNat_of_zero_le h0
  exact six_S16 ⟨n, by omega⟩
end
theorem hex_fours {wbits wins ks8 : List Int} {i : Nat} (hl : wbits.length = 64) (hb : ∀ b ∈ wbits, b = 0 ∨ b = 1) (hw : wins = (rangeKs 0 64).map (fun p => windowN wbits p 6)) (hk : ks8 = (rangeKs 0 8).map (octetF (turnF (numF wbits) (i : Int)))) (hi : i < 4) :
    hexF ks8 = (foursAt wins (i : Int)).map (fun v => S16.getD v.toNat 0) := by
  rw [hk, octets_win hl hb (by omega), fours_win hb hw]
  have one : ∀ j : Nat, [sixF (win wbits (8 * j + i) 8 / 16), sixF (win wbits (8 * j + i) 8 % 16)] = [S16.getD (win wbits (4 * (2 * j) + i) 4).toNat 0, S16.getD (win wbits (4 * (2 * j + 1) + i) 4).toNat 0] := by
    intro j
    have e : win wbits (8 * j + i) 8 = win wbits (8 * j + i) 4 * 16 + win wbits (8 * j + i + 4) 4 := win_add wbits (8 * j + i) 4 4
    have w1 : 0 ≤ win wbits (8 * j + i) 4 ∧ win wbits (8 * j + i) 4 < 16 := win_in hb (8 * j + i) 4
    have w2 : 0 ≤ win wbits (8 * j + i + 4) 4 ∧ win wbits (8 * j + i + 4) 4 < 16 := win_in hb (8 * j + i + 4) 4
    rw [show 4 * (2 * j) + i = 8 * j + i by omega, show 4 * (2 * j + 1) + i = 8 * j + i + 4 by omega]
    rw [show win wbits (8 * j + i) 8 / 16 = win wbits (8 * j + i) 4 by omega, show win wbits (8 * j + i) 8 % 16 = win wbits (8 * j + i + 4) 4 by omega, six_of w1.1 w1.2, six_of w2.1 w2.2]
  have gen : ∀ n : Nat, hexF ((List.range n).map fun j => win wbits (8 * j + i) 8) = ((List.range (2 * n)).map fun k => win wbits (4 * k + i) 4).map (fun v => S16.getD v.toNat 0) := by
    intro n
    induction n with
    | zero => rfl
    | succ n ih =>
      have e2 : hexF ((List.range (n + 1)).map fun j => win wbits (8 * j + i) 8) = hexF ((List.range n).map fun j => win wbits (8 * j + i) 8) ++ [sixF (win wbits (8 * n + i) 8 / 16), sixF (win wbits (8 * n + i) 8 % 16)] := by
        rw [List.range_succ, List.map_append]
        unfold hexF
        rw [List.flatMap_append]
        rfl
      rw [e2, ih, one n, show 2 * (n + 1) = 2 * n + 1 + 1 by omega, List.range_succ, List.range_succ]
      simp
  exact gen 8
/-! P5 -/
/-- the six-bit places that three octets write -/
noncomputable def sx : List Int → List Int
  | b1 :: b2 :: b3 :: r => (b1 / 4) :: (b1 % 4 * 16 + b2 / 16) :: (b2 % 16 * 4 + b3 / 64) :: (b3 % 64) :: sx r
  | _ => []
theorem enc3 (lc : Int) (out : List Int) (b1 b2 b3 : Int) : encStep (encStep (encStep ⟨lc, 0, out⟩ b1) b2) b3 =
    ⟨(((lc * 256 + b1) % 65536 * 256 + b2) % 65536 * 256 + b3) % 65536, 0, out ++ [signF ((lc * 256 + b1) % 65536 / 4 % 64), signF (((lc * 256 + b1) % 65536 * 256 + b2) % 65536 / 16 % 64),
      signF ((((lc * 256 + b1) % 65536 * 256 + b2) % 65536 * 256 + b3) % 65536 / 64 % 64), signF ((((lc * 256 + b1) % 65536 * 256 + b2) % 65536 * 256 + b3) % 65536 / 1 % 64)]⟩ := by
  have e1 : encStep ⟨lc, 0, out⟩ b1 = ⟨(lc * 256 + b1) % 65536, 2, out ++ [signF ((lc * 256 + b1) % 65536 / 4 % 64)]⟩ := rfl
  have e2 : ∀ l o, encStep ⟨l, 2, o⟩ b2 = ⟨(l * 256 + b2) % 65536, 4, o ++ [signF ((l * 256 + b2) % 65536 / 16 % 64)]⟩ := fun _ _ => rfl
  have e3 : ∀ l o, encStep ⟨l, 4, o⟩ b3 = ⟨(l * 256 + b3) % 65536, 0, o ++ [signF ((l * 256 + b3) % 65536 / 64 % 64), signF ((l * 256 + b3) % 65536 / 1 % 64)]⟩ := fun _ _ => rfl
  rw [e1, e2, e3, List.append_assoc, List.append_assoc]
  rfl
theorem enc_gen0 : ∀ (n : Nat) (ks : List Int), ks.length = 3 * n → ∀ lc out, (ks.foldl encStep ⟨lc, 0, out⟩).lb = 0 ∧ (ks.foldl encStep ⟨lc, 0, out⟩).out.length = out.length + 4 * n
  | 0, ks, h, lc, out => by
    rw [List.length_eq_zero_iff.mp (by omega : ks.length = 0)]
    exact ⟨rfl, rfl⟩
  | n + 1, b1 :: b2 :: b3 :: r, h, lc, out => by
    simp only [List.length_cons] at h
    rw [List.foldl_cons, List.foldl_cons, List.foldl_cons, enc3]
    obtain ⟨h1, h2⟩ := enc_gen0 n r (by omega) ((((lc * 256 + b1) % 65536 * 256 + b2) % 65536 * 256 + b3) % 65536) (out ++ [signF ((lc * 256 + b1) % 65536 / 4 % 64), signF (((lc * 256 + b1) % 65536 * 256 + b2) % 65536 / 16 % 64),
      signF ((((lc * 256 + b1) % 65536 * 256 + b2) % 65536 * 256 + b3) % 65536 / 64 % 64), signF ((((lc * 256 + b1) % 65536 * 256 + b2) % 65536 * 256 + b3) % 65536 / 1 % 64)])
    refine ⟨h1, h2.trans ?_⟩
    rw [List.length_append]
    simp only [List.length_cons, List.length_nil]
    omega
  | n + 1, [], h, _, _ => by simp at h
  | n + 1, [_], h, _, _ => by simp only [List.length_cons, List.length_nil] at h; omega
  | n + 1, [_, _], h, _, _ => by simp only [List.length_cons, List.length_nil] at h; omega
theorem enc_gen : ∀ (n : Nat) (ks : List Int), ks.length = 3 * n → (∀ k ∈ ks, 0 ≤ k ∧ k < 256) → ∀ lc out, (ks.foldl encStep ⟨lc, 0, out⟩).out = out ++ (sx ks).map signF
  | 0, ks, h, _, lc, out => by
    rw [List.length_eq_zero_iff.mp (by omega : ks.length = 0)]
    show out = out ++ []
    rw [List.append_nil]
  | n + 1, b1 :: b2 :: b3 :: r, h, hb, lc, out => by
    simp only [List.length_cons] at h
    have h1 := hb b1 (.head _)
    have h2 := hb b2 (.tail _ (.head _))
    have h3 := hb b3 (.tail _ (.tail _ (.head _)))
    rw [List.foldl_cons, List.foldl_cons, List.foldl_cons, enc3, enc_gen n r (by omega) (fun k hk => hb k (.tail _ (.tail _ (.tail _ hk))))]
    have x1 : (lc * 256 + b1) % 65536 / 4 % 64 = b1 / 4 := by omega
    have x2 : ((lc * 256 + b1) % 65536 * 256 + b2) % 65536 / 16 % 64 = b1 % 4 * 16 + b2 / 16 := by omega
    have x3 : (((lc * 256 + b1) % 65536 * 256 + b2) % 65536 * 256 + b3) % 65536 / 64 % 64 = b2 % 16 * 4 + b3 / 64 := by omega
    have x4 : (((lc * 256 + b1) % 65536 * 256 + b2) % 65536 * 256 + b3) % 65536 / 1 % 64 = b3 % 64 := by omega
    rw [x1, x2, x3, x4, List.append_assoc]
    rfl
  | n + 1, [], h, _, _, _ => by simp at h
  | n + 1, [_], h, _, _, _ => by simp only [List.length_cons, List.length_nil] at h; omega
  | n + 1, [_, _], h, _, _, _ => by simp only [List.length_cons, List.length_nil] at h; omega
theorem enc_lb {ks : List Int} (h : ks.length = 24) : (encF ks).lb = 0 := (enc_gen0 8 ks h 0 []).1
theorem enc_len {ks : List Int} (h : ks.length = 24) : (encF ks).out.length = 32 := (enc_gen0 8 ks h 0 []).2
theorem place_sign_all : ∀ v : Fin 64, placeF (signF ((v.val : Nat) : Int)) = ((v.val : Nat) : Int) := by decide +kernel
theorem place_sign {v : Int} (h0 : 0 ≤ v) (h1 : v < 64) : placeF (signF v) = v := by
  obtain ⟨n, rfl⟩ := Int.eq_ofNat_of_zero_le h0
  exact place_sign_all ⟨n, by omega⟩
theorem sx_in : ∀ (n : Nat) (ks : List Int), ks.length = 3 * n → (∀ k ∈ ks, 0 ≤ k ∧ k < 256) → ∀ v ∈ sx ks, 0 ≤ v ∧ v < 64
  | 0, ks, h, _, v, hv => by
    rw [List.length_eq_zero_iff.mp (by omega : ks.length = 0)] at hv
    exact nomatch hv
  | n + 1, b1 :: b2 :: b3 :: r, h, hb, v, hv => by
    simp only [List.length_cons] at h
    have h1 := hb b1 (.head _)
    have h2 := hb b2 (.tail _ (.head _))
    have h3 := hb b3 (.tail _ (.tail _ (.head _)))
    rcases List.mem_cons.mp hv with rfl | hv
    · omega
    rcases List.mem_cons.mp hv with rfl | hv
    · omega
    rcases List.mem_cons.mp hv with rfl | hv
    · omega
    rcases List.mem_cons.mp hv with rfl | hv
    · omega
    exact sx_in n r (by omega) (fun k hk => hb k (.tail _ (.tail _ (.tail _ hk)))) v hv
  | n + 1, [], h, _, _, _ => by simp at h
  | n + 1, [_], h, _, _, _ => by simp only [List.length_cons, List.length_nil] at h; omega
  | n + 1, [_, _], h, _, _, _ => by simp only [List.length_cons, List.length_nil] at h; omega
theorem dec4 (lc : Int) (out : List Int) (a b c d : Int) (ha : 0 ≤ a ∧ a < 64) (hb : 0 ≤ b ∧ b < 64) (hc : 0 ≤ c ∧ c < 64) (hd : 0 ≤ d ∧ d < 64) :
    decStep (decStep (decStep (decStep ⟨0, lc, out⟩ (signF a)) (signF b)) (signF c)) (signF d) = ⟨0, 0, out ++ [a * 4 + b / 16, b % 16 * 16 + c / 4, c % 4 * 64 + d]⟩ := by
  have e1 : decStep ⟨0, lc, out⟩ (signF a) = ⟨1, placeF (signF a), out⟩ := rfl
  have e2 : ∀ l o, decStep ⟨1, l, o⟩ (signF b) = ⟨2, placeF (signF b) % 16, o ++ [l * 4 + placeF (signF b) / 16]⟩ := fun _ _ => rfl
  have e3 : ∀ l o, decStep ⟨2, l, o⟩ (signF c) = ⟨3, placeF (signF c) % 4, o ++ [l * 16 + placeF (signF c) / 4]⟩ := fun _ _ => rfl
  have e4 : ∀ l o, decStep ⟨3, l, o⟩ (signF d) = ⟨0, 0, o ++ [l * 64 + placeF (signF d)]⟩ := fun _ _ => rfl
  rw [e1, e2, e3, e4, place_sign ha.1 ha.2, place_sign hb.1 hb.2, place_sign hc.1 hc.2, place_sign hd.1 hd.2, List.append_assoc, List.append_assoc]
  rfl
theorem dec_gen : ∀ (n : Nat) (ks : List Int), ks.length = 3 * n → (∀ k ∈ ks, 0 ≤ k ∧ k < 256) → ∀ lc out, (((sx ks).map signF).foldl decStep ⟨0, lc, out⟩).q = 0 ∧ (((sx ks).map signF).foldl decStep ⟨0, lc, out⟩).out = out ++ ks
  | 0, ks, h, _, lc, out => by
    rw [List.length_eq_zero_iff.mp (by omega : ks.length = 0)]
    exact ⟨rfl, (List.append_nil _).symm⟩
  | n + 1, b1 :: b2 :: b3 :: r, h, hb, lc, out => by
    simp only [List.length_cons] at h
    have h1 := hb b1 (.head _)
    have h2 := hb b2 (.tail _ (.head _))
    have h3 := hb b3 (.tail _ (.tail _ (.head _)))
    show ((signF (b1 / 4) :: signF (b1 % 4 * 16 + b2 / 16) :: signF (b2 % 16 * 4 + b3 / 64) :: signF (b3 % 64) :: (sx r).map signF).foldl decStep ⟨0, lc, out⟩).q = 0 ∧ ((signF (b1 / 4) :: signF (b1 % 4 * 16 + b2 / 16) :: signF (b2 % 16 * 4 + b3 / 64) :: signF (b3 % 64) :: (sx r).map signF).foldl decStep ⟨0, lc, out⟩).out = _
    rw [List.foldl_cons, List.foldl_cons, List.foldl_cons, List.foldl_cons, dec4 lc out _ _ _ _ (by omega) (by omega) (by omega) (by omega)]
    rw [show b1 / 4 * 4 + (b1 % 4 * 16 + b2 / 16) / 16 = b1 by omega, show (b1 % 4 * 16 + b2 / 16) % 16 * 16 + (b2 % 16 * 4 + b3 / 64) / 4 = b2 by omega, show (b2 % 16 * 4 + b3 / 64) % 4 * 64 + b3 % 64 = b3 by omega]
    obtain ⟨q1, q2⟩ := dec_gen n r (by omega) (fun k hk => hb k (.tail _ (.tail _ (.tail _ hk)))) 0 (out ++ [b1, b2, b3])
    refine ⟨q1, q2.trans ?_⟩
    rw [List.append_assoc]
    rfl
  | n + 1, [], h, _, _, _ => by simp at h
  | n + 1, [_], h, _, _, _ => by simp only [List.length_cons, List.length_nil] at h; omega
  | n + 1, [_, _], h, _, _, _ => by simp only [List.length_cons, List.length_nil] at h; omega
theorem enc_dec {ks : List Int} (h : ks.length = 24) (hb : ∀ k ∈ ks, 0 ≤ k ∧ k < 256) : (∀ k ∈ (encF ks).out, 0 ≤ placeF k ∧ placeF k < 64) ∧ (decF (encF ks).out).q = 0 ∧ (decF (encF ks).out).out = ks := by
  have e : (encF ks).out = (sx ks).map signF := enc_gen 8 ks h hb 0 []
  have d := dec_gen 8 ks h hb 0 []
  rw [e]
  refine ⟨fun k hk => ?_, d.1, d.2⟩
  obtain ⟨v, hv, rfl⟩ := List.mem_map.mp hk
  have := sx_in 8 ks h hb v hv
  rw [place_sign this.1 this.2]
  exact this
theorem sx_win (ns : List Int) (hb : ∀ b ∈ ns, b = 0 ∨ b = 1) : ∀ (n p : Nat), sx ((List.range (3 * n)).map fun m => win ns (8 * m + p) 8) = (List.range (4 * n)).map fun k => win ns (6 * k + p) 6
  | 0, p => rfl
  | n + 1, p => by
    have e3 : (List.range (3 * (n + 1))).map (fun m => win ns (8 * m + p) 8) = win ns p 8 :: win ns (p + 8) 8 :: win ns (p + 16) 8 :: (List.range (3 * n)).map fun m => win ns (8 * m + (p + 24)) 8 := by
      rw [show 3 * (n + 1) = 3 * n + 1 + 1 + 1 by omega, List.range_succ_eq_map, List.range_succ_eq_map, List.range_succ_eq_map]
      simp only [List.map_cons, List.map_map, Nat.mul_zero, Nat.zero_add]
      congr 1
      congr 1
      · congr 1; omega
      congr 1
      · congr 1; omega
      refine List.map_congr_left fun m _ => ?_
      show win ns (8 * (m + 1 + 1 + 1) + p) 8 = _
      congr 1; omega
    have e4 : (List.range (4 * (n + 1))).map (fun k => win ns (6 * k + p) 6) = win ns p 6 :: win ns (p + 6) 6 :: win ns (p + 12) 6 :: win ns (p + 18) 6 :: (List.range (4 * n)).map fun k => win ns (6 * k + (p + 24)) 6 := by
      rw [show 4 * (n + 1) = 4 * n + 1 + 1 + 1 + 1 by omega, List.range_succ_eq_map, List.range_succ_eq_map, List.range_succ_eq_map, List.range_succ_eq_map]
      simp only [List.map_cons, List.map_map, Nat.mul_zero, Nat.zero_add]
      congr 1
      congr 1
      · congr 1; omega
      congr 1
      · congr 1; omega
      congr 1
      · congr 1; omega
      refine List.map_congr_left fun m _ => ?_
      show win ns (6 * (m + 1 + 1 + 1 + 1) + p) 6 = _
      congr 1; omega
    rw [e3, e4]
    show (_ :: _ :: _ :: _ :: sx _) = _
    rw [sx_win ns hb n (p + 24)]
    have a1 : win ns p 8 = win ns p 6 * 4 + win ns (p + 6) 2 := win_add ns p 6 2
    have a2 : win ns (p + 6) 6 = win ns (p + 6) 2 * 16 + win ns (p + 8) 4 := win_add ns (p + 6) 2 4
    have a3 : win ns (p + 8) 8 = win ns (p + 8) 4 * 16 + win ns (p + 12) 4 := win_add ns (p + 8) 4 4
    have a4 : win ns (p + 12) 6 = win ns (p + 12) 4 * 4 + win ns (p + 16) 2 := win_add ns (p + 12) 4 2
    have a5 : win ns (p + 16) 8 = win ns (p + 16) 2 * 64 + win ns (p + 18) 6 := win_add ns (p + 16) 2 6
    have w1 : 0 ≤ win ns (p + 6) 2 ∧ win ns (p + 6) 2 < 4 := win_in hb (p + 6) 2
    have w2 : 0 ≤ win ns (p + 8) 4 ∧ win ns (p + 8) 4 < 16 := win_in hb (p + 8) 4
    have w3 : 0 ≤ win ns (p + 12) 4 ∧ win ns (p + 12) 4 < 16 := win_in hb (p + 12) 4
    have w4 : 0 ≤ win ns (p + 16) 2 ∧ win ns (p + 16) 2 < 4 := win_in hb (p + 16) 2
    have w5 : 0 ≤ win ns (p + 18) 6 ∧ win ns (p + 18) 6 < 64 := win_in hb (p + 18) 6
    congr 1
    · omega
    congr 1
    · omega
    congr 1
    · omega
    congr 1
    · omega
theorem enc_places {wbits wins ks8 : List Int} {i : Nat} (hl : wbits.length = 64) (hb : ∀ b ∈ wbits, b = 0 ∨ b = 1) (hw : wins = (rangeKs 0 64).map (fun p => windowN wbits p 6)) (hk : ks8 = (rangeKs 0 8).map (octetF (turnF (numF wbits) (i : Int)))) (hi : i < 2) :
    (encF (ks8 ++ ks8 ++ ks8)).out.map placeF = placesAt wins (i : Int) := by
  rw [octets_win hl hb (by omega)] at hk
  have e24 : ks8 ++ ks8 ++ ks8 = (List.range (3 * 8)).map fun m => win wbits (8 * m + i) 8 := by
    have p1 : ks8 = (List.range 8).map fun m => win wbits (8 * (m + 8) + i) 8 := by
      rw [hk]
      refine List.map_congr_left fun m _ => ?_
      rw [show 8 * (m + 8) + i = 8 * m + i + 64 by omega, win_per]
    have p2 : ks8 = (List.range 8).map fun m => win wbits (8 * (m + 16) + i) 8 := by
      rw [hk]
      refine List.map_congr_left fun m _ => ?_
      rw [show 8 * (m + 16) + i = 8 * m + i + 64 + 64 by omega, win_per, win_per]
    have q : List.range (3 * 8) = List.range 8 ++ (List.range 8).map (· + 8) ++ (List.range 8).map (· + 16) := by decide +kernel
    rw [q, List.map_append, List.map_append, List.map_map, List.map_map, ← hk]
    have p1 : ks8 = (List.range 8).map ((fun m => win wbits (8 * m + i) 8) ∘ (· + 8)) := p1
    have p2 : ks8 = (List.range 8).map ((fun m => win wbits (8 * m + i) 8) ∘ (· + 16)) := p2
    rw [← p1, ← p2]
  have hb24 : ∀ k ∈ ks8 ++ ks8 ++ ks8, 0 ≤ k ∧ k < 256 := by
    rw [e24]
    intro k hk
    obtain ⟨m, _, rfl⟩ := List.mem_map.mp hk
    exact win_in hb _ 8
  have hl24 : (ks8 ++ ks8 ++ ks8).length = 24 := by rw [e24, List.length_map, List.length_range]
  have e : (encF (ks8 ++ ks8 ++ ks8)).out = (sx (ks8 ++ ks8 ++ ks8)).map signF := enc_gen 8 _ hl24 hb24 0 []
  rw [e, List.map_map]
  have e2 : (sx (ks8 ++ ks8 ++ ks8)).map (placeF ∘ signF) = sx (ks8 ++ ks8 ++ ks8) := by
    refine (List.map_congr_left fun v hv => ?_).trans (List.map_id _)
    have := sx_in 8 _ hl24 hb24 v hv
    exact place_sign this.1 this.2
  rw [e2, e24, sx_win wbits hb 8 i]
  unfold placesAt
  rw [show rangeKs 0 32 = (List.range (4 * 8)).map (fun (k : Nat) => (k : Int)) by decide +kernel, List.map_map]
  refine List.map_congr_left fun k _ => ?_
  show _ = winAt wins (Int.fmod (6 * (k : Int) + (i : Int)) 64)
  rw [winAt_win hw (by omega)]
  congr 1
/-! the lines of the law's walk -/
theorem cb_dropTo {G h : Heap} {L : Addr} {b : List (Addr × Obj)} (a : List (Addr × Obj)) (N : News G L h b) (hs : ∀ p ∈ a, p ∈ b) : News G L h a := cb_drop N hs
theorem News_er {G h : Heap} {L : Addr} {l : List (Addr × Obj)} (k : Nat) (N : News G L h l) : News G L h (l.eraseIdx k) := cb_drop N (fun p hp => List.mem_of_mem_eraseIdx hp)
noncomputable def rngO (a b : Int) (t u v : Tok) : Obj := { cls := .type "range", dict := none, data := .fields #[.int a t, .int b u, .int 1 v], slots := #[] }
theorem News_ltsize {G h : Heap} {L : Addr} {l : List (Addr × Obj)} (N : News G L h l) : ∀ p ∈ l, p.1 < h.objs.size := fun p hp => Heap.lt_size (N p hp).1
theorem News_rng {G h h' : Heap} {L r : Addr} {m : Str → Option Value} {l : List (Addr × Obj)} {a b : Int} {t u v : Tok} (F : Fr G L h m) (e : r = h.objs.size) (hr : IsRange h' r a b 1 t u v) (N : News G L h' l) : News G L h' ((r, rngO a b t u v) :: l) := by
  intro p hp
  rcases List.mem_cons.mp hp with rfl | hp
  · subst e
    exact ⟨hr, fun q => absurd F.ns.lt (q ▸ Nat.lt_irrefl _), next_is_new F⟩
  · exact N p hp
theorem with_fr {G h : Heap} {L : Addr} {m : Str → Option Value} {P : Prop} (F : Fr G L h m) (k : ∀ m0, m0 = m → Fr G L h m0 → P) : P := k m rfl F
theorem with_news {G h : Heap} {L : Addr} {q : Addr × Obj} {l : List (Addr × Obj)} {P : Prop} (N : News G L h (q :: l)) (k : ∀ l0, l0 = l → News G L h (q :: l0) → P) : P := k l rfl N
theorem drop2 {G h : Heap} {L : Addr} {b a : List (Addr × Obj)} {q1 q2 : Array Value} {P : Prop} (N : News G L h b) (hs : ∀ p ∈ a ++ [(150, tabObj q1), (183, tabObj q2)], p ∈ b) (k : ∀ p1 p2, News G L h (a ++ [(150, tabObj p1), (183, tabObj p2)]) → P) : P := k q1 q2 (cb_drop N hs)
theorem foldQE {prog : Program} {w : World} {A : Around} {body : List Stmt} {env : Env} {Q : Flow → Shared → Prop} {E : Value → Shared → Prop} {s : Shared} (hE : PassesOwn (model prog w) A env E) (h : ∀ Q' E', LeQ Q Q' → PassesOwn (model prog w) A env E' → wpAny (model prog w) A (execs body env) Q' E' s) : wpAny (model prog w) A (execs body env) Q E s := h Q E (fun _ _ x => x) hE
local macro_rules | `(tactic| walk_at "subscriptTail Name Slice ref ref") => `(tactic| refine hold ?_)
local macro_rules | `(tactic| walk_at "subscriptTail List Slice ref ref") => `(tactic| refine hold ?_)
local macro_rules | `(tactic| walk_at "call builtin:iter") => `(tactic| refine hold ?_)
local macro_rules | `(tactic| walk_at "compareOp Is int ref") => `(tactic| refine wpAny_is_other (by rfl) (by intro x; cases x) ?_)
local macro_rules | `(tactic| walk_at "compareOp NotEq bytes bytes") => `(tactic| refine ne_bytes_self ?_)
local macro_rules | `(tactic| walk_at "InvPost2") => `(tactic| (dsimp only [InvPost2]))
local macro_rules | `(tactic| walk_at "InvEnd2") => `(tactic| refine hold ?_)
local macro_rules | `(tactic| walk_at "call type:range") => `(tactic| refine holdR (by with_reducible assumption) ?_)
local macro_rules | `(tactic| walk_at "exec Assign cons ListComp") => `(tactic| refine holdA (by with_reducible assumption) ?_)
local macro_rules | `(tactic| k_ne) => `(tactic| (refine neN ?_; (try dsimp only); first | with_reducible assumption | (refine Ne.symm ?_; with_reducible assumption) | (refine Nat.ne_of_lt ?_; with_reducible assumption) | (refine Nat.ne_of_gt ?_; with_reducible assumption)))
local macro_rules | `(tactic| walk_at "execs cons") => `(tactic| refine holdE (by with_reducible assumption) ?_)
local macro_rules | `(tactic| walk_at "compareOp Eq ref ref") => `(tactic| refine holdC (by with_reducible assumption) ?_)
local macro_rules | `(tactic| walk_at "isTrue UnaryOp") => `(tactic| refine holdU (by with_reducible assumption) ?_)
local macro_rules | `(tactic| walk_at "subscriptTail") => `(tactic| ((with_reducible show wpAny _ _ (subscriptTail _ _ (Value.bytes _ _) (Value.int _ _)) _ _ _); k_dflt (refine KBw.item_K (ks := S16) (by rfl) (by decide) (by omega) (by show _ < (16 : Int); omega) ?_); intro _ _ _ _))
local macro_rules | `(tactic| walk_at "call ref") => `(tactic| ((with_reducible show wpAny _ _ (call (Value.ref 141) _) _ _ _); refine holdD (by with_reducible assumption) ?_))
local macro_rules | `(tactic| walk_at "call type:list") => `(tactic| refine holdL (by with_reducible assumption) ?_)
local macro_rules | `(tactic| walk_at "call builtin:isinstance") => `(tactic| ((with_reducible show wpAny _ _ (call _ [Value.bytes _ _, _]) _ _ _); k_dflt (refine' kia_one kitx_bytes ?X trivial ?ee ?nb ?_; (case X => exact Frag.In.keeps (by with_reducible assumption) (Fr.keep (by with_reducible assumption))); (case ee => kit_is); (case nb => kit_nb); k_whole; intro _)))
local macro_rules | `(tactic| passes_own) => `(tactic| with_reducible assumption)
set_option rowWalk.seconds 0 in
set_option maxRecDepth 100000 in
set_option maxHeartbeats 0 in
theorem law_holds : PySem.Challenge.rw_kq0047_01.Holds := by
  refine hd ?_
  clear law_holds
  k_go0
  refine foldQE (by passes_own) ?_
  intro qk ek hqk hek
  k_steps
  -- @snap1
  w_top off
  rename Fr _ _ _ _ => F1
  rename News _ _ _ _ => N1
  rename IntsAre _ _ => hI
  rename_i w s₀ s₁ mg mb _ _ fa _ _ _ _ _ _ _ _ _ _ _ _ ns _ _ _ _ _ _ _ l vs _ _ _ _ _ _ hlen _ _ h₁ tk c1 c2 c3 c4 c5 c6 c7 d1 d2 d3 d4 d5 d6 d7 X0 X T K cH1 lt0
  generalize ghostOf s₁.heap [(154, 150), (185, 183)] = G at *
  generalize s₁.heap.objs.size = L at *
  have d1 : c1.data = Data.cell none := d1
  have d2 : c2.data = Data.cell none := d2
  have d3 : c3.data = Data.cell none := d3
  have d4 : c4.data = Data.cell none := d4
  have d5 : c5.data = Data.cell none := d5
  have d6 : c6.data = Data.cell none := d6
  have d7 : c7.data = Data.cell none := d7
  have F1 : Fr G L h₁ (fun y => if y = (Str.ofString "script") then some (.ref l) else none) := F1
  unfold Held
  k_dflt (refine' kmk_slice_ints (ns := ns) (ms := ns.take 8) (c := (ns.take 8).length) F1 N1 ?l ?p ?q hI ?m rfl ?_ ?s ?t ?z; (case l => kmk_list); (case p => kmk_part); (case q => kmk_part); (case m => exact kmk_upto hI (by decide)))
  case z => exact kmk_sz hI (Nat.le_trans (by omega) (show 63 ≤ sizeLine by rw [sizeLine_eq]; decide))
  case t => kmk_pure
  case s => with_unfolding_all rfl
  intro D1 ws1 h2 F2 N2 lD1 hI2 hC2 hL2
  k_lt lD1
  k_steps
  rename_i D2 n2 _ lD2 D3 h4 F4 N4 lD3
  unfold Held
  have hL3 : IntsAre [.int 45 (tk + 1), .int 7 (tk + 1 + 1), .int 20 (tk + 1 + 1 + 1)] [45, 7, 20] := .cons 45 _ (.cons 7 _ (.cons 20 _ .nil))
  k_dflt (refine' kmk_slice_ints (ns := [45, 7, 20]) (ms := ([45, 7, 20] : List Int).drop ns.length) (c := (([45, 7, 20] : List Int).drop ns.length).length) F4 N4 ?Zl ?Zp ?Zq hL3 ?Zm rfl ?_ ?Zs ?Zt ?Zz; (case Zl => kmk_list); (case Zp => kmk_part); (case Zq => kmk_part); (case Zm => exact kmk_from hL3 (Int.natCast_nonneg _)))
  case Zz => exact kmk_sz hL3 (show 3 ≤ sizeLine by rw [sizeLine_eq]; decide)
  case Zt => kmk_pure
  case Zs => with_unfolding_all rfl
  intro D4 ws4 h5 F5 N5 lD4 hI5 hC5 hL5
  k_lt lD4
  have N5 : News G L h5 [(D4, listOf ws4.toArray 0), (D2, listOf ws1.toArray n2), (L + 1 + 1 + 1 + 1 + 1 + 1 + 1, c1), (L + 1 + 1 + 1 + 1 + 1 + 1, c2), (L + 1 + 1 + 1 + 1 + 1, c3), (L + 1 + 1 + 1 + 1, c4), (L + 1 + 1 + 1, c5), (L + 1 + 1, c6), (L + 1, c7), (150, tabObj #[]), (183, tabObj #[])] := cb_drop N5 (by kcf_all)
  k_steps
  rename_i D5 ws5 _ hI6 lD5 _ tk5 D6 _ lD6 _ oB F6 N6 dB
  unfold Held
  -- @snap2
  rename_i h7 tk0
  have N6 := cb_dropTo [(D6, listOf #[] 0), (D5, listOf ws5.toArray 0), (L + 1 + 1 + 1 + 1 + 1 + 1 + 1, c1), (L + 1 + 1 + 1 + 1 + 1 + 1, c2), (L + 1 + 1 + 1 + 1 + 1, c3), (L + 1 + 1 + 1 + 1, c4), (L + 1 + 1 + 1, c5), (L + 1 + 1, c6), (L + 1, oB), (150, tabObj #[]), (183, tabObj #[])] N6 (by kcf_all)
  k_dflt (refine' exits_ok ?k1 ?k2 ?k3 ?k4 ?k5 ?kK ?kd ?ku (ns := ns.take 8 ++ [45, 7, 20].drop ns.length) ?Z1 ?Z2 ?Z3 ?_; (case k1 => k_asm); (case k2 => k_asm); (case k3 => k_asm); (case k4 => k_asm); (case k5 => k_asm); (case kK => first | exact rfl | assumption); (case kd => ktr_room); (case ku => ktr_units))
  case Z1 => exact .tail _ (.head _)
  case Z2 => exact hI6
  case Z3 =>
    rw [List.length_append, List.length_take, List.length_drop]
    show 1 ≤ min 8 ns.length + (3 - ns.length) ∧ min 8 ns.length + (3 - ns.length) ≤ 100
    omega
  intro De us ce ex h8 tk8 F8 N8 lDe hIe hEx
  k_lt lDe
  have flagD : FlagD := trivial
  k_steps
  -- @snap3
  rename_i gS LS _ _ FGs Bs Xs Ts lLS o2S' o2S o3S d1S d2S d3S lz _ lz1 DS _ iS _ _ _ _ _ lDS _ oSeen dSeen fS cS ocS vsS tS ctS dcS _ _ dA dB' lC lFn _ _ _ FLw NLw _ _ hR tkR _ _ _ hRng FR NR keepR
  clear flagD
  have d2S : o2S.data = .cell (some (.ref D6)) := d2S
  have d3S : o3S.data = .cell (some (.ref De)) := d3S
  have NR := News_er 3 (News_er 9 NR)
  dsimp only [List.eraseIdx] at NR
  have NR := News_rng FLw rfl hRng NR
  have lr := News_ltsize NLw
  k_lt lr
  clear FGs Bs Xs Ts FLw NLw hRng
  unfold Held
  k_steps
  rename Fr _ _ _ _ => FQ
  rename News _ _ _ _ => NQ
  unfold Held
  k_dflt (refine iter_range_new FQ NQ (NQ _ (.head _)).1 (by decide) (n := 64) (by rfl) ?_)
  intro I hI1 FI NI lI
  have lI2 := lI
  k_lt lI2
  k_steps
  -- @snap4
  rename Fr _ _ _ _ => FV
  rename News _ _ _ _ => NV
  unfold Held
  refine For_invVF FV (by rfl) (by rfl) ?_
  refine ld FV (by rfl) ?_
  refine with_fr FV (fun m0 hm0 FV => ?_)
  refine with_news NV (fun n0 hn0 NV => ?_)
  have offI : ∀ p ∈ n0, p.1 ≠ I := by rw [hn0]; exact ne_ltAll lI
  refine loop_rangeI (n := 64) (RedJ ex n0 DS D6 m0) rfl FV NV offI ?_ ?_ ?_
  · refine ⟨_, 0, [], 0, tkR, ?_, iS, .nil, ?_⟩
    · rw [hn0]
      rfl
    · intro z hz
      rw [hm0]
      by_cases h : z = (Str.ofString "value")
      · subst h; rfl
      · rw [if_neg h]
  · rintro i t m₁ nx h tk own hi hadr hoff ⟨uS, cS', bs, cB, tv, rfl, hus, hbs, hm⟩ F2 N2
    refine foldQ ?_
    intro qI hqI
    -- @snap5a
    obtain ⟨wlo, whi, wsl, wbl, wb⟩ := walk_ok hEx.b01 i
    have exl := hEx.len
    rw [map_none hm] at F2
    subst hm0
    subst hn0
    clear FV NV
    dsimp only [List.set, List.cons_append, List.nil_append] at N2
    change Fr _ _ _ _ at F2
    k_steps
    · unfold Held
      rename Fr _ _ _ _ => F9
      rename News _ _ _ _ => N9
      rename IntsAre (List.set _ _ _) _ => hus9
      exact red_end hus9 hbs (if_pos (by assumption)).symm rfl F9 N9 (by
        intro z hz
        by_cases h1 : z = (Str.ofString "value")
        · rw [if_pos h1, if_pos h1]
        · rw [if_neg h1, if_neg hz, if_neg h1, if_neg h1, if_neg h1]) rfl
    · unfold Held
      rename Fr _ _ _ _ => F9
      rename News _ _ _ _ => N9
      rename IntsAre (List.set _ _ _) _ => hus9
      exact red_end hus9 hbs (if_neg (by assumption)).symm rfl F9 N9 (by
        intro z hz
        by_cases h1 : z = (Str.ofString "value")
        · rw [if_pos h1, if_pos h1]
        · rw [if_neg h1, if_neg hz, if_neg h1, if_neg h1, if_neg h1]) rfl
  · rintro m₁ nx h tk ⟨uS, cS', bs, cB, tv, rfl, hus, hbs, hm⟩ F2 N2
    -- @snap5b
    obtain ⟨-, -, wsl, wbl, wb⟩ := walk_ok hEx.b01 64
    have hhome := walk_home hEx
    have exl := hEx.len
    rw [← done_none hm] at F2
    subst hm0
    subst hn0
    clear FV NV
    dsimp only [List.set] at N2
    change Fr _ _ _ _ at F2
    rw [hhome] at F2
    clear hhome
    obtain ⟨wbits, hwbits⟩ : ∃ x, x = (walkF ex 64).bits := ⟨_, rfl⟩
    obtain ⟨wseen, hwseen⟩ : ∃ x, x = (walkF ex 64).seen := ⟨_, rfl⟩
    rw [← hwbits] at hbs wbl wb
    rw [← hwseen] at hus wsl
    k_steps
    -- @snap6
    rename Fr _ _ _ _ => FQ
    rename News _ _ _ _ => NQ
    unfold Held
    k_dflt (refine iter_list_new FQ NQ (l := D6) (its := bs.toArray) (k := cB) (by k_mem) ?_)
    intro I2 hI2 FI NI lI3
    have lI4 := lI3
    k_lt lI4
    k_steps
    rename Fr _ _ _ _ => FV2
    rename News _ _ _ _ => NV2
    unfold Held
    refine For_invVF FV2 (by rfl) (by rfl) ?_
    refine ld FV2 (by rfl) ?_
    refine with_fr FV2 (fun m0 hm0 FV2 => ?_)
    refine with_news NV2 (fun n0 hn0 NV2 => ?_)
    have offI2 : ∀ p ∈ n0, p.1 ≠ I2 := by rw [hn0]; exact ne_ltAll lI3
    have hmem : (D6, listOf bs.toArray cB) ∈ n0 := by rw [hn0]; k_mem
    refine loop_listI (NumJ wbits n0 m0) rfl hmem hbs FV2 NV2 offI2 ?_ ?_ ?_
    · rw [hm0]; exact num_start
    · rintro i b t m₁ nx h tk own hb hadr hoff hmm ⟨rfl, tv, hm⟩ F2 N2
      refine foldQ ?_
      intro qI hqI
      -- @snap7a
      rw [map_none hm] at F2
      subst hm0
      subst hn0
      clear FV2 NV2
      dsimp only [List.cons_append, List.nil_append] at N2
      change Fr _ _ _ _ at F2
      k_steps
      unfold Held
      rename Fr _ _ _ _ => F9
      rename News _ _ _ _ => N9
      exact num_end hmem hb rfl F9 N9 (by
          intro z hz
          by_cases h1 : z = (Str.ofString "value")
          · rw [if_pos h1, if_pos h1]
          · rw [if_neg h1, if_neg hz, if_neg h1, if_neg h1, if_neg h1]) rfl
    · rintro m₁ nx h tk hmm ⟨rfl, tv, hm⟩ F2 N2
      -- @snap7b
      rw [← done_none hm] at F2
      rw [List.take_length] at F2
      subst hm0
      subst hn0
      clear FV2 NV2
      change Fr _ _ _ _ at F2
      k_steps
      -- @snap8
      rename Fr _ _ _ _ => F8
      rename News _ _ _ _ => N8
      clear F2 N2
      -- @snap9
      rename News _ _ _ _ => N8
      refine' drop2 (a := [(D6, listOf bs.toArray cB), (L + 1 + 1 + 1 + 1 + 1 + 1 + 1, c1), (L + 1 + 1 + 1 + 1 + 1 + 1, c2), (L + 1 + 1 + 1 + 1 + 1, c3), (L + 1 + 1 + 1 + 1, c4), (L + 1 + 1 + 1, c5), (L + 1 + 1, c6), (L + 1, oB)]) N8 ?hs ?_
      case hs => kcf_all
      intro p1 p2 N9
      dsimp only [List.cons_append, List.nil_append] at N9
      clear N8
      unfold Held
      refine LCg.ListComp_U (F₀ := F8) (by with_unfolding_all rfl) (by decide) (by rfl) (by decide) (by rfl) ?_
      k_steps
      unfold Held
      refine LCg.CompSrc.range (n := 64) (by rfl) (by k_asm) (by k_asm) (by assumption) (by decide) (by decide) (by decide) ?_
      intro g'
      refine kcf_range (fun p => windowN wbits p 6) (fun k' t' I' oI' C' oC' D' m' ys' h' tk' E' hlo' hhi' hC' hx' F' N' off' ne' hMark' => ?_) ?_
      · k_steps
        unfold Held
        k_dflt (refine' window_ok ?k1 ?k2 ?k3 ?k4 ?k5 ?kK ?kd ?ku (ns := wbits) (vs := bs) (n := cB) ?Z1 hbs ?Z3 ?Z4 ?Z5 ?_; (case k1 => k_asm); (case k2 => k_asm); (case k3 => k_asm); (case k4 => k_asm); (case k5 => k_asm); (case kK => first | exact rfl | assumption); (case kd => ktr_room); (case ku => ktr_units))
        case Z1 => k_mem
        case Z3 => exact wbl
        case Z4 => exact bits_getD wb
        case Z5 => exact ⟨hlo', by omega⟩
        intro t9 h9 tk9 F9 N9
        k_steps
        unfold Held
        exact LCg.CompEnd.intro F9 N9 _ (fun _ h => h) off' trivial ⟨rfl, _, rfl⟩
      · unfold KPfDone
        intro ys hys D h3 tk3 F3 N3 off3
        -- @snap10
        obtain ⟨wins, hwins⟩ : ∃ x, x = (rangeKs 0 64).map (fun p => windowN wbits p 6) := ⟨_, rfl⟩
        rw [← hwins] at hys
        simp only [LCg.Off1, and_true] at off3
        have nD1 := off3.1
        have nD2 := off3.2.1
        have nD3 := off3.2.2.1
        have nD4 := off3.2.2.2.1
        have nD5 := off3.2.2.2.2.1
        have nD6 := off3.2.2.2.2.2.1
        have nD7 := off3.2.2.2.2.2.2.1
        have nD8 := off3.2.2.2.2.2.2.2.1
        have nD9 := off3.2.2.2.2.2.2.2.2.1
        have nD10 := off3.2.2.2.2.2.2.2.2.2
        dsimp only
        k_steps
        -- @snap11
        rename Fr _ _ _ _ => F11
        rename News _ _ _ _ => N11
        rename_i oW dW _ S _ lS _
        have hlw : wins.length = 64 := by rw [hwins, List.length_map, rangeKs_length]
        unfold Held
        refine wpAny_For ?_ (by intro _; rfl)
        k_steps
        rename Fr _ _ _ _ => F12
        rename News _ _ _ _ => N12
        rename IsRange _ _ _ _ _ _ _ _ => hR12
        have N12 := cb_dropTo [(S, listOf (List.toArray []) 0), (D, listOf ys.toArray ys.length), (L + 1 + 1 + 1 + 1 + 1 + 1 + 1, c1), (L + 1 + 1 + 1 + 1 + 1 + 1, c2), (L + 1 + 1 + 1 + 1 + 1, c3), (L + 1 + 1 + 1 + 1, c4), (L + 1 + 1 + 1, c5), (L + 1 + 1, oW), (L + 1, oB), (150, tabObj p1), (183, tabObj p2)] N12 (by kcf_all)
        refine with_fr F12 (fun m0 hm0 F12 => ?_)
        refine for_rangeC (n := 2) (Loop1 wins S D L (listOf ys.toArray ys.length) c1 c2 c3 oW oB p1 p2 m0) (by rfl) hR12 (by decide) (by rfl) F12 N12 ⟨[], 0, c4, c5, none, none, rfl, .nil, d4, d5, fun _ _ _ _ => rfl⟩ ?_ ?_
        · rintro i t m₁ nx h tk own hi hadr hoff ⟨us, cS1, o4, o3, v4, v3, rfl, hus, d4', d3', hm⟩ F13 N13
          refine foldQ2 ?_
          intro qI hqI
          -- @snap12a
          rw [map3 hm] at F13
          subst hm0
          dsimp only [List.cons_append, List.nil_append] at N13
          k_steps
          unfold Held
          k_dflt (refine' octets_ok ?k1 ?k2 ?k3 ?k4 ?k5 ?kK ?kd ?ku ?Z1 ?Z2 ?_; (case k1 => k_asm); (case k2 => k_asm); (case k3 => k_asm); (case k4 => k_asm); (case k5 => k_asm); (case kK => first | exact rfl | assumption); (case kd => ktr_room); (case ku => ktr_units))
          case Z1 => exact num_range wbl wb
          case Z2 => exact ⟨by omega, by omega⟩
          intro bo to h14 tk14 F14 N14 hbo
          obtain ⟨ks8, hks8⟩ : ∃ x, x = (rangeKs 0 8).map (octetF (turnF (numF wbits) (i : Int))) := ⟨_, rfl⟩
          rw [← hks8] at hbo
          have hl8 : ks8.length = 8 := by rw [hks8]; rfl
          dsimp only
          k_steps
          -- @snap13
          rename KBw.bInts _ = ks8 ++ ks8 ++ ks8 => hb3
          have hl24 : (ks8 ++ ks8 ++ ks8).length = 24 := by rw [List.length_append, List.length_append, hl8]
          unfold Held
          k_dflt (refine' encode_ok ?k1 ?k2 ?k3 ?k4 ?k5 ?kK ?kd ?ku hb3 ?Z1 ?Z2 ?_; (case k1 => k_asm); (case k2 => k_asm); (case k3 => k_asm); (case k4 => k_asm); (case k5 => k_asm); (case kK => first | exact rfl | assumption); (case kd => ktr_room); (case ku => ktr_units))
          case Z1 => omega
          case Z2 => exact enc_lb hl24
          intro bw tw h15 tk15 F15 N15 hbw
          have hlsg := enc_len hl24
          obtain ⟨sg, hsg⟩ : ∃ x, x = (encF (ks8 ++ ks8 ++ ks8)).out := ⟨_, rfl⟩
          rw [← hsg] at hbw hlsg
          dsimp only
          k_steps
          -- @snap14
          rename Fr _ _ _ _ => F15
          rename News _ _ _ _ => N15
          rename _ = Data.cell (some (Value.bytes bw tw)) => dWr
          unfold Held
          k_dflt (refine' places_ok ?k1 ?k2 ?k3 ?k4 ?k5 ?kK ?kd ?ku hbw ?Z1 ?_; (case k1 => k_asm); (case k2 => k_asm); (case k3 => k_asm); (case k4 => k_asm); (case k5 => k_asm); (case kK => first | exact rfl | assumption); (case kd => ktr_room); (case ku => ktr_units))
          case Z1 => omega
          intro P up cp h16 tk16 F16 N16 lP hup
          k_lt lP
          obtain ⟨pl, hpl⟩ : ∃ x, x = sg.map placeF := ⟨_, rfl⟩
          rw [← hpl] at hup
          have hlpl : pl.length = 32 := by rw [hpl, List.length_map, hlsg]
          dsimp only
          k_steps
          -- @snap15
          rename Fr _ _ _ _ => F17
          rename News _ _ _ _ => N17
          rename _ = Data.cell (some (Value.int (i : Int) _)) => dL
          unfold Held
          refine LCg.ListComp_U (F₀ := F17) (by with_unfolding_all rfl) (by decide) (by rfl) (by decide) (by rfl) ?_
          k_steps
          unfold Held
          refine LCg.CompSrc.range (n := 32) (by rfl) (by k_asm) (by k_asm) (by assumption) (by decide) (by decide) (by decide) ?_
          intro g'
          refine kcf_range (fun k => winAt wins (Int.fmod (6 * k + (i : Int)) 64)) (fun k' t' I' oI' C' oC' D' m' ys' h' tk' E' hlo' hhi' hC' hx' F' N' off' ne' hMark' => ?_) ?_
          · have hq1 := fmod_lo' (x := 6 * k' + (i : Int)) (n := 64) (by decide)
            have hq2 := fmod_hi' (x := 6 * k' + (i : Int)) (n := 64) (by decide)
            k_steps
            unfold Held
            exact LCg.CompEnd.intro F' N' _ (fun _ h => h) off' trivial ⟨rfl, _, rfl⟩
          · unfold KPfDone
            intro yq hyq DQ h3q tk3q F3q N3q off3q
            simp only [LCg.Off1, and_true] at off3q
            have nQ1 := off3q.1
            have nQ2 := off3q.2.1
            have nQ3 := off3q.2.2.1
            have nQ4 := off3q.2.2.2.1
            have nQ5 := off3q.2.2.2.2.1
            have nQ6 := off3q.2.2.2.2.2.1
            have nQ7 := off3q.2.2.2.2.2.2.1
            have nQ8 := off3q.2.2.2.2.2.2.2.1
            have nQ9 := off3q.2.2.2.2.2.2.2.2.1
            have nQ10 := off3q.2.2.2.2.2.2.2.2.2.1
            have nQ11 := off3q.2.2.2.2.2.2.2.2.2.2.1
            have nQ12 := off3q.2.2.2.2.2.2.2.2.2.2.2
            have hyq : IntsAre yq (placesAt wins (i : Int)) := hyq
            dsimp only
            -- @snap16
            have hE := enc_places (i := i) wbl wb hwins hks8 hi
            rw [← hsg, ← hpl] at hE
            obtain ⟨pq, hpq⟩ : ∃ x, x = placesAt wins (i : Int) := ⟨_, rfl⟩
            rw [← hpq] at hyq hE
            subst hE
            k_steps
            -- @snap17
            obtain ⟨hd1, hd2, hd3⟩ := enc_dec hl24 (app3_range (by rw [hks8]; exact oct_range))
            rw [← hsg] at hd1 hd2 hd3
            unfold Held
            k_dflt (refine' decode_ok ?k1 ?k2 ?k3 ?k4 ?k5 ?kK ?kd ?ku hbw ?Z1 hd1 hd2 ?_; (case k1 => k_asm); (case k2 => k_asm); (case k3 => k_asm); (case k4 => k_asm); (case k5 => k_asm); (case kK => first | exact rfl | assumption); (case kd => ktr_room); (case ku => ktr_units))
            case Z1 => omega
            intro br tr18 h18 tk18 F18 N18 hbr
            rw [hd3] at hbr
            dsimp only
            k_steps
            -- @snap18
            refine bytes_mul3 hbo hl8 ?_
            intro cb tcb kcb hcb
            obtain rfl : br = cb := bInts_inj (hbr.trans hcb.symm)
            dsimp only
            k_steps
            -- @snap19
            rename Fr _ _ _ _ => F19
            rename News _ _ _ _ => N19
            have lus : us.length = 32 * i := by rw [hus.length, acc_len]
            have lup : up.length = 32 := by rw [hup.length, hlpl]
            k_dflt (refine' kl_extend (D := S) (b := P) (its := us.toArray) (its2 := up.toArray) (l := us ++ up) F19 N19 ?Zb (by simp) ?Zne ?ZU ?Zd ?Zz ?Zy ?_; (case Zb => k_mem); (case ZU => k_upd))
            case Zne => show up.length ≠ 0; omega
            case Zd => rw [ltl (by rw [List.size_toArray, List.size_toArray]; omega)]; simp
            case Zz => rw [sizeLine_eq]; show us.length ≤ _; omega
            case Zy => rw [sizeLine_eq, List.size_toArray, List.size_toArray]; omega
            intro h20 F20 N20
            (try dsimp only [List.nil_append, List.cons_append] at N20)
            (try dsimp only)
            k_steps
            unfold Held
            exact loop1_end hus hup hpq dWr dL F20 N20 (by kcf_all) (by intro p hp; repeat (first | exact hp | apply List.Mem.tail)) (by intro z h1 h2 h3; simp only [h1, h2, h3, if_false]) rfl
        · rintro m₁ nx h tk ⟨us, cS1, o4, o3, v4, v3, rfl, hus, d4', d3', hm⟩ F13 N13
          -- @snap12b
          rw [map3 hm] at F13
          subst hm0
          have lus : us.length = 64 := by rw [hus.length, acc_len]
          obtain ⟨sgs, hsgs⟩ : ∃ x, x = signsAcc wins 2 := ⟨_, rfl⟩
          rw [← hsgs] at hus
          k_steps
          -- @snap21
          change Fr G L _ _ at F13
          change News G L _ _ at N13
          refine sorted64 F13 N13 (.head _) hus (by rw [hsgs, acc_len]) (by rw [hsgs]; exact signs_nodup hEx hwbits hwins) ?_
          intro Ds vs5 ns5 c5' h22 F22 N22 lDs hi5 hp5 ho5
          k_lt lDs
          have hp6 : ns5.Perm (signsAcc wins 2) := by rw [← hsgs]; exact hp5
          have e5 : ns5 = rangeKs 0 64 := signs_sorted hEx hwbits hwins hp6 ho5
          obtain ⟨r64, hr64⟩ : ∃ x, x = rangeKs 0 64 := ⟨_, rfl⟩
          rw [← hr64] at e5
          have hl5 : ns5.length = 64 := by rw [e5, hr64, rangeKs_length]
          subst e5
          clear hp5 hp6 ho5
          dsimp only
          have flag : FlagL := trivial
          k_steps
          clear flag
          unfold Held
          rename Fr _ _ _ _ => F22
          rename News _ _ _ _ => N22
          rename IsRange _ _ _ _ _ _ _ _ => R22
          refine kll_range (by rfl) F22 N22 R22 (by decide) (n := 64) (by decide) (by decide) ?_
          intro Dr vs6 c6' h23 tk23 F23 N23 lDr hi6
          k_lt lDr
          rw [← hr64] at hi6
          dsimp only
          -- @snap22
          k_steps
          -- @snap23
          rename_i o5x d5x l0 _ lT0 T0 _ iT0 _ _ _ _ _ lT _ o6x F24 N24 d6x
          obtain ⟨t5, d5y⟩ : ∃ t5, o5x.data = Data.cell (some (Value.bytes #[48, 49, 50, 51, 52, 53, 54, 55, 56, 57, 65, 66, 67, 68, 69, 70] t5)) := ⟨_, d5x⟩
          clear d5x
          obtain ⟨ut0, hut0⟩ : ∃ x, x = (List.replicate (Int.toNat 16) [Value.int 0 (tk23 + 1)]).flatten := ⟨_, rfl⟩
          rw [← hut0] at iT0 N24
          obtain ⟨q1, q2, q3, q4, q5, q6, q7, q8, _⟩ := lT.2.2.2.2
          have iT0 : IntsAre ut0 (totAt wins 0) := iT0
          unfold Held
          refine wpAny_For ?_ (by intro _; rfl)
          have flag : FlagR := trivial
          k_steps
          clear flag
          unfold Held
          refine wpAny_with_toks (n := 1) (by exact Nat.succ_le_succ (Nat.zero_le _)) ?_
          k_steps
          rename 1 ≤ Shared.toks _ => hT0
          rename Fr _ _ _ _ => F25
          rename News _ _ _ _ => N25
          rename IsRange _ _ _ _ _ _ _ _ => R25
          have N25 := cb_dropTo [(T0, listOf ut0.toArray 0), (D, listOf ys.toArray ys.length), (L + 1 + 1 + 1 + 1 + 1 + 1 + 1, c1), (L + 1 + 1 + 1 + 1 + 1 + 1, o6x), (L + 1 + 1 + 1 + 1 + 1, o5x), (L + 1 + 1 + 1 + 1, o4), (L + 1 + 1 + 1, o3), (L + 1 + 1, oW), (L + 1, oB), (150, tabObj p1), (183, tabObj p2)] N25 (by kcf_all)
          refine with_fr F25 (fun m0 hm0 F25 => ?_)
          refine for_rangeD (n := 4) (Loop2 wins D L ys o5x oW oB p1 p2 m0) 1 hT0 (by rfl) R25 (by decide) (by rfl) F25 N25 ⟨T0, ut0, 0, c1, o6x, o4, o3, none, v4, v3, rfl, ⟨Nat.ne_of_lt q1, Nat.ne_of_lt q2, Nat.ne_of_lt q3, Nat.ne_of_lt q4, Nat.ne_of_lt q5, Nat.ne_of_lt q6, Nat.ne_of_lt q7, Nat.ne_of_lt q8⟩, iT0, d1, d6x, d4', d3', fun _ _ => rfl⟩ (loop2_nf d5y dW dB) ?_ ?_
          · rintro i t mi nx h tk own hi hTk hoff ⟨T, ut, cT, o7', o6', o4', o3', v7', v4'', v3'', rfl, hDT', iT, d7', d6', d4'', d3'', hm'⟩ F26 N26
            refine foldQ2 ?_
            intro qI hqI
            clear F25 N25
            -- @snap24a
            repeat (obtain ⟨_, hDT'⟩ := hDT')
            repeat (obtain ⟨_, off3⟩ := off3)
            rw [map1 hm'] at F26
            subst hm0
            dsimp only [List.cons_append, List.nil_append] at N26
            change Fr G L _ _ at F26
            change News G L _ _ at N26
            refine wpAny_with_toks (n := 1) hTk ?_
            have flag : FlagE := trivial
            k_steps
            clear flag
            rename 1 ≤ Shared.toks _ => hT1
            unfold Held
            refine toks_gen (by first | exact hT1 | exact Nat.le_succ_of_le hT1 | exact Nat.le_succ_of_le (Nat.le_succ_of_le hT1)) ?_
            clear hT1
            intro tkn hT1
            k_steps
            unfold Held
            refine wpAny_with_toks (n := 1) (by first | exact hT1 | exact Nat.le_succ_of_le hT1 | exact Nat.le_succ_of_le (Nat.le_succ_of_le hT1)) ?_
            refine hold ?_
            unfold Held
            k_dflt (refine' octets_ok ?k1 ?k2 ?k3 ?k4 ?k5 ?kK ?kd ?ku ?Z1 ?Z2 ?_; (case k1 => k_asm); (case k2 => k_asm); (case k3 => k_asm); (case k4 => k_asm); (case k5 => k_asm); (case kK => first | exact rfl | assumption); (case kd => ktr_room); (case ku => ktr_units))
            case Z1 => exact num_range wbl wb
            case Z2 => exact ⟨by omega, by omega⟩
            intro bo to h27 tk27 F27 N27 hbo hT1
            clear hTk
            have hT1 : 1 ≤ tk27 := hT1
            obtain ⟨ks8, hks8⟩ : ∃ x, x = (rangeKs 0 8).map (octetF (turnF (numF wbits) (i : Int))) := ⟨_, rfl⟩
            rw [← hks8] at hbo
            have hl8 : ks8.length = 8 := by rw [hks8]; rfl
            dsimp only
            k_steps
            -- @snap25
            unfold Held
            refine wpAny_with_toks (n := 1) (by first | exact hT1 | exact Nat.le_succ_of_le hT1 | exact Nat.le_succ_of_le (Nat.le_succ_of_le hT1)) ?_
            refine hold ?_
            unfold Held
            k_dflt (refine' b16_ok ?k1 ?k2 ?k3 ?k4 ?k5 ?kK ?kd ?ku hbo hl8 ?_; (case k1 => k_asm); (case k2 => k_asm); (case k3 => k_asm); (case k4 => k_asm); (case k5 => k_asm); (case kK => first | exact rfl | assumption); (case kd => ktr_room); (case ku => ktr_units))
            intro bw tw h28 tk28 F28 N28 hbw hT1
            have hT1 : 1 ≤ tk28 := hT1
            obtain ⟨hx, hhx⟩ : ∃ x, x = hexF ks8 := ⟨_, rfl⟩
            rw [← hhx] at hbw
            dsimp only
            refine wpAny_with_toks (n := 1) (by first | exact hT1 | exact Nat.le_succ_of_le hT1 | exact Nat.le_succ_of_le (Nat.le_succ_of_le hT1)) ?_
            have flag : FlagE := trivial
            k_steps
            clear flag hT1
            rename 1 ≤ Shared.toks _ => hT1
            unfold Held
            refine toks_gen (by first | exact hT1 | exact Nat.le_succ_of_le hT1 | exact Nat.le_succ_of_le (Nat.le_succ_of_le hT1)) ?_
            clear hT1
            intro tkn2 hT1
            have flag : FlagA := trivial
            k_steps
            clear flag
            unfold Held
            refine wpAny_with_toks (n := 1) (by first | exact hT1 | exact Nat.le_succ_of_le hT1 | exact Nat.le_succ_of_le (Nat.le_succ_of_le hT1)) ?_
            k_steps
            -- @snap26
            rename Fr _ _ _ _ => F29
            rename News _ _ _ _ => N29
            rename _ = Data.cell (some (Value.int (i : Int) _)) => dL
            clear hT1
            unfold Held
            refine LCg.CompSrc.range (n := 16) (by rfl) (by k_asm) (by k_asm) (by assumption) (by decide) (by decide) (by decide) ?_
            intro g'
            refine kcf_range (fun k => Int.fdiv (winAt wins (Int.fmod (4 * k + (i : Int)) 64)) 4) (fun k' t' I' oI' C' oC' D' m' ys' h' tk' E' hlo' hhi' hC' hx' F' N' off' ne' hMark' => ?_) ?_
            · have hq1 := fmod_lo' (x := 4 * k' + (i : Int)) (n := 64) (by decide)
              have hq2 := fmod_hi' (x := 4 * k' + (i : Int)) (n := 64) (by decide)
              k_steps
              unfold Held
              exact LCg.CompEnd.intro F' N' _ (fun _ h => h) off' trivial ⟨rfl, _, rfl⟩
            · unfold KPfDone
              intro yf hyf Df h3f tk3f F3f N3f off3f hT1
              have hT1 : 1 ≤ tk3f := hT1
              simp only [LCg.Off1, and_true] at off3f
              repeat (obtain ⟨_, off3f⟩ := off3f)
              obtain ⟨fs, hfs⟩ : ∃ x, x = foursAt wins (i : Int) := ⟨_, rfl⟩
              have hyf : IntsAre yf (foursAt wins (i : Int)) := hyf
              rw [← hfs] at hyf
              have hfl : fs.length = 16 := by rw [hfs, fours_len]
              have hfin : ∀ x ∈ fs, 0 ≤ x ∧ x < 16 := by rw [hfs]; exact fours_in wbl wb hwins
              have hxf := hex_fours (i := i) wbl wb hwins hks8 hi
              rw [← hhx, ← hfs] at hxf
              dsimp only
              have flag : FlagU := trivial
              k_steps
              clear flag
              unfold Held
              refine wpAny_with_toks (n := 1) (by first | exact hT1 | exact Nat.le_succ_of_le hT1 | exact Nat.le_succ_of_le (Nat.le_succ_of_le hT1)) ?_
              clear hT1
              k_steps
              rename 1 ≤ Shared.toks _ => hT1
              -- @snap27
              rename Fr _ _ _ _ => F30
              rename News _ _ _ _ => N30
              refine wpAny_with_toks (n := 1) (by first | exact hT1 | exact Nat.le_succ_of_le hT1 | exact Nat.le_succ_of_le (Nat.le_succ_of_le hT1)) ?_
              refine list_bytes (by rfl) F30 N30 hbw (by rw [hxf, List.length_map, hfl]; decide) ?_
              intro Dl ul cl hl30 tl30 F31 N31 lDl hul hT1
              k_lt lDl
              obtain ⟨_, _, _, _, _, _, _, _, _, _, _⟩ := lDl
              have hT1 : 1 ≤ tl30 := hT1
              have hxl : hx.length = 16 := by rw [hxf, List.length_map, hfl]
              dsimp only
              k_steps
              -- @snap28
              rename Fr _ _ _ _ => F32
              rename News _ _ _ _ => N32
              unfold Held
              refine wpAny_with_toks (n := 1) (by first | exact hT1 | exact Nat.le_succ_of_le hT1 | exact Nat.le_succ_of_le (Nat.le_succ_of_le hT1)) ?_
              refine LCg.ListComp_U (F₀ := F32) (by with_unfolding_all rfl) (by decide) (by rfl) (by decide) (by rfl) ?_
              k_steps
              unfold Held
              refine LCg.CompSrc.ledger (by rfl) (by k_asm) (by k_asm) (its := yf.toArray) (k := yf.length) (by k_mem) (by rw [List.size_toArray, hyf.length, hfl, sizeLine_eq]; decide) ?_
              intro g'
              refine kcf_list (fun v => S16.getD v.toNat 0) hyf (fun k' t' I' oI' C' oC' D' m' ys' h' tk' E' hk' hC' hx' F' N' off' ne' hMark' => ?_) ?_
              · have hkb := hfin k' hk'
                k_steps
                unfold Held
                exact LCg.CompEnd.intro F' N' _ (fun _ h => h) off' (.inr ⟨_, by k_mem, rfl, _, rfl⟩) ⟨rfl, _, rfl⟩
              · unfold KPfDone
                intro ys6 hy6 D33 h33 tk33 F33 N33 off33 hT1
                have hT1 : 1 ≤ tk33 := hT1
                simp only [LCg.Off1, and_true] at off33
                repeat (obtain ⟨_, off33⟩ := off33)
                have hy6 : IntsAre ys6 (fs.map fun v => S16.getD v.toNat 0) := hy6
                rw [← hxf] at hy6
                dsimp only
                k_steps
                -- @snap29
                rename Fr _ _ _ _ => F34
                rename News _ _ _ _ => N34
                unfold Held
                refine ListComp_B 1 (fun c => (hx.count c : Int)) (F₀ := F34) (by with_unfolding_all rfl) (by decide) (by rfl) (by decide) (by rfl) (by rfl) ?_
                k_steps
                unfold Held
                refine ⟨_, _, S16, _, rfl, by rfl, by rw [sizeLine_eq]; decide, F34, N34, (by first | exact hT1 | exact Nat.le_succ_of_le hT1 | exact Nat.le_succ_of_le (Nat.le_succ_of_le hT1)), ?_, ?_⟩
                · intro k' t' I' oI' C' oC' D' m' ys' h' tk' E' hk' ht' htk' hC' hx' F' N' off' ne'
                  have hsm : smallInt k' = true := by
                    have key : ∀ c ∈ S16, smallInt c = true := by decide
                    exact key k' hk'
                  dsimp only
                  k_steps
                  unfold Held
                  k_dflt (refine' countOf_ok ?k1 ?k2 ?k3 ?k4 ?k5 ?kK ?kd ?ku hbw (by omega) ht' ?Zt hsm ?_; (case k1 => k_asm); (case k2 => k_asm); (case k3 => k_asm); (case k4 => k_asm); (case k5 => k_asm); (case kK => first | exact rfl | assumption); (case kd => ktr_room); (case ku => ktr_units))
                  case Zt => first | exact htk' | exact Nat.lt_succ_of_lt htk'
                  intro t9 h9 tk9 F9 N9
                  k_steps
                  unfold Held
                  exact LCg.CompEnd.intro F9 N9 _ (fun _ h => h) off' trivial ⟨rfl, _, rfl⟩
                · intro ys7 D35 h35 tk35 hy7 F35 N35 off35
                  simp only [LCg.Off1, and_true] at off35
                  repeat (obtain ⟨_, off35⟩ := off35)
                  have hct := count_tally hfin
                  rw [← hxf] at hct
                  rw [hct] at hy7
                  obtain ⟨ty, hty⟩ : ∃ x, x = tallyF fs := ⟨_, rfl⟩
                  rw [← hty] at hy7
                  have htyl : ty.length = 16 := by rw [hty, tallyF_len]
                  clear hct
                  dsimp only
                  k_steps
                  -- @snap30
                  obtain ⟨tot, htot⟩ : ∃ x, x = totAt wins i := ⟨_, rfl⟩
                  rw [← htot] at iT
                  have htl : tot.length = 16 := by rw [htot, totAt_len]
                  unfold Held
                  k_dflt (refine' tally_ok ?k1 ?k2 ?k3 ?k4 ?k5 ?kK ?kd ?ku ?Za hyf hfin ?Zb ?_; (case k1 => k_asm); (case k2 => k_asm); (case k3 => k_asm); (case k4 => k_asm); (case k5 => k_asm); (case kK => first | exact rfl | assumption); (case kd => ktr_room); (case ku => ktr_units))
                  case Za => k_mem
                  case Zb => omega
                  intro D36 us8 c36 h36 tk36 F36 N36 lD36 hi8
                  rw [← hty] at hi8
                  k_lt lD36
                  dsimp only
                  k_steps
                  -- @snap31
                  rename Fr _ _ _ _ => F37
                  rename News _ _ _ _ => N37
                  unfold Held
                  refine LCg.ListComp_U (F₀ := F37) (by with_unfolding_all rfl) (by decide) (by rfl) (by decide) (by rfl) ?_
                  k_steps
                  unfold Held
                  refine LCg.CompSrc.range (n := 16) (by rfl) (by k_asm) (by k_asm) (by assumption) (by decide) (by decide) (by decide) ?_
                  intro g'
                  refine kcf_range (fun k => tot.getD k.toNat 0 + ty.getD k.toNat 0) (fun k' t' I' oI' C' oC' D' m' ys' h' tk' E' hlo' hhi' hC' hx' F' N' off' ne' hMark' => ?_) ?_
                  · k_steps
                    unfold Held
                    rename Fr _ _ _ _ => F9
                    rename News _ _ _ _ => N9
                    exact LCg.CompEnd.intro F9 N9 _ (fun _ h => h) off' trivial ⟨rfl, _, rfl⟩
                  · unfold KPfDone
                    intro ys9 hy9 D38 h38 tk38 F38 N38 off38
                    simp only [LCg.Off1, and_true] at off38
                    repeat (obtain ⟨_, off38⟩ := off38)
                    have hy9 : IntsAre ys9 (totAt wins (i + 1)) := by
                      rw [htot, hty, hfs] at hy9
                      exact hy9
                    dsimp only
                    k_steps
                    -- @snap32
                    rename Fr _ _ _ _ => F39
                    rename News _ _ _ _ => N39
                    rename _ = Data.cell (some (Value.ref D38)) => d6n
                    rename _ = Data.cell (some (Value.ref D35)) => d7n
                    rename _ = Data.cell (some (Value.bytes bw tw)) => d4n
                    unfold Held
                    refine loop2_end hy9 rfl d7n d6n d4n dL ⟨?_, ?_, ?_, ?_, ?_, ?_, ?_, ?_⟩ F39 N39 (by kcf_all) (by intro p hp; repeat (first | exact hp | apply List.Mem.tail)) (by intro z h1; simp only [h1, if_false])
                    all_goals (first | with_reducible assumption | (refine Ne.symm ?_; with_reducible assumption))
          · rintro mi nx h tk ⟨T, ut, cT, o7', o6', o4', o3', v7', v4'', v3'', rfl, hDT', iT, d7', d6', d4'', d3'', hm'⟩ F26 N26
            clear F25 N25
            -- @snap24b
            have h4 := tot_four hEx hwbits hwins
            obtain ⟨r16, hr16⟩ : ∃ x, x = totAt wins 4 := ⟨_, rfl⟩
            rw [← hr16] at iT h4
            clear hr16
            rw [map1 hm'] at F26
            subst hm0
            change Fr G L _ _ at F26
            change News G L _ _ at N26
            have flag : FlagC := trivial
            k_steps
            clear flag
            unfold Held
            first | walk1 | (dsimp only; walk1)
            have e9 : r16 = (List.replicate (Int.toNat 16) [4]).flatten := h4.trans (by decide)
            rw [decide_eq_true e9]
            clear h4 e9
            refine unQ hqk ?_
            dsimp only
            rename Fr _ _ _ _ => F27
            rename News _ _ _ _ => N27
            refine And.intro ?_ ?_
            · clear N27
              w_end
              refine goodW_bool F27 (by assumption) (raisesW_false ?_) ?_
              · wrow_none_raised
              · exact post_true ns
            · exact ⟨GrownAt.of N27 (by k_mem), GrownAt.of N27 (by k_mem), trivial⟩
end Mine
theorem PySem.Challenge.cw_kq0047_01_holds : PySem.Challenge.rw_kq0047_01.Holds :=
  Mine.law_holds
