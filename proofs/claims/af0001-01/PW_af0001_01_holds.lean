import PyProof.Rows.All
import Wide.All
import OpenK.AllK
import Wide.FinOn
import Lean
import PySem.Challenge.RW_af0001_01
set_option Elab.async false

-- part HD
section
open PySem PySem.W PyProof.Rows
set_option maxRecDepth 100000
set_option maxHeartbeats 8000000
namespace Mine
open_top hd for PySem.Challenge.rw_af0001_01
end Mine
end

-- part SA
section
open PySem PyProof.Rows
set_option maxRecDepth 100000
namespace Mine

def gallop' : Bool → Keyed → Array Keyed → Nat → Nat → Nat → StateT SortSt Sem (Option Nat) := sortPriv% PySem.Builtin.gallop
def setMinGallop' : Nat → StateT SortSt Sem Unit := sortPriv% PySem.Builtin.setMinGallop

def ky (p : Keyed) : Int := numOf p.1
def IsI (p : Keyed) : Prop := ∃ n t, p.1 = .int n t

def beyond (left : Bool) (key : Keyed) (arr : Array Keyed) (base i : Nat) : StateT SortSt Sem (Option Bool) := do
  let x ← elem' arr (base + i)
  if left then lt' x key else return (← lt' key x).map (!·)
def bsLoop (left : Bool) (key : Keyed) (arr : Array Keyed) (base n : Nat) (lo₀ hi₀ : Nat) : StateT SortSt Sem (Option Nat) := do
  let mut lo := lo₀
  let mut hi := hi₀
  for _ in [0:n] do
    if lo ≥ hi then break
    let m := lo + (hi - lo) / 2
    let some more ← beyond left key arr base m | return none
    if more then lo := m + 1 else hi := m
  return some hi
def upLoop (left : Bool) (key : Keyed) (arr : Array Keyed) (base n hint : Nat) : StateT SortSt Sem (Option Nat) := do
  let maxofs := n - hint
  let mut lastofs := 0
  let mut ofs := 1
  for _ in [0:n] do
    if ofs ≥ maxofs then break
    let some more ← beyond left key arr base (hint + ofs) | return none
    if !more then break
    lastofs := ofs
    ofs := 2 * ofs + 1
  bsLoop left key arr base n (hint + lastofs + 1) (hint + min ofs maxofs)
def downLoop (left : Bool) (key : Keyed) (arr : Array Keyed) (base n hint : Nat) : StateT SortSt Sem (Option Nat) := do
  let maxofs := hint + 1
  let mut lastofs := 0
  let mut ofs := 1
  for _ in [0:n] do
    if ofs ≥ maxofs then break
    let some found ← beyond left key arr base (hint - ofs) | return none
    if found then break
    lastofs := ofs
    ofs := 2 * ofs + 1
  bsLoop left key arr base n (hint + 1 - min ofs maxofs) (hint - lastofs)

theorem gallop'_eq (left : Bool) (key : Keyed) (arr : Array Keyed) (base n hint : Nat) : gallop' left key arr base n hint = (do
  let some right ← beyond left key arr base hint | return none
  if right then upLoop left key arr base n hint else downLoop left key arr base n hint) := rfl

section
variable {prog : Program} {w : World} {A : Around} {E : Value → Shared → Prop} {s : Shared}

theorem wpS_lt {st : SortSt} {x y : Keyed} {Q : Option Bool → SortSt → Prop} (hk : kindOf st = oneType') (hx : IsI x) (hy : IsI y)
    (h : Q (some (decide (ky x < ky y))) st) : wpS (model prog w) A E s (lt' x y) Q st := by
  obtain ⟨x1, x2⟩ := x
  obtain ⟨y1, y2⟩ := y
  obtain ⟨a, t, hx⟩ := hx
  obtain ⟨b, u, hy⟩ := hy
  dsimp only at hx hy
  subst hx hy
  rw [lt'_eq]
  refine wpS_bind (wpS_get ?_)
  rw [hk, keyLt'_oneType]
  refine wpS_bind (wpS_lift (wpAny_attempt (oneLt_int ⟨rfl, ?_⟩)))
  exact wpS_pure h

theorem wpS_elem {arr : Array Keyed} {i : Nat} {x : Keyed} {Q : Keyed → SortSt → Prop} {st : SortSt} (hi : arr[i]? = some x) (h : Q x st) :
    wpS (model prog w) A E s (elem' arr i) Q st := by
  rw [elem'_eq, hi]; exact wpS_pure h

def Pg (left : Bool) (key : Keyed) (arr : Array Keyed) (base i : Nat) : Bool := if left then decide (K arr (base + i) < ky key) else decide (K arr (base + i) ≤ ky key)

structure Seg (arr : Array Keyed) (base n : Nat) : Prop where
  isI : ∀ i, i < n → ∃ x, arr[base + i]? = some x ∧ IsI x
  sorted : ∀ i j, i ≤ j → j < n → K arr (base + i) ≤ K arr (base + j)

theorem Pg_mono {left : Bool} {key : Keyed} {arr : Array Keyed} {base n : Nat} (S : Seg arr base n) {i j : Nat} (hij : i ≤ j) (hj : j < n) (h : Pg left key arr base j = true) : Pg left key arr base i = true := by
  have := S.sorted i j hij hj
  unfold Pg at h ⊢
  cases left <;> simp only [if_true, Bool.false_eq_true, if_false, decide_eq_true_eq] at h ⊢ <;> omega

theorem wpS_beyond {left : Bool} {key : Keyed} {arr : Array Keyed} {base n i : Nat} {st : SortSt} {Q : Option Bool → SortSt → Prop} (hk : kindOf st = oneType') (hkey : IsI key) (S : Seg arr base n) (hi : i < n)
    (h : Q (some (Pg left key arr base i)) st) : wpS (model prog w) A E s (beyond left key arr base i) Q st := by
  obtain ⟨x, hx, hxi⟩ := S.isI i hi
  have hK : K arr (base + i) = ky x := by unfold K; rw [hx]; rfl
  unfold beyond
  refine wpS_bind (wpS_elem hx ?_)
  unfold Pg at h
  rw [hK] at h
  cases left with
  | true =>
    simp only [if_true] at h ⊢
    exact wpS_lt hk hxi hkey h
  | false =>
    simp only [Bool.false_eq_true, if_false] at h ⊢
    refine wpS_bind (wpS_lt hk hkey hxi (wpS_pure ?_))
    have e : (!decide (ky key < ky x)) = decide (ky x ≤ ky key) := by
      by_cases h1 : ky key < ky x
      · have h2 : ¬ ky x ≤ ky key := by omega
        simp [h1, h2]
      · have h2 : ky x ≤ ky key := by omega
        simp [h1, h2]
    simpa only [Option.map_some, e] using h

theorem wpS_bsLoop {left : Bool} {key : Keyed} {arr : Array Keyed} {base n lo hi : Nat} {st : SortSt} {Q : Option Nat → SortSt → Prop} (hk : kindOf st = oneType') (hkey : IsI key) (S : Seg arr base n)
    (hlh : lo ≤ hi) (hhn : hi ≤ n) (h1 : ∀ i, i < lo → Pg left key arr base i = true) (h2 : ∀ i, hi ≤ i → i < n → Pg left key arr base i = false)
    (h : ∀ r, r ≤ n → (∀ i, i < r → Pg left key arr base i = true) → (∀ i, r ≤ i → i < n → Pg left key arr base i = false) → Q (some r) st) :
    wpS (model prog w) A E s (bsLoop left key arr base n lo hi) Q st := by
  unfold bsLoop
  dsimp only
  refine wpS_bind (wpS_mono (wpS_forRange (I := fun x c st' => st' = st ∧ ∃ l r, c = (none, l, r) ∧ l ≤ r ∧ r ≤ n ∧ r - l ≤ n - x ∧ (∀ i, i < l → Pg left key arr base i = true) ∧ (∀ i, r ≤ i → i < n → Pg left key arr base i = false))
    (Q := fun c st' => st' = st ∧ ∃ r, c = (none, r, r) ∧ r ≤ n ∧ (∀ i, i < r → Pg left key arr base i = true) ∧ (∀ i, r ≤ i → i < n → Pg left key arr base i = false)) ?step ?fin ⟨rfl, lo, hi, rfl, hlh, hhn, by omega, h1, h2⟩) ?post)
  case post =>
    rintro c st' ⟨rfl, r, rfl, hr, a1, a2⟩
    exact wpS_pure (h r hr a1 a2)
  case fin =>
    rintro c st' ⟨rfl, l, r, rfl, hlr, hr, hd, a1, a2⟩
    have : l = r := by omega
    subst this
    exact ⟨rfl, l, rfl, hr, a1, a2⟩
  case step =>
    rintro x c st' _ hx ⟨rfl, l, r, rfl, hlr, hr, hd, a1, a2⟩
    dsimp only
    by_cases hge : l ≥ r
    · rw [if_pos hge]
      have : l = r := by omega
      subst this
      exact wpS_pure ⟨rfl, l, rfl, hr, a1, a2⟩
    · rw [if_neg hge]
      refine wpS_bind (wpS_beyond hk hkey S (by omega) ?_)
      dsimp only
      cases hp : Pg left key arr base (l + (r - l) / 2) with
      | true =>
        rw [if_pos rfl]
        refine wpS_pure ⟨rfl, l + (r - l) / 2 + 1, r, rfl, by omega, hr, by omega, fun i hi => ?_, a2⟩
        exact Pg_mono S (by omega) (by omega) hp
      | false =>
        rw [if_neg (by simp)]
        refine wpS_pure ⟨rfl, l, l + (r - l) / 2, rfl, by omega, by omega, by omega, a1, fun i h1 h2 => ?_⟩
        cases hq : Pg left key arr base i with
        | false => rfl
        | true => have := Pg_mono S h1 h2 hq; rw [hp] at this; cases this

theorem Pg_false {left : Bool} {key : Keyed} {arr : Array Keyed} {base n : Nat} (S : Seg arr base n) {i j : Nat} (hij : i ≤ j) (hj : j < n) (h : Pg left key arr base i = false) : Pg left key arr base j = false := by
  cases hq : Pg left key arr base j with
  | false => rfl
  | true => have := Pg_mono S hij hj hq; rw [h] at this; cases this

theorem wpS_gallop {left : Bool} {key : Keyed} {arr : Array Keyed} {base n hint : Nat} {st : SortSt} {Q : Option Nat → SortSt → Prop} (hk : kindOf st = oneType') (hkey : IsI key) (S : Seg arr base n) (hh : hint < n)
    (h : ∀ r, r ≤ n → (∀ i, i < r → Pg left key arr base i = true) → (∀ i, r ≤ i → i < n → Pg left key arr base i = false) → Q (some r) st) :
    wpS (model prog w) A E s (gallop' left key arr base n hint) Q st := by
  rw [gallop'_eq]
  refine wpS_bind (wpS_beyond hk hkey S hh ?_)
  dsimp only
  cases hp : Pg left key arr base hint with
  | true =>
    rw [if_pos rfl]
    unfold upLoop
    dsimp only
    refine wpS_bind (wpS_mono (wpS_forRange (I := fun x c st' => st' = st ∧ ∃ l o, c = (none, l, o) ∧ l < o ∧ x < o ∧ hint + l < n ∧ Pg left key arr base (hint + l) = true)
      (Q := fun c st' => st' = st ∧ ∃ l o, c = (none, l, o) ∧ l < o ∧ hint + l < n ∧ Pg left key arr base (hint + l) = true ∧ (hint + o < n → Pg left key arr base (hint + o) = false)) ?step ?fin ⟨rfl, 0, 1, rfl, by omega, by omega, by omega, hp⟩) ?post)
    case post =>
      rintro c st' ⟨rfl, l, o, rfl, hlo, hln, a1, a2⟩
      dsimp only
      refine wpS_bsLoop hk hkey S (by omega) (by omega) (fun i hi => Pg_mono S (by omega) hln a1) (fun i h1 h2 => ?_) h
      by_cases ho : hint + o < n
      · exact Pg_false S (by omega) h2 (a2 ho)
      · omega
    case fin =>
      rintro c st' ⟨rfl, l, o, rfl, hlo, hx, hln, a1⟩
      exact ⟨rfl, l, o, rfl, hlo, hln, a1, fun _ => by omega⟩
    case step =>
      rintro x c st' _ hx ⟨rfl, l, o, rfl, hlo, hxo, hln, a1⟩
      dsimp only
      by_cases hge : o ≥ n - hint
      · rw [if_pos hge]
        exact wpS_pure ⟨rfl, l, o, rfl, hlo, hln, a1, fun _ => by omega⟩
      · rw [if_neg hge]
        refine wpS_bind (wpS_beyond hk hkey S (by omega) ?_)
        dsimp only
        cases hq : Pg left key arr base (hint + o) with
        | true =>
          rw [if_neg (by simp)]
          exact wpS_pure ⟨rfl, o, 2 * o + 1, rfl, by omega, by omega, by omega, hq⟩
        | false =>
          rw [if_pos (by simp)]
          exact wpS_pure ⟨rfl, l, o, rfl, hlo, hln, a1, fun _ => hq⟩
  | false =>
    rw [if_neg (by simp)]
    unfold downLoop
    dsimp only
    refine wpS_bind (wpS_mono (wpS_forRange (I := fun x c st' => st' = st ∧ ∃ l o, c = (none, l, o) ∧ l < o ∧ x < o ∧ l ≤ hint ∧ Pg left key arr base (hint - l) = false)
      (Q := fun c st' => st' = st ∧ ∃ l o, c = (none, l, o) ∧ l < o ∧ l ≤ hint ∧ Pg left key arr base (hint - l) = false ∧ (o ≤ hint → Pg left key arr base (hint - o) = true)) ?step ?fin ⟨rfl, 0, 1, rfl, by omega, by omega, by omega, hp⟩) ?post)
    case post =>
      rintro c st' ⟨rfl, l, o, rfl, hlo, hln, a1, a2⟩
      dsimp only
      refine wpS_bsLoop hk hkey S (by omega) (by omega) (fun i hi => ?_) (fun i h1 h2 => Pg_false S (by omega) h2 a1) h
      by_cases ho : o ≤ hint
      · exact Pg_mono S (by omega) (by omega) (a2 ho)
      · omega
    case fin =>
      rintro c st' ⟨rfl, l, o, rfl, hlo, hx, hln, a1⟩
      exact ⟨rfl, l, o, rfl, hlo, hln, a1, fun _ => by omega⟩
    case step =>
      rintro x c st' _ hx ⟨rfl, l, o, rfl, hlo, hxo, hln, a1⟩
      dsimp only
      by_cases hge : o ≥ hint + 1
      · rw [if_pos hge]
        exact wpS_pure ⟨rfl, l, o, rfl, hlo, hln, a1, fun _ => by omega⟩
      · rw [if_neg hge]
        refine wpS_bind (wpS_beyond hk hkey S (by omega) ?_)
        dsimp only
        cases hq : Pg left key arr base (hint - o) with
        | true =>
          rw [if_pos rfl]
          exact wpS_pure ⟨rfl, l, o, rfl, hlo, hln, a1, fun _ => hq⟩
        | false =>
          rw [if_neg (by simp)]
          exact wpS_pure ⟨rfl, o, 2 * o + 1, rfl, by omega, by omega, by omega, hq⟩
end
end Mine
end

-- part SB
section
open PySem PyProof.Rows
set_option maxRecDepth 100000
namespace Mine

def mergeLo' : Array Keyed → Array Keyed → StateT SortSt Sem (Array Keyed) := sortPriv% PySem.Builtin.mergeLo

abbrev Srt (l : List Keyed) : Prop := l.Pairwise (fun p q => ky p ≤ ky q)
abbrev AllI (l : List Keyed) : Prop := ∀ p ∈ l, IsI p

/-- what a merge has put out, and what is left of its two sides -/
structure MI (T out l r : List Keyed) : Prop where
  perm : (out ++ l ++ r).Perm T
  so : Srt out
  sl : Srt l
  sr : Srt r
  le : ∀ x ∈ out, ∀ y ∈ l ++ r, ky x ≤ ky y

theorem MI.takeL {T out X l r : List Keyed} (h : MI T out (X ++ l) r) (hx : ∀ x ∈ X, ∀ y ∈ r, ky x ≤ ky y) : MI T (out ++ X) l r where
  perm := by have := h.perm; simpa only [List.append_assoc] using this
  so := List.pairwise_append.mpr ⟨h.so, (List.pairwise_append.mp h.sl).1, fun x hx y hy => h.le x hx y (by simp [hy])⟩
  sl := (List.pairwise_append.mp h.sl).2.1
  sr := h.sr
  le := fun x hm y hy => by
    rcases List.mem_append.mp hm with hm | hm
    · exact h.le x hm y (by rcases List.mem_append.mp hy with hy | hy <;> simp [hy])
    · rcases List.mem_append.mp hy with hy | hy
      · exact (List.pairwise_append.mp h.sl).2.2 x hm y hy
      · exact hx x hm y hy
theorem MI.takeR {T out X l r : List Keyed} (h : MI T out l (X ++ r)) (hx : ∀ x ∈ X, ∀ y ∈ l, ky x ≤ ky y) : MI T (out ++ X) l r where
  perm := by
    have h1 := h.perm
    refine List.Perm.trans ?_ h1
    simp only [List.append_assoc]
    exact List.Perm.append_left _ (by rw [← List.append_assoc, ← List.append_assoc]; exact List.Perm.append_right _ List.perm_append_comm)
  so := List.pairwise_append.mpr ⟨h.so, (List.pairwise_append.mp h.sr).1, fun x hx y hy => h.le x hx y (by simp [hy])⟩
  sl := h.sl
  sr := (List.pairwise_append.mp h.sr).2.1
  le := fun x hm y hy => by
    rcases List.mem_append.mp hm with hm | hm
    · exact h.le x hm y (by rcases List.mem_append.mp hy with hy | hy <;> simp [hy])
    · rcases List.mem_append.mp hy with hy | hy
      · exact hx x hm y hy
      · exact (List.pairwise_append.mp h.sr).2.2 x hm y hy

def Fin (T : List Keyed) (out : Array Keyed) : Prop := out.toList.Perm T ∧ Srt out.toList

theorem MI.fin {T out l r : List Keyed} (h : MI T out l r) (hlr : ∀ x ∈ l, ∀ y ∈ r, ky x ≤ ky y) : (out ++ l ++ r).Perm T ∧ Srt (out ++ l ++ r) := by
  refine ⟨h.perm, ?_⟩
  rw [List.append_assoc]
  exact List.pairwise_append.mpr ⟨h.so, List.pairwise_append.mpr ⟨h.sl, h.sr, fun x hx y hy => hlr x hx y hy⟩, fun x hx y hy => h.le x hx y hy⟩
theorem MI.fin' {T out l r : List Keyed} (h : MI T out l r) (hlr : ∀ x ∈ l, ∀ y ∈ r, ky y ≤ ky x) : (out ++ r ++ l).Perm T ∧ Srt (out ++ r ++ l) := by
  refine ⟨List.Perm.trans ?_ h.perm, ?_⟩
  · rw [List.append_assoc, List.append_assoc]; exact List.Perm.append_left _ List.perm_append_comm
  · rw [List.append_assoc]
    exact List.pairwise_append.mpr ⟨h.so, List.pairwise_append.mpr ⟨h.sr, h.sl, fun x hx y hy => hlr y hy x hx⟩, fun x hx y hy => h.le x hx y (by rcases List.mem_append.mp hy with hy | hy <;> simp [hy])⟩

theorem ext_drop (a : Array Keyed) (i : Nat) : (a.extract i a.size).toList = a.toList.drop i := by
  simp only [Array.toList_extract, List.extract_eq_take_drop]
  rw [List.take_of_length_le]
  simp
theorem drop_split (a : Array Keyed) (i k : Nat) : a.toList.drop i = (a.extract i (i + k)).toList ++ a.toList.drop (i + k) := by
  simp only [Array.toList_extract, List.extract_eq_take_drop, Nat.add_sub_cancel_left]
  rw [← List.drop_drop, List.take_append_drop]
theorem drop_one {a : Array Keyed} {i : Nat} {x : Keyed} (h : a[i]? = some x) : a.toList.drop i = [x] ++ a.toList.drop (i + 1) := by
  have h' : a.toList[i]? = some x := by simpa using h
  obtain ⟨hi, e⟩ := List.getElem?_eq_some_iff.mp h'
  rw [List.drop_eq_getElem_cons hi, e]; rfl
theorem drop_all (a : Array Keyed) : a.toList.drop a.size = [] := by
  rw [List.drop_eq_nil_iff]; simp
theorem at_lt {a : Array Keyed} {i : Nat} (h : i < a.size) : ∃ x, a[i]? = some x ∧ x ∈ a.toList := ⟨a[i], by simp [h], by simp⟩

theorem seg_of {a : Array Keyed} (hI : AllI a.toList) (hs : Srt a.toList) {i n : Nat} (hn : i + n ≤ a.size) : Seg a i n where
  isI := fun j hj => by
    obtain ⟨x, hx, hm⟩ := at_lt (a := a) (i := i + j) (by lia)
    exact ⟨x, hx, hI x hm⟩
  sorted := fun p q hpq hq => by
    have h1 : i + p < a.size := by lia
    have h2 : i + q < a.size := by lia
    have e1 : K a (i + p) = ky a[i + p] := by unfold K; rw [getElem?_pos a (i + p) h1]; rfl
    have e2 : K a (i + q) = ky a[i + q] := by unfold K; rw [getElem?_pos a (i + q) h2]; rfl
    rw [e1, e2]
    by_cases h : p = q
    · subst h; exact Int.le_refl _
    · have := List.pairwise_iff_getElem.mp hs (i + p) (i + q) (by simpa using h1) (by simpa using h2) (by lia)
      simpa using this

def Cnd (left : Bool) (key x : Keyed) : Prop := if left then ky x < ky key else ky x ≤ ky key
theorem Pg_iff {left : Bool} {key x : Keyed} {a : Array Keyed} {b i : Nat} (h : a[b + i]? = some x) : Pg left key a b i = true ↔ Cnd left key x := by
  have hK : K a (b + i) = ky x := by unfold K; rw [h]; rfl
  unfold Pg Cnd
  rw [hK]
  cases left <;> simp
theorem gal_in {left : Bool} {key : Keyed} {a : Array Keyed} {b k : Nat} (hk : b + k ≤ a.size) (h1 : ∀ i, i < k → Pg left key a b i = true) :
    ∀ x ∈ (a.extract b (b + k)).toList, Cnd left key x := by
  intro x hx
  obtain ⟨j, hj, e⟩ := List.mem_iff_getElem.mp hx
  have hj' : j < k := by
    simp only [Array.length_toList, Array.size_extract] at hj; lia
  have e2 : a[b + j]? = some x := by
    rw [← e]; simp [show b + j < a.size by lia]
  exact (Pg_iff e2).mp (h1 j hj')
theorem gal_out {left : Bool} {key : Keyed} {a : Array Keyed} {b k n : Nat} (hn : a.size ≤ b + n) (h2 : ∀ i, k ≤ i → i < n → Pg left key a b i = false) :
    ∀ x ∈ a.toList.drop (b + k), ¬ Cnd left key x := by
  intro x hx hc
  obtain ⟨j, hj, e⟩ := List.mem_iff_getElem.mp hx
  have hj' : b + k + j < a.size := by simpa [Nat.add_comm, Nat.lt_sub_iff_add_lt] using hj
  have e2 : a[b + (k + j)]? = some x := by
    rw [← e]; simp [← Nat.add_assoc, hj']
  have := (Pg_iff (left := left) (key := key) e2).mpr hc
  rw [h2 (k + j) (by lia) (by lia)] at this
  cases this

/-- the state's other parts stand -/
def Same (st st' : SortSt) : Prop := kindOf st' = kindOf st ∧ arrOf st' = arrOf st ∧ pendingOf st' = pendingOf st ∧ failedOf st' = failedOf st
theorem Same.rfl' {st : SortSt} : Same st st := ⟨rfl, rfl, rfl, rfl⟩
theorem Same.trans {a b c : SortSt} (h : Same a b) (k : Same b c) : Same a c := ⟨k.1.trans h.1, k.2.1.trans h.2.1, k.2.2.1.trans h.2.2.1, k.2.2.2.trans h.2.2.2⟩

abbrev GSt := Option (Array Keyed) × Array Keyed × Nat × Nat × Nat × Nat × Nat
abbrev loDone (a b out : Array Keyed) (ia ib : Nat) : Array Keyed := out ++ a.extract ia a.size ++ b.extract ib b.size
abbrev loLast (a b out : Array Keyed) (ia ib : Nat) : Array Keyed := out ++ b.extract ib b.size ++ a.extract ia a.size

def loTail (a b out : Array Keyed) (ia ib mg ac bc : Nat) : StateT SortSt Sem (ForInStep GSt) := do
  let e ← elem' a ia
  if ia + 1 + 1 == a.size then pure (.done (some (loLast a b (out.push e) (ia + 1) ib), out.push e, ia + 1, ib, mg, ac, bc))
  else if decide (ac < 7) && decide (bc < 7) then pure (.done (none, out.push e, ia + 1, ib, mg, ac, bc))
  else pure (.yield (none, out.push e, ia + 1, ib, mg, ac, bc))
def loMid (a b out : Array Keyed) (ia ib mg ac bc : Nat) : StateT SortSt Sem (ForInStep GSt) := do
  let e ← elem' b ib
  if ib + 1 == b.size then pure (.done (some (loDone a b (out.push e) ia (ib + 1)), out.push e, ia, ib + 1, mg, ac, bc))
  else do
    let x ← elem' a ia
    match ← gallop' true x b (ib + 1) (b.size - (ib + 1)) 0 with
    | some k =>
      if k > 0 then
        if ib + 1 + k == b.size then pure (.done (some (loDone a b (out.push e ++ b.extract (ib + 1) (ib + 1 + k)) ia (ib + 1 + k)), out.push e ++ b.extract (ib + 1) (ib + 1 + k), ia, ib + 1 + k, mg, ac, k))
        else loTail a b (out.push e ++ b.extract (ib + 1) (ib + 1 + k)) ia (ib + 1 + k) mg ac k
      else loTail a b (out.push e) ia (ib + 1) mg ac k
    | _ => pure (.done (some (loDone a b (out.push e) ia (ib + 1)), out.push e, ia, ib + 1, mg, ac, bc))
def loTurn (a b out : Array Keyed) (ia ib mg ac bc : Nat) : StateT SortSt Sem (ForInStep GSt) := do
  setMinGallop' mg
  let x ← elem' b ib
  match ← gallop' false x a ia (a.size - ia) 0 with
  | some k =>
    if k > 0 then
      if ia + k + 1 == a.size then pure (.done (some (loLast a b (out ++ a.extract ia (ia + k)) (ia + k) ib), out ++ a.extract ia (ia + k), ia + k, ib, mg, k, bc))
      else if ia + k == a.size then pure (.done (some (loDone a b (out ++ a.extract ia (ia + k)) (ia + k) ib), out ++ a.extract ia (ia + k), ia + k, ib, mg, k, bc))
      else loMid a b (out ++ a.extract ia (ia + k)) (ia + k) ib mg k bc
    else loMid a b out ia ib mg k bc
  | _ => pure (.done (some (loDone a b out ia ib), out, ia, ib, mg, ac, bc))
def loGal (a b : Array Keyed) (total : Nat) (out : Array Keyed) (ia ib mg ac bc : Nat) : StateT SortSt Sem GSt :=
  forIn [0:total] ((none, out, ia, ib, mg, ac, bc) : GSt) fun _ c =>
    if c.2.2.2.2.1 > 1 then loTurn a b c.2.1 c.2.2.1 c.2.2.2.1 (c.2.2.2.2.1 - 1) c.2.2.2.2.2.1 c.2.2.2.2.2.2
    else loTurn a b c.2.1 c.2.2.1 c.2.2.2.1 c.2.2.2.2.1 c.2.2.2.2.2.1 c.2.2.2.2.2.2
abbrev PSt := Option (Array Keyed) × Array Keyed × Nat × Nat × Nat × Nat
def loPair (a b : Array Keyed) (total mg : Nat) (out : Array Keyed) (ia ib : Nat) : StateT SortSt Sem PSt :=
  forIn [0:total] ((none, out, ia, ib, 0, 0) : PSt) fun _ c => do
    let y ← elem' b c.2.2.2.1
    let x ← elem' a c.2.2.1
    match ← lt' y x with
    | some bWins =>
      if bWins then do
        let e ← elem' b c.2.2.2.1
        if c.2.2.2.1 + 1 == b.size then pure (.done (some (loDone a b (c.2.1.push e) c.2.2.1 (c.2.2.2.1 + 1)), c.2.1.push e, c.2.2.1, c.2.2.2.1 + 1, 0, c.2.2.2.2.2 + 1))
        else if c.2.2.2.2.2 + 1 ≥ mg then pure (.done (none, c.2.1.push e, c.2.2.1, c.2.2.2.1 + 1, 0, c.2.2.2.2.2 + 1))
        else pure (.yield (none, c.2.1.push e, c.2.2.1, c.2.2.2.1 + 1, 0, c.2.2.2.2.2 + 1))
      else do
        let e ← elem' a c.2.2.1
        if c.2.2.1 + 1 + 1 == a.size then pure (.done (some (loLast a b (c.2.1.push e) (c.2.2.1 + 1) c.2.2.2.1), c.2.1.push e, c.2.2.1 + 1, c.2.2.2.1, c.2.2.2.2.1 + 1, 0))
        else if c.2.2.2.2.1 + 1 ≥ mg then pure (.done (none, c.2.1.push e, c.2.2.1 + 1, c.2.2.2.1, c.2.2.2.2.1 + 1, 0))
        else pure (.yield (none, c.2.1.push e, c.2.2.1 + 1, c.2.2.2.1, c.2.2.2.2.1 + 1, 0))
    | _ => pure (.done (some (loDone a b c.2.1 c.2.2.1 c.2.2.2.1), c.2.1, c.2.2.1, c.2.2.2.1, c.2.2.2.2.1, c.2.2.2.2.2))


theorem mergeLo'_eq (a b : Array Keyed) : mergeLo' a b = (do
  rule "list.sort.merge-lo"
  let e ← elem' b 0
  if 1 == b.size then return loDone a b #[e] 0 1
  if 0 + 1 == a.size then return loLast a b #[e] 0 1
  let s ← get
  let c ← forIn [0:a.size + b.size] ((none, #[e], 0, 1, gallopOf s) : Option (Array Keyed) × Array Keyed × Nat × Nat × Nat) fun _ c => do
    let p ← loPair a b (a.size + b.size) c.2.2.2.2 c.2.1 c.2.2.1 c.2.2.2.1
    match p.1 with
    | some r => pure (.done (some r, p.2.1, p.2.2.1, p.2.2.2.1, c.2.2.2.2))
    | none => do
      liftM (rule "list.sort.gallop")
      let g ← loGal a b (a.size + b.size) p.2.1 p.2.2.1 p.2.2.2.1 (c.2.2.2.2 + 1) p.2.2.2.2.1 p.2.2.2.2.2
      match g.1 with
      | some r => pure (.done (some r, g.2.1, g.2.2.1, g.2.2.2.1, g.2.2.2.2.1))
      | none => do
        setMinGallop' (g.2.2.2.2.1 + 1)
        pure (.yield (none, g.2.1, g.2.2.1, g.2.2.2.1, g.2.2.2.2.1 + 1))
  match c.1 with
  | some r => pure r
  | none => unsupported "internal:list.sort.merge-bound") := by
  refine bind_congr fun _ => ?_
  refine bind_congr fun e => ?_
  dsimp only
  refine ite_congr rfl (fun _ => rfl) fun _ => ?_
  refine ite_congr rfl (fun _ => rfl) fun _ => ?_
  refine bind_congr fun s => ?_
  congr 1
  · congr 1
    funext _ c
    congr 1
    funext p
    obtain ⟨p1, p2, p3, p4, p5, p6⟩ := p
    cases p1 with
    | some r => rfl
    | none =>
      dsimp only
      refine bind_congr fun _ => ?_
      congr 1
      funext g
      obtain ⟨g1, g2⟩ := g
      cases g1 with
      | some r => rfl
      | none => rfl
  · funext c
    obtain ⟨c1, c2⟩ := c
    cases c1 with
    | some r => rfl
    | none => rfl
end Mine
end

-- part SC
section
open PySem PyProof.Rows
set_option maxRecDepth 100000
namespace Mine

theorem setMinGallop'_eq (g : Nat) : setMinGallop' g = modify fun s => SortSt.mk' (kindOf s) (arrOf s) (pendingOf s) g (failedOf s) := rfl

structure Lo (T : List Keyed) (a b out : Array Keyed) (ia ib : Nat) : Prop where
  mi : MI T out.toList (a.toList.drop ia) (b.toList.drop ib)
  ha : ia + 1 < a.size
  hb : ib < b.size
structure LoCtx (a b : Array Keyed) : Prop where
  ia : AllI a.toList
  ib : AllI b.toList
  sa : Srt a.toList
  sb : Srt b.toList
  last : ∀ y ∈ b.toList, ∀ x, a[a.size - 1]? = some x → ky y ≤ ky x

theorem loDone_list (a b out : Array Keyed) (ia ib : Nat) : (loDone a b out ia ib).toList = out.toList ++ a.toList.drop ia ++ b.toList.drop ib := by
  unfold loDone; rw [Array.toList_append, Array.toList_append, ext_drop, ext_drop]
theorem loLast_list (a b out : Array Keyed) (ia ib : Nat) : (loLast a b out ia ib).toList = out.toList ++ b.toList.drop ib ++ a.toList.drop ia := by
  unfold loLast; rw [Array.toList_append, Array.toList_append, ext_drop, ext_drop]
theorem loDone_fin {T : List Keyed} {a b out : Array Keyed} {ia ib : Nat} (h : MI T out.toList (a.toList.drop ia) (b.toList.drop ib)) (he : ia = a.size ∨ ib = b.size) : Fin T (loDone a b out ia ib) := by
  unfold Fin
  rw [loDone_list]
  refine h.fin fun x hx y hy => ?_
  rcases he with rfl | rfl
  · rw [drop_all] at hx; cases hx
  · rw [drop_all] at hy; cases hy
theorem loLast_fin {T : List Keyed} {a b out : Array Keyed} {ia ib : Nat} (C : LoCtx a b) (h : MI T out.toList (a.toList.drop ia) (b.toList.drop ib)) (he : ia + 1 = a.size) : Fin T (loLast a b out ia ib) := by
  unfold Fin
  rw [loLast_list]
  refine h.fin' fun x hx y hy => ?_
  obtain ⟨z, hz, _⟩ := at_lt (a := a) (i := ia) (by lia)
  rw [drop_one hz, he, drop_all] at hx
  rcases List.mem_append.mp hx with hx | hx
  · rw [List.mem_singleton.mp hx]
    exact C.last y (List.mem_of_mem_drop hy) z (by rw [← he]; simpa using hz)
  · cases hx

def PostG (T : List Keyed) (a b : Array Keyed) (k₀ : Nat) (st : SortSt) (r : ForInStep GSt) (st' : SortSt) : Prop := Same st st' ∧ match r with
  | .done c => (∃ res, c.1 = some res ∧ Fin T res) ∨ (c.1 = none ∧ Lo T a b c.2.1 c.2.2.1 c.2.2.2.1 ∧ k₀ < c.2.2.1 + c.2.2.2.1)
  | .yield c => c.1 = none ∧ Lo T a b c.2.1 c.2.2.1 c.2.2.2.1 ∧ k₀ < c.2.2.1 + c.2.2.2.1

section
variable {prog : Program} {w : World} {A : Around} {E : Value → Shared → Prop} {s : Shared} {T : List Keyed} {a b out : Array Keyed}

theorem MI.pushL {ia ib : Nat} {e : Keyed} (h : MI T out.toList (a.toList.drop ia) (b.toList.drop ib)) (he : a[ia]? = some e) (hx : ∀ y ∈ b.toList.drop ib, ky e ≤ ky y) :
    MI T (out.push e).toList (a.toList.drop (ia + 1)) (b.toList.drop ib) := by
  rw [drop_one he] at h
  rw [Array.toList_push]
  exact h.takeL fun x hx' y hy => by rw [List.mem_singleton.mp hx']; exact hx y hy
theorem MI.pushR {ia ib : Nat} {e : Keyed} (h : MI T out.toList (a.toList.drop ia) (b.toList.drop ib)) (he : b[ib]? = some e) (hx : ∀ y ∈ a.toList.drop ia, ky e ≤ ky y) :
    MI T (out.push e).toList (a.toList.drop ia) (b.toList.drop (ib + 1)) := by
  rw [drop_one he] at h
  rw [Array.toList_push]
  exact h.takeR fun x hx' y hy => by rw [List.mem_singleton.mp hx']; exact hx y hy
theorem MI.extL {ia ib k : Nat} (h : MI T out.toList (a.toList.drop ia) (b.toList.drop ib)) (hx : ∀ x ∈ (a.extract ia (ia + k)).toList, ∀ y ∈ b.toList.drop ib, ky x ≤ ky y) :
    MI T (out ++ a.extract ia (ia + k)).toList (a.toList.drop (ia + k)) (b.toList.drop ib) := by
  rw [drop_split a ia k] at h
  rw [Array.toList_append]
  exact h.takeL hx
theorem MI.extR {ia ib k : Nat} (h : MI T out.toList (a.toList.drop ia) (b.toList.drop ib)) (hx : ∀ x ∈ (b.extract ib (ib + k)).toList, ∀ y ∈ a.toList.drop ia, ky x ≤ ky y) :
    MI T (out ++ b.extract ib (ib + k)).toList (a.toList.drop ia) (b.toList.drop (ib + k)) := by
  rw [drop_split b ib k] at h
  rw [Array.toList_append]
  exact h.takeR hx

theorem head_le {l : Array Keyed} {i : Nat} {e : Keyed} (hs : Srt l.toList) (he : l[i]? = some e) : ∀ y ∈ l.toList.drop i, ky e ≤ ky y := by
  intro y hy
  have h := List.Pairwise.sublist (List.drop_sublist i l.toList) hs
  rw [drop_one he] at h hy
  rcases List.mem_append.mp hy with hy | hy
  · rw [List.mem_singleton.mp hy]; exact Int.le_refl _
  · exact (List.pairwise_append.mp h).2.2 e (List.mem_singleton.mpr rfl) y hy

theorem wpS_loTail {ia ib mg ac bc k₀ : Nat} {st₀ st : SortSt} (C : LoCtx a b) (hS : Same st₀ st) (h : MI T out.toList (a.toList.drop ia) (b.toList.drop ib)) (ha : ia + 1 < a.size) (hb : ib < b.size)
    (hx : ∀ e, a[ia]? = some e → ∀ y ∈ b.toList.drop ib, ky e ≤ ky y) (hk : k₀ ≤ ia + ib) :
    wpS (model prog w) A E s (loTail a b out ia ib mg ac bc) (PostG T a b k₀ st₀) st := by
  unfold loTail
  obtain ⟨e, he, _⟩ := at_lt (a := a) (i := ia) (by lia)
  refine wpS_bind (wpS_elem he ?_)
  have h' := h.pushL he (hx e he)
  by_cases h1 : ia + 1 + 1 = a.size
  · rw [if_pos (by simpa using h1)]
    exact wpS_pure ⟨hS, .inl ⟨_, rfl, loLast_fin C h' h1⟩⟩
  · rw [if_neg (by simpa using h1)]
    have hL : Lo T a b (out.push e) (ia + 1) ib := ⟨h', by lia, hb⟩
    split
    · exact wpS_pure ⟨hS, .inr ⟨rfl, hL, by dsimp only; lia⟩⟩
    · exact wpS_pure ⟨hS, rfl, hL, by dsimp only; lia⟩

theorem wpS_loMid {ia ib mg ac bc k₀ : Nat} {st₀ st : SortSt} (C : LoCtx a b) (hS : Same st₀ st) (hkd : kindOf st = oneType') (h : MI T out.toList (a.toList.drop ia) (b.toList.drop ib)) (ha : ia + 1 < a.size) (hb : ib < b.size)
    (hx : ∀ e, b[ib]? = some e → ∀ y ∈ a.toList.drop ia, ky e ≤ ky y) (hk : k₀ ≤ ia + ib) :
    wpS (model prog w) A E s (loMid a b out ia ib mg ac bc) (PostG T a b k₀ st₀) st := by
  unfold loMid
  obtain ⟨e, he, _⟩ := at_lt (a := b) (i := ib) hb
  refine wpS_bind (wpS_elem he ?_)
  have h' := h.pushR he (hx e he)
  by_cases h1 : ib + 1 = b.size
  · rw [if_pos (by simpa using h1)]
    exact wpS_pure ⟨hS, .inl ⟨_, rfl, loDone_fin h' (.inr h1)⟩⟩
  · rw [if_neg (by simpa using h1)]
    obtain ⟨f, hf, hfm⟩ := at_lt (a := a) (i := ia) (by lia)
    refine wpS_bind (wpS_elem hf ?_)
    refine wpS_bind (wpS_gallop hkd (C.ia f hfm) (seg_of C.ib C.sb (i := ib + 1) (n := b.size - (ib + 1)) (by lia)) (by lia) fun k hkn p1 p2 => ?_)
    have g1 := gal_in (by lia) p1
    have g2 := gal_out (n := b.size - (ib + 1)) (by lia) p2
    have hfle := head_le C.sa hf
    dsimp only
    by_cases hk0 : k > 0
    · rw [if_pos hk0]
      have h'' := h'.extR (k := k) fun x hx' y hy => by
        have c1 := g1 x hx'
        unfold Cnd at c1; simp only [if_true] at c1
        have := hfle y hy
        lia
      by_cases h2 : ib + 1 + k = b.size
      · rw [if_pos (by simpa using h2)]
        exact wpS_pure ⟨hS, .inl ⟨_, rfl, loDone_fin h'' (.inr h2)⟩⟩
      · rw [if_neg (by simpa using h2)]
        refine wpS_loTail C hS h'' ha (by lia) (fun e' he' y hy => ?_) (by lia)
        rw [hf] at he'; cases he'
        have c2 := g2 y hy
        unfold Cnd at c2; simp only [if_true] at c2
        lia
    · rw [if_neg hk0]
      have hk0' : k = 0 := by lia
      subst hk0'
      refine wpS_loTail C hS h' ha (by lia) (fun e' he' y hy => ?_) (by lia)
      rw [hf] at he'; cases he'
      have c2 := g2 y hy
      unfold Cnd at c2; simp only [if_true] at c2
      lia

theorem wpS_loTurn {ia ib mg ac bc k₀ : Nat} {st₀ st : SortSt} (C : LoCtx a b) (hS : Same st₀ st) (hkd : kindOf st = oneType') (h : Lo T a b out ia ib) (hk : k₀ ≤ ia + ib) :
    wpS (model prog w) A E s (loTurn a b out ia ib mg ac bc) (PostG T a b k₀ st₀) st := by
  obtain ⟨h, ha, hb⟩ := h
  unfold loTurn
  rw [setMinGallop'_eq]
  refine wpS_bind (wpS_modify ?_)
  have hS' : Same st₀ (SortSt.mk' (kindOf st) (arrOf st) (pendingOf st) mg (failedOf st)) := ⟨hS.1, hS.2.1, hS.2.2.1, hS.2.2.2⟩
  have hkd' : kindOf (SortSt.mk' (kindOf st) (arrOf st) (pendingOf st) mg (failedOf st)) = oneType' := hkd
  obtain ⟨f, hf, hfm⟩ := at_lt (a := b) (i := ib) hb
  refine wpS_bind (wpS_elem hf ?_)
  refine wpS_bind (wpS_gallop hkd' (C.ib f hfm) (seg_of C.ia C.sa (i := ia) (n := a.size - ia) (by lia)) (by lia) fun k hkn p1 p2 => ?_)
  have g1 := gal_in (by lia) p1
  have g2 := gal_out (n := a.size - ia) (by lia) p2
  have hfle := head_le C.sb hf
  dsimp only
  by_cases hk0 : k > 0
  · rw [if_pos hk0]
    have h'' := h.extL (k := k) fun x hx' y hy => by
      have c1 := g1 x hx'
      unfold Cnd at c1; simp only [Bool.false_eq_true, if_false] at c1
      have := hfle y hy
      lia
    by_cases h2 : ia + k + 1 = a.size
    · rw [if_pos (by simpa using h2)]
      exact wpS_pure ⟨hS', .inl ⟨_, rfl, loLast_fin C h'' h2⟩⟩
    · rw [if_neg (by simpa using h2)]
      by_cases h3 : ia + k = a.size
      · rw [if_pos (by simpa using h3)]
        exact wpS_pure ⟨hS', .inl ⟨_, rfl, loDone_fin h'' (.inl h3)⟩⟩
      · rw [if_neg (by simpa using h3)]
        refine wpS_loMid C hS' hkd' h'' (by lia) hb (fun e' he' y hy => ?_) (by lia)
        rw [hf] at he'; cases he'
        have c2 := g2 y hy
        unfold Cnd at c2; simp only [Bool.false_eq_true, if_false] at c2
        lia
  · rw [if_neg hk0]
    have hk0' : k = 0 := by lia
    subst hk0'
    refine wpS_loMid C hS' hkd' h ha hb (fun e' he' y hy => ?_) (by lia)
    rw [hf] at he'; cases he'
    have c2 := g2 y hy
    unfold Cnd at c2; simp only [Bool.false_eq_true, if_false] at c2
    lia

theorem wpS_loGal {ia ib mg ac bc total : Nat} {st₀ st : SortSt} {Q : GSt → SortSt → Prop} (C : LoCtx a b) (hS : Same st₀ st) (hkd : kindOf st₀ = oneType') (h : Lo T a b out ia ib) (ht : 1 ≤ total)
    (hQ : ∀ c st', Same st₀ st' → ((∃ res, c.1 = some res ∧ Fin T res) ∨ (c.1 = none ∧ Lo T a b c.2.1 c.2.2.1 c.2.2.2.1 ∧ ia + ib < c.2.2.1 + c.2.2.2.1)) → Q c st') :
    wpS (model prog w) A E s (loGal a b total out ia ib mg ac bc) Q st := by
  unfold loGal
  refine wpS_forRange (I := fun x c st' => Same st₀ st' ∧ c.1 = none ∧ Lo T a b c.2.1 c.2.2.1 c.2.2.2.1 ∧ ia + ib + min x 1 ≤ c.2.2.1 + c.2.2.2.1) ?step ?fin ⟨hS, rfl, h, by dsimp only; lia⟩
  case fin =>
    rintro c st' ⟨hS', hc, hL, hm⟩
    exact hQ c st' hS' (.inr ⟨hc, hL, by lia⟩)
  case step =>
    rintro x c st' _ hx ⟨hS', hc, hL, hm⟩
    have go : ∀ mg', wpS (model prog w) A E s (loTurn a b c.2.1 c.2.2.1 c.2.2.2.1 mg' c.2.2.2.2.2.1 c.2.2.2.2.2.2) (fun r st' => match r with
        | .done c' => Q c' st'
        | .yield c' => Same st₀ st' ∧ c'.1 = none ∧ Lo T a b c'.2.1 c'.2.2.1 c'.2.2.2.1 ∧ ia + ib + min (x + 1) 1 ≤ c'.2.2.1 + c'.2.2.2.1) st' := fun mg' => by
      refine wpS_mono (wpS_loTurn (k₀ := ia + ib) (st₀ := st₀) C hS' (hS'.1.trans hkd) hL (by lia)) fun r st'' hr => ?_
      obtain ⟨hS'', hr⟩ := hr
      cases r with
      | done c' => exact hQ c' st'' hS'' hr
      | yield c' => exact ⟨hS'', hr.1, hr.2.1, by have := hr.2.2; lia⟩
    split
    · exact wpS_mono (go _) fun r st' h => by cases r <;> exact h
    · exact wpS_mono (go _) fun r st' h => by cases r <;> exact h

theorem wpS_loPair {ia ib mg total : Nat} {st : SortSt} {Q : PSt → SortSt → Prop} (C : LoCtx a b) (hkd : kindOf st = oneType') (h : Lo T a b out ia ib)
    (hQ : ∀ c, ((∃ res, c.1 = some res ∧ Fin T res) ∨ (c.1 = none ∧ Lo T a b c.2.1 c.2.2.1 c.2.2.2.1 ∧ ia + ib ≤ c.2.2.1 + c.2.2.2.1)) → Q c st) :
    wpS (model prog w) A E s (loPair a b total mg out ia ib) Q st := by
  unfold loPair
  refine wpS_forRange (I := fun _ c st' => st' = st ∧ c.1 = none ∧ Lo T a b c.2.1 c.2.2.1 c.2.2.2.1 ∧ ia + ib ≤ c.2.2.1 + c.2.2.2.1) ?step ?fin ⟨rfl, rfl, h, Nat.le_refl _⟩
  case fin =>
    rintro c st' ⟨rfl, hc, hL, hm⟩
    exact hQ c (.inr ⟨hc, hL, hm⟩)
  case step =>
    rintro x ⟨c0, o, i, j, ac, bc⟩ st' _ hx ⟨rfl, hc, ⟨hmi, ha, hb⟩, hm⟩
    dsimp only at hc hmi ha hb hm ⊢
    obtain ⟨e, he, hem⟩ := at_lt (a := b) (i := j) hb
    obtain ⟨f, hf, hfm⟩ := at_lt (a := a) (i := i) (by lia)
    refine wpS_bind (wpS_elem he (wpS_bind (wpS_elem hf (wpS_bind (wpS_lt hkd (C.ib e hem) (C.ia f hfm) ?_)))))
    dsimp only
    by_cases hlt : ky e < ky f
    · rw [if_pos (by simpa using hlt)]
      refine wpS_bind (wpS_elem he ?_)
      have h' := hmi.pushR he fun y hy => by have := head_le C.sa hf y hy; lia
      by_cases h1 : j + 1 = b.size
      · rw [if_pos (by simpa using h1)]
        exact wpS_pure (hQ _ (.inl ⟨_, rfl, loDone_fin h' (.inr h1)⟩))
      · rw [if_neg (by simpa using h1)]
        have hL : Lo T a b (o.push e) i (j + 1) := ⟨h', ha, by lia⟩
        split
        · exact wpS_pure (hQ _ (.inr ⟨rfl, hL, by dsimp only; lia⟩))
        · exact wpS_pure ⟨rfl, rfl, hL, by dsimp only; lia⟩
    · rw [if_neg (by simpa using hlt)]
      refine wpS_bind (wpS_elem hf ?_)
      have h' := hmi.pushL hf fun y hy => by have := head_le C.sb he y hy; lia
      by_cases h1 : i + 1 + 1 = a.size
      · rw [if_pos (by simpa using h1)]
        exact wpS_pure (hQ _ (.inl ⟨_, rfl, loLast_fin C h' h1⟩))
      · rw [if_neg (by simpa using h1)]
        have hL : Lo T a b (o.push f) (i + 1) j := ⟨h', by lia, hb⟩
        split
        · exact wpS_pure (hQ _ (.inr ⟨rfl, hL, by dsimp only; lia⟩))
        · exact wpS_pure ⟨rfl, rfl, hL, by dsimp only; lia⟩

theorem wpS_mergeLo {st : SortSt} {Q : Array Keyed → SortSt → Prop} (C : LoCtx a b) (hkd : kindOf st = oneType') (ha : 1 ≤ a.size) (hb : 1 ≤ b.size)
    (h0 : ∀ e, b[0]? = some e → ∀ x ∈ a.toList, ky e ≤ ky x)
    (hQ : ∀ out st', Same st st' → Fin (a.toList ++ b.toList) out → Q out st') : wpS (model prog w) A E s (mergeLo' a b) Q st := by
  rw [mergeLo'_eq]
  refine wpS_bind (wpS_lift (wpAny_rule ⟨rfl, ?_⟩))
  obtain ⟨e, he, _⟩ := at_lt (a := b) (i := 0) hb
  refine wpS_bind (wpS_elem he ?_)
  have hstart : MI (a.toList ++ b.toList) (#[] : Array Keyed).toList (a.toList.drop 0) (b.toList.drop 0) :=
    ⟨by simp, List.Pairwise.nil, by simpa using C.sa, by simpa using C.sb, fun x hx => by simp at hx⟩
  have h1 := hstart.pushR he (by simpa using h0 e he)
  have e1 : (#[] : Array Keyed).push e = #[e] := rfl
  rw [e1] at h1
  by_cases hb1 : 1 = b.size
  · rw [if_pos (by simpa using hb1)]
    exact wpS_pure (hQ _ _ Same.rfl' (loDone_fin h1 (.inr hb1)))
  · rw [if_neg (by simpa using hb1)]
    by_cases ha1 : 0 + 1 = a.size
    · rw [if_pos (by simpa using ha1)]
      exact wpS_pure (hQ _ _ Same.rfl' (loLast_fin C h1 ha1))
    · rw [if_neg (by simpa using ha1)]
      refine wpS_bind (wpS_get ?_)
      refine wpS_bind (wpS_mono (wpS_forRange (I := fun x c st' => Same st st' ∧ c.1 = none ∧ Lo (a.toList ++ b.toList) a b c.2.1 c.2.2.1 c.2.2.2.1 ∧ x ≤ c.2.2.1 + c.2.2.2.1)
        (Q := fun c st' => Same st st' ∧ ∃ res, c.1 = some res ∧ Fin (a.toList ++ b.toList) res) ?step ?fin ⟨Same.rfl', rfl, ⟨h1, by dsimp only; lia, by dsimp only; lia⟩, by dsimp only; lia⟩) ?post)
      case post =>
        rintro ⟨c0, c⟩ st' ⟨hS, res, hc, hF⟩
        dsimp only at hc ⊢
        subst hc
        exact wpS_pure (hQ _ _ hS hF)
      case fin =>
        rintro ⟨c0, o, i, j, mg⟩ st' ⟨hS, hc, ⟨_, h2, h3⟩, hm⟩
        dsimp only at h2 h3 hm
        lia
      case step =>
        rintro x ⟨c0, o, i, j, mg⟩ st' _ hx ⟨hS, hc, hL, hm⟩
        dsimp only at hL hm ⊢
        have hkd' : kindOf st' = oneType' := hS.1.trans hkd
        refine wpS_bind (wpS_loPair C hkd' hL fun p hp => ?_)
        obtain ⟨p0, po, pi, pj, pac, pbc⟩ := p
        dsimp only at hp ⊢
        rcases hp with ⟨res, rfl, hF⟩ | ⟨rfl, hL', hm'⟩
        · exact wpS_pure ⟨hS, res, rfl, hF⟩
        · refine wpS_bind (wpS_lift (wpAny_rule ⟨rfl, ?_⟩))
          refine wpS_bind (wpS_loGal (st₀ := st') C Same.rfl' hkd' hL' (by lia) fun g st'' hS'' hg => ?_)
          obtain ⟨g0, go, gi, gj, gmg, gac, gbc⟩ := g
          dsimp only at hg ⊢
          rcases hg with ⟨res, rfl, hF⟩ | ⟨rfl, hL'', hm''⟩
          · exact wpS_pure ⟨hS.trans hS'', res, rfl, hF⟩
          · rw [setMinGallop'_eq]
            refine wpS_bind (wpS_modify (wpS_pure ?_))
            exact ⟨hS.trans ⟨hS''.1, hS''.2.1, hS''.2.2.1, hS''.2.2.2⟩, rfl, hL'', by dsimp only; lia⟩
end
end Mine
end

-- part SD
section
open PySem PyProof.Rows
set_option maxRecDepth 100000
namespace Mine

def mergeHi' : Array Keyed → Array Keyed → StateT SortSt Sem (Array Keyed) := sortPriv% PySem.Builtin.mergeHi


abbrev HSt := Option (Array Keyed) × Nat × Nat × Array Keyed × Nat × Nat × Nat
abbrev hiDone (a b out : Array Keyed) (na nb : Nat) : Array Keyed := a.extract 0 na ++ b.extract 0 nb ++ out.reverse
abbrev hiFirst (a b out : Array Keyed) (na nb : Nat) : Array Keyed := b.extract 0 nb ++ a.extract 0 na ++ out.reverse
def hiTail (a b out : Array Keyed) (na nb mg ac bc : Nat) : StateT SortSt Sem (ForInStep HSt) := do
  let e ← elem' a (na - 1)
  if na - 1 == 0 then pure (.done (some (hiDone a b (out.push e) (na - 1) nb), na - 1, nb, out.push e, mg, ac, bc))
  else if decide (ac < 7) && decide (bc < 7) then pure (.done (none, na - 1, nb, out.push e, mg, ac, bc))
  else pure (.yield (none, na - 1, nb, out.push e, mg, ac, bc))
def hiMid (a b out : Array Keyed) (na nb mg ac bc : Nat) : StateT SortSt Sem (ForInStep HSt) := do
  let e ← elem' b (nb - 1)
  if nb - 1 == 1 then pure (.done (some (hiFirst a b (out.push e) na (nb - 1)), na, nb - 1, out.push e, mg, ac, bc))
  else do
    let x ← elem' a (na - 1)
    match ← gallop' true x b 0 (nb - 1) (nb - 1 - 1) with
    | some r =>
      if nb - 1 - r > 0 then
        if r == 1 then pure (.done (some (hiFirst a b (out.push e ++ (b.extract r (nb - 1)).reverse) na r), na, r, out.push e ++ (b.extract r (nb - 1)).reverse, mg, ac, nb - 1 - r))
        else if r == 0 then pure (.done (some (hiDone a b (out.push e ++ (b.extract r (nb - 1)).reverse) na r), na, r, out.push e ++ (b.extract r (nb - 1)).reverse, mg, ac, nb - 1 - r))
        else hiTail a b (out.push e ++ (b.extract r (nb - 1)).reverse) na r mg ac (nb - 1 - r)
      else hiTail a b (out.push e) na (nb - 1) mg ac (nb - 1 - r)
    | _ => pure (.done (some (hiDone a b (out.push e) na (nb - 1)), na, nb - 1, out.push e, mg, ac, bc))
def hiTurn (a b out : Array Keyed) (na nb mg ac bc : Nat) : StateT SortSt Sem (ForInStep HSt) := do
  setMinGallop' mg
  let x ← elem' b (nb - 1)
  match ← gallop' false x a 0 na (na - 1) with
  | some r =>
    if na - r > 0 then
      if r == 0 then pure (.done (some (hiDone a b (out ++ (a.extract r na).reverse) r nb), r, nb, out ++ (a.extract r na).reverse, mg, na - r, bc))
      else hiMid a b (out ++ (a.extract r na).reverse) r nb mg (na - r) bc
    else hiMid a b out na nb mg (na - r) bc
  | _ => pure (.done (some (hiDone a b out na nb), na, nb, out, mg, ac, bc))
def hiGal (a b : Array Keyed) (total : Nat) (out : Array Keyed) (na nb mg ac bc : Nat) : StateT SortSt Sem HSt :=
  forIn [0:total] ((none, na, nb, out, mg, ac, bc) : HSt) fun _ c =>
    if c.2.2.2.2.1 > 1 then hiTurn a b c.2.2.2.1 c.2.1 c.2.2.1 (c.2.2.2.2.1 - 1) c.2.2.2.2.2.1 c.2.2.2.2.2.2
    else hiTurn a b c.2.2.2.1 c.2.1 c.2.2.1 c.2.2.2.2.1 c.2.2.2.2.2.1 c.2.2.2.2.2.2
abbrev HPSt := Option (Array Keyed) × Nat × Nat × Array Keyed × Nat × Nat
def hiPair (a b : Array Keyed) (total mg : Nat) (out : Array Keyed) (na nb : Nat) : StateT SortSt Sem HPSt :=
  forIn [0:total] ((none, na, nb, out, 0, 0) : HPSt) fun _ c => do
    let y ← elem' b (c.2.2.1 - 1)
    let x ← elem' a (c.2.1 - 1)
    match ← lt' y x with
    | some aWins =>
      if aWins then do
        let e ← elem' a (c.2.1 - 1)
        if c.2.1 - 1 == 0 then pure (.done (some (hiDone a b (c.2.2.2.1.push e) (c.2.1 - 1) c.2.2.1), c.2.1 - 1, c.2.2.1, c.2.2.2.1.push e, c.2.2.2.2.1 + 1, 0))
        else if c.2.2.2.2.1 + 1 ≥ mg then pure (.done (none, c.2.1 - 1, c.2.2.1, c.2.2.2.1.push e, c.2.2.2.2.1 + 1, 0))
        else pure (.yield (none, c.2.1 - 1, c.2.2.1, c.2.2.2.1.push e, c.2.2.2.2.1 + 1, 0))
      else do
        let e ← elem' b (c.2.2.1 - 1)
        if c.2.2.1 - 1 == 1 then pure (.done (some (hiFirst a b (c.2.2.2.1.push e) c.2.1 (c.2.2.1 - 1)), c.2.1, c.2.2.1 - 1, c.2.2.2.1.push e, 0, c.2.2.2.2.2 + 1))
        else if c.2.2.2.2.2 + 1 ≥ mg then pure (.done (none, c.2.1, c.2.2.1 - 1, c.2.2.2.1.push e, 0, c.2.2.2.2.2 + 1))
        else pure (.yield (none, c.2.1, c.2.2.1 - 1, c.2.2.2.1.push e, 0, c.2.2.2.2.2 + 1))
    | _ => pure (.done (some (hiDone a b c.2.2.2.1 c.2.1 c.2.2.1), c.2.1, c.2.2.1, c.2.2.2.1, c.2.2.2.2.1, c.2.2.2.2.2))

theorem mergeHi'_eq (a b : Array Keyed) : mergeHi' a b = (do
  rule "list.sort.merge-hi"
  let e ← elem' a (a.size - 1)
  if a.size - 1 == 0 then return hiDone a b #[e] (a.size - 1) b.size
  if b.size == 1 then return hiFirst a b #[e] (a.size - 1) b.size
  let s ← get
  let c ← forIn [0:a.size + b.size] ((none, a.size - 1, b.size, #[e], gallopOf s) : Option (Array Keyed) × Nat × Nat × Array Keyed × Nat) fun _ c => do
    let p ← hiPair a b (a.size + b.size) c.2.2.2.2 c.2.2.2.1 c.2.1 c.2.2.1
    match p.1 with
    | some r => pure (.done (some r, p.2.1, p.2.2.1, p.2.2.2.1, c.2.2.2.2))
    | none => do
      liftM (rule "list.sort.gallop")
      let g ← hiGal a b (a.size + b.size) p.2.2.2.1 p.2.1 p.2.2.1 (c.2.2.2.2 + 1) p.2.2.2.2.1 p.2.2.2.2.2
      match g.1 with
      | some r => pure (.done (some r, g.2.1, g.2.2.1, g.2.2.2.1, g.2.2.2.2.1))
      | none => do
        setMinGallop' (g.2.2.2.2.1 + 1)
        pure (.yield (none, g.2.1, g.2.2.1, g.2.2.2.1, g.2.2.2.2.1 + 1))
  match c.1 with
  | some r => pure r
  | none => unsupported "internal:list.sort.merge-bound") := by
  refine bind_congr fun _ => ?_
  refine bind_congr fun e => ?_
  dsimp only
  refine ite_congr rfl (fun _ => rfl) fun _ => ?_
  refine ite_congr rfl (fun _ => rfl) fun _ => ?_
  refine bind_congr fun s => ?_
  congr 1
  · congr 1
    funext _ c
    congr 1
    funext p
    obtain ⟨p1, p2, p3, p4, p5, p6⟩ := p
    cases p1 with
    | some r => rfl
    | none =>
      dsimp only
      refine bind_congr fun _ => ?_
      congr 1
      funext g
      obtain ⟨g1, g2⟩ := g
      cases g1 with
      | some r => rfl
      | none => rfl
  · funext c
    obtain ⟨c1, c2⟩ := c
    cases c1 with
    | some r => rfl
    | none => rfl

/-- what is left of two sides, and what a merge from above has put out -/
structure MH (T l r o : List Keyed) : Prop where
  perm : (l ++ r ++ o).Perm T
  so : Srt o
  sl : Srt l
  sr : Srt r
  le : ∀ x ∈ l ++ r, ∀ y ∈ o, ky x ≤ ky y

theorem MH.takeL {T l X r o : List Keyed} (h : MH T (l ++ X) r o) (hx : ∀ y ∈ r, ∀ x ∈ X, ky y ≤ ky x) : MH T l r (X ++ o) where
  perm := by
    refine List.Perm.trans ?_ h.perm
    simp only [List.append_assoc]
    refine List.Perm.append_left _ ?_
    rw [← List.append_assoc, ← List.append_assoc]
    exact List.Perm.append_right _ List.perm_append_comm
  so := List.pairwise_append.mpr ⟨(List.pairwise_append.mp h.sl).2.1, h.so, fun x hx y hy => h.le x (by simp [hx]) y hy⟩
  sl := (List.pairwise_append.mp h.sl).1
  sr := h.sr
  le := fun x hm y hy => by
    rcases List.mem_append.mp hy with hy | hy
    · rcases List.mem_append.mp hm with hm | hm
      · exact (List.pairwise_append.mp h.sl).2.2 x hm y hy
      · exact hx x hm y hy
    · exact h.le x (by rcases List.mem_append.mp hm with hm | hm <;> simp [hm]) y hy
theorem MH.takeR {T l X r o : List Keyed} (h : MH T l (r ++ X) o) (hx : ∀ y ∈ l, ∀ x ∈ X, ky y ≤ ky x) : MH T l r (X ++ o) where
  perm := by have := h.perm; simpa only [List.append_assoc] using this
  so := List.pairwise_append.mpr ⟨(List.pairwise_append.mp h.sr).2.1, h.so, fun x hx y hy => h.le x (by simp [hx]) y hy⟩
  sl := h.sl
  sr := (List.pairwise_append.mp h.sr).1
  le := fun x hm y hy => by
    rcases List.mem_append.mp hy with hy | hy
    · rcases List.mem_append.mp hm with hm | hm
      · exact hx x hm y hy
      · exact (List.pairwise_append.mp h.sr).2.2 x hm y hy
    · exact h.le x (by rcases List.mem_append.mp hm with hm | hm <;> simp [hm]) y hy
theorem MH.fin {T l r o : List Keyed} (h : MH T l r o) (hlr : ∀ x ∈ l, ∀ y ∈ r, ky x ≤ ky y) : (l ++ r ++ o).Perm T ∧ Srt (l ++ r ++ o) := by
  refine ⟨h.perm, List.pairwise_append.mpr ⟨List.pairwise_append.mpr ⟨h.sl, h.sr, hlr⟩, h.so, h.le⟩⟩
theorem MH.fin' {T l r o : List Keyed} (h : MH T l r o) (hlr : ∀ x ∈ l, ∀ y ∈ r, ky y ≤ ky x) : (r ++ l ++ o).Perm T ∧ Srt (r ++ l ++ o) := by
  refine ⟨List.Perm.trans (List.Perm.append_right _ List.perm_append_comm) h.perm, List.pairwise_append.mpr ⟨List.pairwise_append.mpr ⟨h.sr, h.sl, fun y hy x hx => hlr x hx y hy⟩, h.so, fun x hx y hy => h.le x ?_ y hy⟩⟩
  rcases List.mem_append.mp hx with hx | hx <;> simp [hx]

theorem ext_take (a : Array Keyed) (n : Nat) : (a.extract 0 n).toList = a.toList.take n := by
  simp [Array.toList_extract, List.extract_eq_take_drop]
theorem take_split (a : Array Keyed) {r n : Nat} (h : r ≤ n) : a.toList.take n = a.toList.take r ++ (a.extract r n).toList := by
  simp only [Array.toList_extract, List.extract_eq_take_drop]
  obtain ⟨d, rfl⟩ := Nat.le.dest h
  rw [Nat.add_sub_cancel_left, List.take_add]
theorem take_one {a : Array Keyed} {n : Nat} {x : Keyed} (hn : 1 ≤ n) (h : a[n - 1]? = some x) : a.toList.take n = a.toList.take (n - 1) ++ [x] := by
  obtain ⟨m, rfl⟩ : ∃ m, n = m + 1 := ⟨n - 1, by lia⟩
  simp only [Nat.add_sub_cancel] at h ⊢
  rw [List.take_add_one]
  have h' : a.toList[m]? = some x := by simpa using h
  rw [h']; rfl

theorem gal_mid {left : Bool} {key : Keyed} {a : Array Keyed} {r n : Nat} (hn : n ≤ a.size) (h2 : ∀ i, r ≤ i → i < n → Pg left key a 0 i = false) :
    ∀ x ∈ (a.extract r n).toList, ¬ Cnd left key x := by
  intro x hx hc
  obtain ⟨j, hj, e⟩ := List.mem_iff_getElem.mp hx
  have hj' : r + j < n := by
    simp only [Array.length_toList, Array.size_extract] at hj; lia
  have e2 : a[0 + (r + j)]? = some x := by
    rw [← e, Nat.zero_add]; simp [show r + j < a.size by lia]
  have := (Pg_iff (left := left) (key := key) e2).mpr hc
  rw [h2 (r + j) (by lia) hj'] at this
  cases this
theorem gal_pre {left : Bool} {key : Keyed} {a : Array Keyed} {r : Nat} (hr : r ≤ a.size) (h1 : ∀ i, i < r → Pg left key a 0 i = true) :
    ∀ x ∈ a.toList.take r, Cnd left key x := by
  have := gal_in (left := left) (key := key) (a := a) (b := 0) (k := r) (by lia) h1
  rwa [Nat.zero_add, ext_take] at this

structure Hi (T : List Keyed) (a b out : Array Keyed) (na nb : Nat) : Prop where
  mh : MH T (a.toList.take na) (b.toList.take nb) out.toList.reverse
  ha : 1 ≤ na
  hb : 2 ≤ nb
  ha' : na ≤ a.size
  hb' : nb ≤ b.size
structure HiCtx (a b : Array Keyed) : Prop where
  ia : AllI a.toList
  ib : AllI b.toList
  sa : Srt a.toList
  sb : Srt b.toList
  first : ∀ x ∈ a.toList, ∀ y, b[0]? = some y → ky y ≤ ky x

theorem hiDone_list (a b out : Array Keyed) (na nb : Nat) : (hiDone a b out na nb).toList = a.toList.take na ++ b.toList.take nb ++ out.toList.reverse := by
  unfold hiDone; rw [Array.toList_append, Array.toList_append, ext_take, ext_take, Array.toList_reverse]
theorem hiFirst_list (a b out : Array Keyed) (na nb : Nat) : (hiFirst a b out na nb).toList = b.toList.take nb ++ a.toList.take na ++ out.toList.reverse := by
  unfold hiFirst; rw [Array.toList_append, Array.toList_append, ext_take, ext_take, Array.toList_reverse]
theorem hiDone_fin {T : List Keyed} {a b out : Array Keyed} {na nb : Nat} (h : MH T (a.toList.take na) (b.toList.take nb) out.toList.reverse) (he : na = 0 ∨ nb = 0) : Fin T (hiDone a b out na nb) := by
  unfold Fin
  rw [hiDone_list]
  refine h.fin fun x hx y hy => ?_
  rcases he with rfl | rfl
  · simp at hx
  · simp at hy
theorem hiFirst_fin {T : List Keyed} {a b out : Array Keyed} {na nb : Nat} (C : HiCtx a b) (h : MH T (a.toList.take na) (b.toList.take nb) out.toList.reverse) (he : nb = 1) : Fin T (hiFirst a b out na nb) := by
  unfold Fin
  rw [hiFirst_list]
  refine h.fin' fun x hx y hy => ?_
  subst he
  have hy' : b[0]? = some y := by
    cases hb : b.toList with
    | nil => rw [hb] at hy; cases hy
    | cons z r =>
      rw [hb] at hy
      have hyz : y = z := by simpa using hy
      have : b.toList[0]? = some z := by rw [hb]; rfl
      rw [hyz]; simpa using this
  exact C.first x (List.mem_of_mem_take hx) y hy'

def PostH (T : List Keyed) (a b : Array Keyed) (k₀ : Nat) (st : SortSt) (r : ForInStep HSt) (st' : SortSt) : Prop := Same st st' ∧ match r with
  | .done c => (∃ res, c.1 = some res ∧ Fin T res) ∨ (c.1 = none ∧ Hi T a b c.2.2.2.1 c.2.1 c.2.2.1 ∧ c.2.1 + c.2.2.1 < k₀)
  | .yield c => c.1 = none ∧ Hi T a b c.2.2.2.1 c.2.1 c.2.2.1 ∧ c.2.1 + c.2.2.1 < k₀

section
variable {prog : Program} {w : World} {A : Around} {E : Value → Shared → Prop} {s : Shared} {T : List Keyed} {a b out : Array Keyed}

theorem MH.pushL {na nb : Nat} {e : Keyed} (h : MH T (a.toList.take na) (b.toList.take nb) out.toList.reverse) (hn : 1 ≤ na) (he : a[na - 1]? = some e) (hx : ∀ y ∈ b.toList.take nb, ky y ≤ ky e) :
    MH T (a.toList.take (na - 1)) (b.toList.take nb) (out.push e).toList.reverse := by
  rw [take_one hn he] at h
  rw [Array.toList_push, List.reverse_append]
  exact h.takeL fun y hy x hx' => by rw [List.mem_singleton.mp hx']; exact hx y hy
theorem MH.pushR {na nb : Nat} {e : Keyed} (h : MH T (a.toList.take na) (b.toList.take nb) out.toList.reverse) (hn : 1 ≤ nb) (he : b[nb - 1]? = some e) (hx : ∀ y ∈ a.toList.take na, ky y ≤ ky e) :
    MH T (a.toList.take na) (b.toList.take (nb - 1)) (out.push e).toList.reverse := by
  rw [take_one hn he] at h
  rw [Array.toList_push, List.reverse_append]
  exact h.takeR fun y hy x hx' => by rw [List.mem_singleton.mp hx']; exact hx y hy
theorem MH.extL {na nb r : Nat} (h : MH T (a.toList.take na) (b.toList.take nb) out.toList.reverse) (hr : r ≤ na) (hx : ∀ y ∈ b.toList.take nb, ∀ x ∈ (a.extract r na).toList, ky y ≤ ky x) :
    MH T (a.toList.take r) (b.toList.take nb) (out ++ (a.extract r na).reverse).toList.reverse := by
  rw [take_split a hr] at h
  rw [Array.toList_append, List.reverse_append, Array.toList_reverse, List.reverse_reverse]
  exact h.takeL hx
theorem MH.extR {na nb r : Nat} (h : MH T (a.toList.take na) (b.toList.take nb) out.toList.reverse) (hr : r ≤ nb) (hx : ∀ y ∈ a.toList.take na, ∀ x ∈ (b.extract r nb).toList, ky y ≤ ky x) :
    MH T (a.toList.take na) (b.toList.take r) (out ++ (b.extract r nb).reverse).toList.reverse := by
  rw [take_split b hr] at h
  rw [Array.toList_append, List.reverse_append, Array.toList_reverse, List.reverse_reverse]
  exact h.takeR hx

theorem last_ge {l : Array Keyed} {n : Nat} {e : Keyed} (hs : Srt l.toList) (hn : 1 ≤ n) (he : l[n - 1]? = some e) : ∀ y ∈ l.toList.take n, ky y ≤ ky e := by
  intro y hy
  have h := List.Pairwise.sublist (List.take_sublist n l.toList) hs
  rw [take_one hn he] at h hy
  rcases List.mem_append.mp hy with hy | hy
  · exact (List.pairwise_append.mp h).2.2 y hy e (List.mem_singleton.mpr rfl)
  · rw [List.mem_singleton.mp hy]; exact Int.le_refl _

theorem wpS_hiTail {na nb mg ac bc k₀ : Nat} {st₀ st : SortSt} (hS : Same st₀ st) (h : Hi T a b out na nb)
    (hx : ∀ e, a[na - 1]? = some e → ∀ y ∈ b.toList.take nb, ky y ≤ ky e) (hk : na + nb ≤ k₀) :
    wpS (model prog w) A E s (hiTail a b out na nb mg ac bc) (PostH T a b k₀ st₀) st := by
  obtain ⟨h, ha, hb, ha', hb'⟩ := h
  unfold hiTail
  obtain ⟨e, he, _⟩ := at_lt (a := a) (i := na - 1) (by lia)
  refine wpS_bind (wpS_elem he ?_)
  have h' := h.pushL ha he (hx e he)
  by_cases h1 : na - 1 = 0
  · rw [if_pos (by simpa using h1)]
    exact wpS_pure ⟨hS, .inl ⟨_, rfl, hiDone_fin h' (.inl h1)⟩⟩
  · rw [if_neg (by simpa using h1)]
    have hL : Hi T a b (out.push e) (na - 1) nb := ⟨h', by lia, hb, by lia, hb'⟩
    split
    · exact wpS_pure ⟨hS, .inr ⟨rfl, hL, by dsimp only; lia⟩⟩
    · exact wpS_pure ⟨hS, rfl, hL, by dsimp only; lia⟩

theorem wpS_hiMid {na nb mg ac bc k₀ : Nat} {st₀ st : SortSt} (C : HiCtx a b) (hS : Same st₀ st) (hkd : kindOf st = oneType') (h : Hi T a b out na nb)
    (hx : ∀ e, b[nb - 1]? = some e → ∀ y ∈ a.toList.take na, ky y ≤ ky e) (hk : na + nb ≤ k₀) :
    wpS (model prog w) A E s (hiMid a b out na nb mg ac bc) (PostH T a b k₀ st₀) st := by
  obtain ⟨h, ha, hb, ha', hb'⟩ := h
  unfold hiMid
  obtain ⟨e, he, _⟩ := at_lt (a := b) (i := nb - 1) (by lia)
  refine wpS_bind (wpS_elem he ?_)
  have h' := h.pushR (by lia) he (hx e he)
  by_cases h1 : nb - 1 = 1
  · rw [if_pos (by simpa using h1)]
    exact wpS_pure ⟨hS, .inl ⟨_, rfl, hiFirst_fin C h' h1⟩⟩
  · rw [if_neg (by simpa using h1)]
    obtain ⟨f, hf, hfm⟩ := at_lt (a := a) (i := na - 1) (by lia)
    refine wpS_bind (wpS_elem hf ?_)
    refine wpS_bind (wpS_gallop hkd (C.ia f hfm) (seg_of C.ib C.sb (i := 0) (n := nb - 1) (by lia)) (by lia) fun r hr p1 p2 => ?_)
    have g1 := gal_pre (by lia) p1
    have g2 := gal_mid (n := nb - 1) (by lia) p2
    have hfge := last_ge C.sa ha hf
    dsimp only
    by_cases hk0 : nb - 1 - r > 0
    · rw [if_pos hk0]
      have h'' := h'.extR (r := r) hr fun y hy x hx' => by
        have c1 := g2 x hx'
        unfold Cnd at c1; simp only [if_true] at c1
        have := hfge y hy
        lia
      by_cases h2 : r = 1
      · rw [if_pos (by simpa using h2)]
        exact wpS_pure ⟨hS, .inl ⟨_, rfl, hiFirst_fin C h'' h2⟩⟩
      · rw [if_neg (by simpa using h2)]
        by_cases h3 : r = 0
        · rw [if_pos (by simpa using h3)]
          exact wpS_pure ⟨hS, .inl ⟨_, rfl, hiDone_fin h'' (.inr h3)⟩⟩
        · rw [if_neg (by simpa using h3)]
          refine wpS_hiTail hS ⟨h'', ha, by lia, ha', by lia⟩ (fun e' he' y hy => ?_) (by lia)
          rw [hf] at he'; cases he'
          have c2 := g1 y hy
          unfold Cnd at c2; simp only [if_true] at c2
          lia
    · rw [if_neg hk0]
      have hr' : r = nb - 1 := by lia
      subst hr'
      refine wpS_hiTail hS ⟨h', ha, by lia, ha', by lia⟩ (fun e' he' y hy => ?_) (by lia)
      rw [hf] at he'; cases he'
      have c2 := g1 y hy
      unfold Cnd at c2; simp only [if_true] at c2
      lia

theorem wpS_hiTurn {na nb mg ac bc k₀ : Nat} {st₀ st : SortSt} (C : HiCtx a b) (hS : Same st₀ st) (hkd : kindOf st = oneType') (h : Hi T a b out na nb) (hk : na + nb ≤ k₀) :
    wpS (model prog w) A E s (hiTurn a b out na nb mg ac bc) (PostH T a b k₀ st₀) st := by
  obtain ⟨h, ha, hb, ha', hb'⟩ := h
  unfold hiTurn
  rw [setMinGallop'_eq]
  refine wpS_bind (wpS_modify ?_)
  have hS' : Same st₀ (SortSt.mk' (kindOf st) (arrOf st) (pendingOf st) mg (failedOf st)) := ⟨hS.1, hS.2.1, hS.2.2.1, hS.2.2.2⟩
  have hkd' : kindOf (SortSt.mk' (kindOf st) (arrOf st) (pendingOf st) mg (failedOf st)) = oneType' := hkd
  obtain ⟨f, hf, hfm⟩ := at_lt (a := b) (i := nb - 1) (by lia)
  refine wpS_bind (wpS_elem hf ?_)
  refine wpS_bind (wpS_gallop hkd' (C.ib f hfm) (seg_of C.ia C.sa (i := 0) (n := na) (by lia)) (by lia) fun r hr p1 p2 => ?_)
  have g1 := gal_pre (by lia) p1
  have g2 := gal_mid (n := na) (by lia) p2
  have hfge := last_ge C.sb (by lia) hf
  dsimp only
  by_cases hk0 : na - r > 0
  · rw [if_pos hk0]
    have h'' := h.extL (r := r) hr fun y hy x hx' => by
      have c1 := g2 x hx'
      unfold Cnd at c1; simp only [Bool.false_eq_true, if_false] at c1
      have := hfge y hy
      lia
    by_cases h2 : r = 0
    · rw [if_pos (by simpa using h2)]
      exact wpS_pure ⟨hS', .inl ⟨_, rfl, hiDone_fin h'' (.inl h2)⟩⟩
    · rw [if_neg (by simpa using h2)]
      refine wpS_hiMid C hS' hkd' ⟨h'', by lia, hb, by lia, hb'⟩ (fun e' he' y hy => ?_) (by lia)
      rw [hf] at he'; cases he'
      have c2 := g1 y hy
      unfold Cnd at c2; simp only [Bool.false_eq_true, if_false] at c2
      lia
  · rw [if_neg hk0]
    have hr' : r = na := by lia
    subst hr'
    refine wpS_hiMid C hS' hkd' ⟨h, ha, hb, ha', hb'⟩ (fun e' he' y hy => ?_) (by lia)
    rw [hf] at he'; cases he'
    have c2 := g1 y hy
    unfold Cnd at c2; simp only [Bool.false_eq_true, if_false] at c2
    lia

theorem wpS_hiGal {na nb mg ac bc total : Nat} {st₀ st : SortSt} {Q : HSt → SortSt → Prop} (C : HiCtx a b) (hS : Same st₀ st) (hkd : kindOf st₀ = oneType') (h : Hi T a b out na nb) (ht : 1 ≤ total)
    (hQ : ∀ c st', Same st₀ st' → ((∃ res, c.1 = some res ∧ Fin T res) ∨ (c.1 = none ∧ Hi T a b c.2.2.2.1 c.2.1 c.2.2.1 ∧ c.2.1 + c.2.2.1 < na + nb)) → Q c st') :
    wpS (model prog w) A E s (hiGal a b total out na nb mg ac bc) Q st := by
  unfold hiGal
  refine wpS_forRange (I := fun x c st' => Same st₀ st' ∧ c.1 = none ∧ Hi T a b c.2.2.2.1 c.2.1 c.2.2.1 ∧ c.2.1 + c.2.2.1 + min x 1 ≤ na + nb) ?step ?fin ⟨hS, rfl, h, by dsimp only; lia⟩
  case fin =>
    rintro c st' ⟨hS', hc, hL, hm⟩
    exact hQ c st' hS' (.inr ⟨hc, hL, by lia⟩)
  case step =>
    rintro x c st' _ hx ⟨hS', hc, hL, hm⟩
    have go : ∀ mg', wpS (model prog w) A E s (hiTurn a b c.2.2.2.1 c.2.1 c.2.2.1 mg' c.2.2.2.2.2.1 c.2.2.2.2.2.2) (PostH T a b (na + nb) st₀) st' := fun mg' => wpS_hiTurn C hS' (hS'.1.trans hkd) hL (by lia)
    have fit : ∀ r st'', PostH T a b (na + nb) st₀ r st'' → (match r with
        | .done c' => Q c' st''
        | .yield c' => Same st₀ st'' ∧ c'.1 = none ∧ Hi T a b c'.2.2.2.1 c'.2.1 c'.2.2.1 ∧ c'.2.1 + c'.2.2.1 + min (x + 1) 1 ≤ na + nb) := fun r st'' hr => by
      obtain ⟨hS'', hr⟩ := hr
      cases r with
      | done c' => exact hQ c' st'' hS'' hr
      | yield c' => exact ⟨hS'', hr.1, hr.2.1, by have := hr.2.2; lia⟩
    split
    · exact wpS_mono (go _) fun r st' h => by have := fit r st' h; cases r <;> exact this
    · exact wpS_mono (go _) fun r st' h => by have := fit r st' h; cases r <;> exact this

theorem wpS_hiPair {na nb mg total : Nat} {st : SortSt} {Q : HPSt → SortSt → Prop} (C : HiCtx a b) (hkd : kindOf st = oneType') (h : Hi T a b out na nb)
    (hQ : ∀ c, ((∃ res, c.1 = some res ∧ Fin T res) ∨ (c.1 = none ∧ Hi T a b c.2.2.2.1 c.2.1 c.2.2.1 ∧ c.2.1 + c.2.2.1 ≤ na + nb)) → Q c st) :
    wpS (model prog w) A E s (hiPair a b total mg out na nb) Q st := by
  unfold hiPair
  refine wpS_forRange (I := fun _ c st' => st' = st ∧ c.1 = none ∧ Hi T a b c.2.2.2.1 c.2.1 c.2.2.1 ∧ c.2.1 + c.2.2.1 ≤ na + nb) ?step ?fin ⟨rfl, rfl, h, Nat.le_refl _⟩
  case fin =>
    rintro c st' ⟨rfl, hc, hL, hm⟩
    exact hQ c (.inr ⟨hc, hL, hm⟩)
  case step =>
    rintro x ⟨c0, i, j, o, ac, bc⟩ st' _ hx ⟨rfl, hc, ⟨hmi, ha, hb, ha', hb'⟩, hm⟩
    dsimp only at hc hmi ha hb ha' hb' hm ⊢
    obtain ⟨e, he, hem⟩ := at_lt (a := b) (i := j - 1) (by lia)
    obtain ⟨f, hf, hfm⟩ := at_lt (a := a) (i := i - 1) (by lia)
    refine wpS_bind (wpS_elem he (wpS_bind (wpS_elem hf (wpS_bind (wpS_lt hkd (C.ib e hem) (C.ia f hfm) ?_)))))
    dsimp only
    by_cases hlt : ky e < ky f
    · rw [if_pos (by simpa using hlt)]
      refine wpS_bind (wpS_elem hf ?_)
      have h' := hmi.pushL ha hf fun y hy => by have := last_ge C.sb (by lia) he y hy; lia
      by_cases h1 : i - 1 = 0
      · rw [if_pos (by simpa using h1)]
        exact wpS_pure (hQ _ (.inl ⟨_, rfl, hiDone_fin h' (.inl h1)⟩))
      · rw [if_neg (by simpa using h1)]
        have hL : Hi T a b (o.push f) (i - 1) j := ⟨h', by lia, hb, by lia, hb'⟩
        split
        · exact wpS_pure (hQ _ (.inr ⟨rfl, hL, by dsimp only; lia⟩))
        · exact wpS_pure ⟨rfl, rfl, hL, by dsimp only; lia⟩
    · rw [if_neg (by simpa using hlt)]
      refine wpS_bind (wpS_elem he ?_)
      have h' := hmi.pushR (by lia) he fun y hy => by have := last_ge C.sa ha hf y hy; lia
      by_cases h1 : j - 1 = 1
      · rw [if_pos (by simpa using h1)]
        exact wpS_pure (hQ _ (.inl ⟨_, rfl, hiFirst_fin C h' h1⟩))
      · rw [if_neg (by simpa using h1)]
        have hL : Hi T a b (o.push e) i (j - 1) := ⟨h', ha, by lia, ha', by lia⟩
        split
        · exact wpS_pure (hQ _ (.inr ⟨rfl, hL, by dsimp only; lia⟩))
        · exact wpS_pure ⟨rfl, rfl, hL, by dsimp only; lia⟩

theorem wpS_mergeHi {st : SortSt} {Q : Array Keyed → SortSt → Prop} (C : HiCtx a b) (hkd : kindOf st = oneType') (ha : 1 ≤ a.size) (hb : 1 ≤ b.size)
    (h0 : ∀ e, a[a.size - 1]? = some e → ∀ y ∈ b.toList, ky y ≤ ky e)
    (hQ : ∀ out st', Same st st' → Fin (a.toList ++ b.toList) out → Q out st') : wpS (model prog w) A E s (mergeHi' a b) Q st := by
  rw [mergeHi'_eq]
  refine wpS_bind (wpS_lift (wpAny_rule ⟨rfl, ?_⟩))
  obtain ⟨e, he, _⟩ := at_lt (a := a) (i := a.size - 1) (by lia)
  refine wpS_bind (wpS_elem he ?_)
  have ta : a.toList.take a.size = a.toList := List.take_of_length_le (by simp)
  have tb : b.toList.take b.size = b.toList := List.take_of_length_le (by simp)
  have hstart : MH (a.toList ++ b.toList) (a.toList.take a.size) (b.toList.take b.size) (#[] : Array Keyed).toList.reverse := by
    rw [ta, tb]
    exact ⟨by simp, List.Pairwise.nil, C.sa, C.sb, fun x _ y hy => by simp at hy⟩
  have h1 := hstart.pushL ha he (by rw [tb]; exact h0 e he)
  have e1 : (#[] : Array Keyed).push e = #[e] := rfl
  rw [e1] at h1
  by_cases ha1 : a.size - 1 = 0
  · rw [if_pos (by simpa using ha1)]
    exact wpS_pure (hQ _ _ Same.rfl' (hiDone_fin h1 (.inl ha1)))
  · rw [if_neg (by simpa using ha1)]
    by_cases hb1 : b.size = 1
    · rw [if_pos (by simpa using hb1)]
      exact wpS_pure (hQ _ _ Same.rfl' (hiFirst_fin C h1 hb1))
    · rw [if_neg (by simpa using hb1)]
      refine wpS_bind (wpS_get ?_)
      refine wpS_bind (wpS_mono (wpS_forRange (I := fun x c st' => Same st st' ∧ c.1 = none ∧ Hi (a.toList ++ b.toList) a b c.2.2.2.1 c.2.1 c.2.2.1 ∧ x + c.2.1 + c.2.2.1 ≤ a.size + b.size)
        (Q := fun c st' => Same st st' ∧ ∃ res, c.1 = some res ∧ Fin (a.toList ++ b.toList) res) ?step ?fin ⟨Same.rfl', rfl, ⟨h1, by dsimp only; lia, by dsimp only; lia, by dsimp only; lia, by dsimp only; lia⟩, by dsimp only; lia⟩) ?post)
      case post =>
        rintro ⟨c0, c⟩ st' ⟨hS, res, hc, hF⟩
        dsimp only at hc ⊢
        subst hc
        exact wpS_pure (hQ _ _ hS hF)
      case fin =>
        rintro ⟨c0, i, j, o, mg⟩ st' ⟨hS, hc, ⟨_, h2, h3, _, _⟩, hm⟩
        dsimp only at h2 h3 hm
        lia
      case step =>
        rintro x ⟨c0, i, j, o, mg⟩ st' _ hx ⟨hS, hc, hL, hm⟩
        dsimp only at hL hm ⊢
        have hkd' : kindOf st' = oneType' := hS.1.trans hkd
        refine wpS_bind (wpS_hiPair C hkd' hL fun p hp => ?_)
        obtain ⟨p0, pi, pj, po, pac, pbc⟩ := p
        dsimp only at hp ⊢
        rcases hp with ⟨res, rfl, hF⟩ | ⟨rfl, hL', hm'⟩
        · exact wpS_pure ⟨hS, res, rfl, hF⟩
        · refine wpS_bind (wpS_lift (wpAny_rule ⟨rfl, ?_⟩))
          refine wpS_bind (wpS_hiGal (st₀ := st') C Same.rfl' hkd' hL' (by lia) fun g st'' hS'' hg => ?_)
          obtain ⟨g0, gi, gj, go, gmg, gac, gbc⟩ := g
          dsimp only at hg ⊢
          rcases hg with ⟨res, rfl, hF⟩ | ⟨rfl, hL'', hm''⟩
          · exact wpS_pure ⟨hS.trans hS'', res, rfl, hF⟩
          · rw [setMinGallop'_eq]
            refine wpS_bind (wpS_modify (wpS_pure ?_))
            exact ⟨hS.trans ⟨hS''.1, hS''.2.1, hS''.2.2.1, hS''.2.2.2⟩, rfl, hL'', by dsimp only; lia⟩
end
end Mine
end

-- part SE
section
open PySem PyProof.Rows
set_option maxRecDepth 100000
namespace Mine

/-- the sort's state over a₀: pending p, and the places below lo as in a₁ -/
structure SP (a₀ a₁ : Array Keyed) (lo : Nat) (p : Array (Nat × Nat × Nat)) (st : SortSt) : Prop where
  perm : (arrOf st).Perm a₀
  kind : kindOf st = oneType'
  failed : failedOf st = none
  pend : pendingOf st = p
  pre : ∀ i, i < lo → (arrOf st)[i]? = a₁[i]?
theorem SP.size {a₀ a₁ : Array Keyed} {lo : Nat} {p : Array (Nat × Nat × Nat)} {st : SortSt} (h : SP a₀ a₁ lo p st) : (arrOf st).size = a₀.size := h.perm.size_eq
theorem SP.set {a₀ a₁ : Array Keyed} {lo : Nat} {p : Array (Nat × Nat × Nat)} {st : SortSt} (h : SP a₀ a₁ lo p st) {xs : Array Keyed} (hp : xs.Perm (arrOf st)) (hx : ∀ i, i < lo → xs[i]? = (arrOf st)[i]?) : SP a₀ a₁ lo p (setArr st xs) :=
  ⟨hp.trans h.perm, h.kind, h.failed, h.pend, fun i hi => (hx i hi).trans (h.pre i hi)⟩
theorem SP.mirror {a₀ a₁ : Array Keyed} {lo i j : Nat} {p : Array (Nat × Nat × Nat)} {st : SortSt} (h : SP a₀ a₁ lo p st) (hi : lo ≤ i) (hj : j ≤ a₀.size) : SP a₀ a₁ lo p (setArr st (mirror (arrOf st) i j ((j - i) / 2))) :=
  h.set (mirror_perm _ _ _ _) fun k hk => by rw [getElem?_mirror_all (by rw [h.size]; exact hj), if_neg (by lia)]
theorem SP.isI {a₀ a₁ : Array Keyed} {lo : Nat} {p : Array (Nat × Nat × Nat)} {st : SortSt} (h : SP a₀ a₁ lo p st) (h0 : IntKeys a₀) : AllI (arrOf st).toList := fun q hq => h0 q ((Array.perm_iff_toList_perm.mp h.perm).mem_iff.mp hq)

def SFrom (xs : Array Keyed) (lo n : Nat) : Prop := ∀ i j, i ≤ j → j < n → K xs (lo + i) ≤ K xs (lo + j)
def DFrom (xs : Array Keyed) (lo n : Nat) : Prop := ∀ i j, i ≤ j → j < n → K xs (lo + j) ≤ K xs (lo + i)

def ascL (lo a nrem : Nat) : StateT SortSt Sem AscSt :=
  forIn [a:nrem] ((none, a) : AscSt) fun _ c => do
    match ← ltAt' (lo + c.2) (lo + c.2 - 1) with
    | some smaller => if smaller = true then pure (.done (none, c.2)) else pure (.yield (none, c.2 + 1))
    | _ => pure (.done (some none, c.2))
def tailL (lo n nrem : Nat) : StateT SortSt Sem (Option Nat) := do
  reverseSlice' lo (lo + n)
  let c ← ascL lo n nrem
  match c.1 with
  | some r => pure r
  | none => pure (some c.2)
def descL (lo n nrem : Nat) : StateT SortSt Sem DescSt :=
  forIn [n:nrem] ((none, n, 0) : DescSt) fun _ c => do
    match ← ltAt' (lo + c.2.1) (lo + c.2.1 - 1) with
    | some smaller =>
      if smaller = true then
        if c.2.2 > 0 then do
          reverseSlice' (lo + c.2.1 - (c.2.2 + 1)) (lo + c.2.1)
          pure (.yield (none, c.2.1 + 1, 0))
        else pure (.yield (none, c.2.1 + 1, 0))
      else do
        match ← ltAt' (lo + c.2.1 - 1) (lo + c.2.1) with
        | some larger => if larger = true then pure (.done (none, c.2.1, c.2.2)) else pure (.yield (none, c.2.1 + 1, c.2.2 + 1))
        | _ => pure (.done (some none, c.2.1, c.2.2))
    | _ => pure (.done (some none, c.2.1, c.2.2))
def downL (lo n nrem : Nat) : StateT SortSt Sem (Option Nat) := do
  liftM (rule "list.sort.descending-run")
  let c ← descL lo (n + 1) nrem
  match c.1 with
  | some r => pure r
  | none =>
    if c.2.2 > 0 then do
      reverseSlice' (lo + c.2.1 - (c.2.2 + 1)) (lo + c.2.1)
      tailL lo c.2.1 nrem
    else tailL lo c.2.1 nrem

theorem countL_eq (lo nrem : Nat) : countRun' lo nrem = (do
    let c ← ascL lo 1 nrem
    match c.1 with
    | some r => pure r
    | none =>
      if (c.2 == nrem) = true then pure (some c.2)
      else if c.2 > 1 then do
        match ← ltAt' lo (lo + c.2 - 1) with
        | some rose => if rose = true then pure (some c.2) else do
            reverseSlice' lo (lo + c.2)
            downL lo c.2 nrem
        | _ => pure none
      else downL lo c.2 nrem) := by
  have tl : ∀ n, (do
      reverseSlice' lo (lo + n)
      let c ← ascL lo n nrem
      match c.1 with
      | some r => pure r
      | none => pure (some c.2)) = tailL lo n nrem := fun n => by
    unfold tailL
    refine bind_congr fun _ => bind_congr fun c => ?_
    obtain ⟨c1, c2⟩ := c
    cases c1 <;> rfl
  rw [countRun'_eq]
  refine bind_congr fun c => ?_
  obtain ⟨r, n⟩ := c
  cases r with
  | some r => rfl
  | none =>
    dsimp only
    have dn : ∀ n, downL lo n nrem = downL lo n nrem := fun _ => rfl
    refine ite_congr rfl (fun _ => rfl) fun _ => ?_
    refine ite_congr rfl (fun _ => ?_) fun _ => ?_
    · refine bind_congr fun x => ?_
      cases x with
      | none => rfl
      | some rose =>
        dsimp only
        refine ite_congr rfl (fun _ => rfl) fun _ => ?_
        refine bind_congr fun _ => ?_
        unfold downL
        refine bind_congr fun _ => ?_
        congr 1
        funext s2
        obtain ⟨r2, n2, q2⟩ := s2
        cases r2 with
        | some r2 => rfl
        | none =>
          dsimp only
          refine ite_congr rfl (fun _ => ?_) fun _ => ?_
          · refine bind_congr fun _ => ?_
            rw [← tl]
            refine bind_congr fun _ => ?_
            congr 1
            funext s3
            obtain ⟨r3, n3⟩ := s3
            cases r3 <;> rfl
          · rw [← tl]
            refine bind_congr fun _ => ?_
            congr 1
            funext s3
            obtain ⟨r3, n3⟩ := s3
            cases r3 <;> rfl
    · unfold downL
      refine bind_congr fun _ => ?_
      congr 1
      funext s2
      obtain ⟨r2, n2, q2⟩ := s2
      cases r2 with
      | some r2 => rfl
      | none =>
        dsimp only
        refine ite_congr rfl (fun _ => ?_) fun _ => ?_
        · refine bind_congr fun _ => ?_
          rw [← tl]
          refine bind_congr fun _ => ?_
          congr 1
          funext s3
          obtain ⟨r3, n3⟩ := s3
          cases r3 <;> rfl
        · rw [← tl]
          refine bind_congr fun _ => ?_
          congr 1
          funext s3
          obtain ⟨r3, n3⟩ := s3
          cases r3 <;> rfl

section
variable {prog : Program} {w : World} {A : Around} {E : Value → Shared → Prop} {s : Shared} {a₀ a₁ : Array Keyed} {lo : Nat} {p : Array (Nat × Nat × Nat)}

theorem wpS_ltP {st : SortSt} {i j : Nat} {Q : Option Bool → SortSt → Prop} (hB : SP a₀ a₁ lo p st) (h0 : IntKeys a₀) (hi : i < a₀.size) (hj : j < a₀.size)
    (h : Q (some (decide (K (arrOf st) i < K (arrOf st) j))) st) : wpS (model prog w) A E s (ltAt' i j) Q st := by
  have hI := hB.isI h0
  obtain ⟨x, hx, hxm⟩ := at_lt (a := arrOf st) (i := i) (by rw [hB.size]; exact hi)
  obtain ⟨y, hy, hym⟩ := at_lt (a := arrOf st) (i := j) (by rw [hB.size]; exact hj)
  have ex : K (arrOf st) i = ky x := by unfold K; rw [hx]; rfl
  have ey : K (arrOf st) j = ky y := by unfold K; rw [hy]; rfl
  rw [ltAt'_eq]
  refine wpS_bind (wpS_get ?_)
  refine wpS_bind (wpS_elem hx (wpS_bind (wpS_elem hy (wpS_lt hB.kind (hI x hxm) (hI y hym) ?_))))
  rw [← ex, ← ey]; exact h

theorem wpS_revP {st : SortSt} {i j : Nat} {Q : Unit → SortSt → Prop} (h : Q () (setArr st (mirror (arrOf st) i j ((j - i) / 2)))) :
    wpS (model prog w) A E s (reverseSlice' i j) Q st := by
  rw [reverseSlice'_eq]; exact wpS_modify h

theorem wpS_ascL {st : SortSt} {a nrem : Nat} {Q : AscSt → SortSt → Prop} (h0 : IntKeys a₀) (hn : lo + nrem ≤ a₀.size) (ha : 1 ≤ a) (han : a ≤ nrem) (hB : SP a₀ a₁ lo p st)
    (hs : SFrom (arrOf st) lo a)
    (h : ∀ n, a ≤ n → n ≤ nrem → SFrom (arrOf st) lo n → (n = nrem ∨ K (arrOf st) (lo + n) < K (arrOf st) (lo + n - 1)) → Q (none, n) st) :
    wpS (model prog w) A E s (ascL lo a nrem) Q st := by
  unfold ascL
  refine wpS_forRange (I := fun x c st' => st' = st ∧ c = (none, x) ∧ SFrom (arrOf st) lo x) ?step ?fin ⟨rfl, rfl, hs⟩
  case fin =>
    rintro c st' ⟨rfl, rfl, hs'⟩
    rw [show max a nrem = nrem by lia] at hs' ⊢
    exact h nrem han (Nat.le_refl _) hs' (.inl rfl)
  case step =>
    rintro x c st' hax hxn ⟨rfl, rfl, hs'⟩
    dsimp only
    refine wpS_bind (wpS_ltP hB h0 (by lia) (by lia) ?_)
    by_cases hless : K (arrOf st') (lo + x) < K (arrOf st') (lo + x - 1)
    · simp only [hless, decide_true, if_true]
      exact wpS_pure (h x hax (by lia) hs' (.inr hless))
    · simp only [hless, decide_false, Bool.false_eq_true, if_false]
      refine wpS_pure ⟨rfl, rfl, fun i j hij hj => ?_⟩
      by_cases hjx : j < x
      · exact hs' i j hij hjx
      · have hj' : j = x := by lia
        subst hj'
        by_cases hi' : i = j
        · subst hi'; exact Int.le_refl _
        · have h1 := hs' i (j - 1) (by lia) (by lia)
          rw [show lo + (j - 1) = lo + j - 1 by lia] at h1
          lia

theorem wpS_tailL {st : SortSt} {n nrem : Nat} {Q : Option Nat → SortSt → Prop} (h0 : IntKeys a₀) (hn : lo + nrem ≤ a₀.size) (h1 : 1 ≤ n) (hnn : n ≤ nrem) (hB : SP a₀ a₁ lo p st)
    (hs : DFrom (arrOf st) lo n) (h : ∀ m st', SP a₀ a₁ lo p st' → 1 ≤ m → m ≤ nrem → SFrom (arrOf st') lo m → Q (some m) st') :
    wpS (model prog w) A E s (tailL lo n nrem) Q st := by
  unfold tailL
  have hsz : lo + n ≤ (arrOf st).size := by rw [hB.size]; lia
  refine wpS_bind (wpS_revP ?_)
  have hB' := hB.mirror (i := lo) (j := lo + n) (Nat.le_refl _) (by lia)
  refine wpS_bind (wpS_ascL h0 hn h1 hnn hB' ?_ fun m hm1 hm2 hsm _ => wpS_pure (h m _ hB' (by lia) hm2 hsm))
  intro i j hij hj
  show K (mirror (arrOf st) _ _ _) _ ≤ K (mirror (arrOf st) _ _ _) _
  rw [K_mirror hsz, K_mirror hsz, if_pos (by lia), if_pos (by lia)]
  have := hs (n - 1 - j) (n - 1 - i) (by lia) (by lia)
  rw [show lo + (lo + n) - 1 - (lo + i) = lo + (n - 1 - i) by lia, show lo + (lo + n) - 1 - (lo + j) = lo + (n - 1 - j) by lia]
  exact this

theorem wpS_descL {st : SortSt} {n nrem : Nat} {Q : DescSt → SortSt → Prop} (h0 : IntKeys a₀) (hn : lo + nrem ≤ a₀.size) (h1 : 1 ≤ n) (hnn : n ≤ nrem) (hB : SP a₀ a₁ lo p st)
    (hs : DFrom (arrOf st) lo n)
    (h : ∀ m neq st', SP a₀ a₁ lo p st' → n ≤ m → m ≤ nrem → DFrom (arrOf st') lo m → neq + 1 ≤ m → (∀ i, m - (neq + 1) ≤ i → i < m → K (arrOf st') (lo + i) = K (arrOf st') (lo + m - 1)) → Q (none, m, neq) st') :
    wpS (model prog w) A E s (descL lo n nrem) Q st := by
  unfold descL
  refine wpS_forRange (I := fun x c st' => ∃ neq, c = (none, x, neq) ∧ SP a₀ a₁ lo p st' ∧ DFrom (arrOf st') lo x ∧ neq + 1 ≤ x ∧
      (∀ i, x - (neq + 1) ≤ i → i < x → K (arrOf st') (lo + i) = K (arrOf st') (lo + x - 1))) ?step ?fin ⟨0, rfl, hB, hs, by lia, fun i h1 h2 => by congr 1; lia⟩
  case fin =>
    rintro c st' ⟨neq, rfl, hB', hs', hq, he⟩
    rw [show max n nrem = nrem by lia] at hs' hq he ⊢
    exact h nrem neq st' hB' hnn (Nat.le_refl _) hs' hq he
  case step =>
    rintro x c st' hax hxn ⟨neq, rfl, hB', hs', hq, he⟩
    dsimp only
    have hsz : lo + x ≤ (arrOf st').size := by rw [hB'.size]; lia
    refine wpS_bind (wpS_ltP hB' h0 (by lia) (by lia) ?_)
    by_cases hless : K (arrOf st') (lo + x) < K (arrOf st') (lo + x - 1)
    · simp only [hless, decide_true, if_true]
      have step1 : ∀ xs : Array Keyed, (∀ k, K xs k = K (arrOf st') k) → DFrom xs lo (x + 1) := by
        intro xs hk i j hij hj
        rw [hk, hk]
        by_cases hjx : j < x
        · exact hs' i j hij hjx
        · have hj' : j = x := by lia
          subst hj'
          by_cases hi' : i = j
          · subst hi'; exact Int.le_refl _
          · have h2 := hs' i (j - 1) (by lia) (by lia)
            rw [show lo + (j - 1) = lo + j - 1 by lia] at h2
            lia
      by_cases hneq : neq > 0
      · rw [if_pos hneq]
        refine wpS_bind (wpS_revP (wpS_pure ⟨0, rfl, hB'.mirror (by lia) (by lia), step1 _ (K_mirror_equal hsz fun k h1 h2 => ?_), by lia, fun i h1 h2 => by congr 1; lia⟩))
        have := he (k - lo) (by lia) (by lia)
        rwa [show lo + (k - lo) = k by lia] at this
      · rw [if_neg hneq]
        exact wpS_pure ⟨0, rfl, hB', step1 _ (fun _ => rfl), by lia, fun i h1 h2 => by congr 1; lia⟩
    · simp only [hless, decide_false, Bool.false_eq_true, if_false]
      refine wpS_bind (wpS_ltP hB' h0 (by lia) (by lia) ?_)
      by_cases hlarger : K (arrOf st') (lo + x - 1) < K (arrOf st') (lo + x)
      · simp only [hlarger, decide_true, if_true]
        exact wpS_pure (h x neq st' hB' hax (by lia) hs' hq he)
      · simp only [hlarger, decide_false, Bool.false_eq_true, if_false]
        have heqx : K (arrOf st') (lo + x) = K (arrOf st') (lo + x - 1) := by lia
        refine wpS_pure ⟨neq + 1, rfl, hB', fun i j hij hj => ?_, by lia, fun i h1 h2 => ?_⟩
        · by_cases hjx : j < x
          · exact hs' i j hij hjx
          · have hj' : j = x := by lia
            subst hj'
            by_cases hi' : i = j
            · subst hi'; exact Int.le_refl _
            · have h2 := hs' i (j - 1) (by lia) (by lia)
              rw [show lo + (j - 1) = lo + j - 1 by lia] at h2
              lia
        · rw [show lo + (x + 1) - 1 = lo + x by lia]
          by_cases hix : i = x
          · subst hix; rfl
          · rw [heqx]; exact he i (by lia) (by lia)

theorem wpS_downL {st : SortSt} {n nrem : Nat} {Q : Option Nat → SortSt → Prop} (h0 : IntKeys a₀) (hn : lo + nrem ≤ a₀.size) (hnn : n + 1 ≤ nrem) (hB : SP a₀ a₁ lo p st)
    (hs : DFrom (arrOf st) lo (n + 1)) (h : ∀ m st', SP a₀ a₁ lo p st' → 1 ≤ m → m ≤ nrem → SFrom (arrOf st') lo m → Q (some m) st') :
    wpS (model prog w) A E s (downL lo n nrem) Q st := by
  unfold downL
  refine wpS_bind (wpS_lift (wpAny_rule ⟨rfl, ?_⟩))
  refine wpS_bind (wpS_descL h0 hn (by lia) hnn hB hs fun m neq st' hB' hm1 hm2 hs' hq he => ?_)
  dsimp only
  have hsz : lo + m ≤ (arrOf st').size := by rw [hB'.size]; lia
  by_cases hneq : neq > 0
  · rw [if_pos hneq]
    have hK : ∀ k, K (mirror (arrOf st') (lo + m - (neq + 1)) (lo + m) ((lo + m - (lo + m - (neq + 1))) / 2)) k = K (arrOf st') k := K_mirror_equal hsz fun k h1 h2 => by
      have := he (k - lo) (by lia) (by lia)
      rwa [show lo + (k - lo) = k by lia] at this
    refine wpS_bind (wpS_revP (wpS_tailL h0 hn (by lia) hm2 (hB'.mirror (by lia) (by lia)) ?_ h))
    intro i j hij hj
    show K (mirror (arrOf st') _ _ _) _ ≤ K (mirror (arrOf st') _ _ _) _
    rw [hK, hK]
    exact hs' i j hij hj
  · rw [if_neg hneq]
    exact wpS_tailL h0 hn (by lia) hm2 hB' hs' h

theorem wpS_countL {st : SortSt} {nrem : Nat} {Q : Option Nat → SortSt → Prop} (h0 : IntKeys a₀) (hn : lo + nrem ≤ a₀.size) (h1 : 1 ≤ nrem) (hB : SP a₀ a₁ lo p st)
    (h : ∀ m st', SP a₀ a₁ lo p st' → 1 ≤ m → m ≤ nrem → SFrom (arrOf st') lo m → Q (some m) st') :
    wpS (model prog w) A E s (countRun' lo nrem) Q st := by
  rw [countL_eq]
  refine wpS_bind (wpS_ascL h0 hn (Nat.le_refl 1) h1 hB (fun i j hij hj => by
    have : i = j := by lia
    subst this; exact Int.le_refl _) fun n hn1 hn2 hsn hor => ?_)
  dsimp only
  by_cases hnn : n = nrem
  · rw [if_pos (by simpa using hnn)]
    exact wpS_pure (h n st hB hn1 hn2 hsn)
  · rw [if_neg (by simpa using hnn)]
    have hlt : K (arrOf st) (lo + n) < K (arrOf st) (lo + n - 1) := hor.resolve_left hnn
    by_cases hgt : n > 1
    · rw [if_pos hgt]
      refine wpS_bind (wpS_ltP hB h0 (by lia) (by lia) ?_)
      by_cases hrose : K (arrOf st) lo < K (arrOf st) (lo + n - 1)
      · simp only [hrose, decide_true, if_true]
        exact wpS_pure (h n st hB hn1 hn2 hsn)
      · simp only [hrose, decide_false, Bool.false_eq_true, if_false]
        have hsz : lo + n ≤ (arrOf st).size := by rw [hB.size]; lia
        have hall : ∀ k, lo ≤ k → k < lo + n → K (arrOf st) k = K (arrOf st) (lo + n - 1) := by
          intro k hk1 hk2
          have a1 := hsn 0 (k - lo) (by lia) (by lia)
          have a2 := hsn (k - lo) (n - 1) (by lia) (by lia)
          rw [show lo + (k - lo) = k by lia] at a1 a2
          rw [show lo + 0 = lo by lia] at a1
          rw [show lo + (n - 1) = lo + n - 1 by lia] at a2
          lia
        refine wpS_bind (wpS_revP (wpS_downL h0 hn (by lia) (hB.mirror (Nat.le_refl _) (by lia)) ?_ h))
        intro i j hij hj
        show K (mirror (arrOf st) _ _ _) _ ≤ K (mirror (arrOf st) _ _ _) _
        rw [K_mirror_equal hsz hall, K_mirror_equal hsz hall]
        by_cases hjn : j < n
        · rw [hall (lo + i) (by lia) (by lia), hall (lo + j) (by lia) (by lia)]; exact Int.le_refl _
        · have hj' : j = n := by lia
          subst hj'
          by_cases hi' : i = j
          · subst hi'; exact Int.le_refl _
          · rw [hall (lo + i) (by lia) (by lia)]; exact Int.le_of_lt hlt
    · rw [if_neg hgt]
      have hn1' : n = 1 := by lia
      subst hn1'
      refine wpS_downL h0 hn (by lia) hB ?_ h
      intro i j hij hj
      by_cases hi' : i = j
      · subst hi'; exact Int.le_refl _
      · have hi0 : i = 0 := by lia
        have hj1 : j = 1 := by lia
        subst hi0; subst hj1
        rw [show lo + 1 - 1 = lo + 0 by lia] at hlt
        exact Int.le_of_lt hlt

theorem wpS_binL {st : SortSt} {n ok : Nat} {Q : Bool → SortSt → Prop} (h0 : IntKeys a₀) (hn : lo + n ≤ a₀.size) (hok : ok ≤ n) (hB : SP a₀ a₁ lo p st) (hs : SFrom (arrOf st) lo ok)
    (h : ∀ st', SP a₀ a₁ lo p st' → SFrom (arrOf st') lo n → Q true st') : wpS (model prog w) A E s (binarySort' lo n ok) Q st := by
  rw [binarySort'_eq]
  refine wpS_bind (wpS_mono (wpS_forRange (I := fun k c st' => c = (none, ()) ∧ SP a₀ a₁ lo p st' ∧ SFrom (arrOf st') lo (min k n))
    (Q := fun c st' => c = (none, ()) ∧ SP a₀ a₁ lo p st' ∧ SFrom (arrOf st') lo n) ?step ?fin ?init) ?post)
  case post =>
    rintro c st' ⟨rfl, hB', hs'⟩
    exact wpS_pure (h st' hB' hs')
  case init =>
    refine ⟨rfl, hB, fun i j hij hj => ?_⟩
    by_cases h1 : ok = 0
    · have : i = j := by lia
      subst this; exact Int.le_refl _
    · exact hs i j hij (by lia)
  case fin =>
    rintro c st' ⟨hc, hB', hs'⟩
    refine ⟨hc, hB', ?_⟩
    rwa [show min (max (max ok 1) n) n = n by lia] at hs'
  case step =>
    rintro k c st' hak hkn ⟨rfl, hB', hs'⟩
    rw [show min k n = k by lia] at hs'
    refine wpS_bind (wpS_mono (wpS_forRange (I := fun x c st'' => st'' = st' ∧ ∃ l r, c = (none, l, r) ∧ l ≤ r ∧ r ≤ k ∧ r - l ≤ k - x ∧
        (∀ i, i < l → K (arrOf st') (lo + i) ≤ K (arrOf st') (lo + k)) ∧ (∀ i, r ≤ i → i < k → K (arrOf st') (lo + k) < K (arrOf st') (lo + i)))
      (Q := fun c st'' => st'' = st' ∧ ∃ l r, c = (none, l, r) ∧ l ≤ k ∧
        (∀ i, i < l → K (arrOf st') (lo + i) ≤ K (arrOf st') (lo + k)) ∧ (∀ i, l ≤ i → i < k → K (arrOf st') (lo + k) < K (arrOf st') (lo + i))) ?istep ?ifin ?iinit) ?ipost)
    case iinit => exact ⟨rfl, 0, k, rfl, by lia, by lia, by lia, fun i hi => by lia, fun i h1 h2 => by lia⟩
    case ifin =>
      rintro c st'' ⟨rfl, l, r, rfl, hlr, hrk, hm, hlo, hhi⟩
      have : l = r := by lia
      subst this
      exact ⟨rfl, l, l, rfl, hrk, hlo, hhi⟩
    case istep =>
      rintro x c st'' _ hxk ⟨rfl, l, r, rfl, hlr, hrk, hm, hlo, hhi⟩
      dsimp only
      by_cases hge : l ≥ r
      · rw [if_pos hge]
        have : l = r := by lia
        subst this
        exact wpS_pure ⟨rfl, l, l, rfl, hrk, hlo, hhi⟩
      · rw [if_neg hge]
        refine wpS_bind (wpS_ltP hB' h0 (by lia) (by lia) ?_)
        by_cases hless : K (arrOf st'') (lo + k) < K (arrOf st'') (lo + (l + r) / 2)
        · simp only [hless, decide_true, if_true]
          refine wpS_pure ⟨rfl, l, (l + r) / 2, rfl, by lia, by lia, by lia, hlo, fun i h1 h2 => ?_⟩
          exact Int.lt_of_lt_of_le hless (hs' _ _ h1 h2)
        · simp only [hless, decide_false, Bool.false_eq_true, if_false]
          refine wpS_pure ⟨rfl, (l + r) / 2 + 1, r, rfl, by lia, by lia, by lia, fun i h1 => ?_, hhi⟩
          exact Int.le_trans (hs' i ((l + r) / 2) (by lia) (by lia)) (Int.not_lt.mp hless)
    case ipost =>
      rintro c st'' ⟨rfl, l, r, rfl, hlk, hlo, hhi⟩
      show wpS _ _ _ _ (do moveDown' (lo + k) (lo + l); pure (ForInStep.yield (none, ()))) _ _
      rw [moveDown'_eq]
      have hks : lo + k < (arrOf st'').size := by rw [hB'.size]; lia
      have hd : lo + k - (lo + l) = k - l := by lia
      rw [hd]
      refine wpS_bind (wpS_modify (wpS_pure ⟨rfl, hB'.set (bubble_perm _ _ _) (fun i hi => ?_), ?_⟩))
      · rw [getElem?_bubble hks _ (by lia), if_neg (by lia), if_neg (by lia)]
      · rw [show min (k + 1) n = k + 1 by lia]
        intro i j hij hj
        show K (bubble (arrOf st'') (lo + k) (k - l)) _ ≤ K (bubble (arrOf st'') (lo + k) (k - l)) _
        rw [K_bubble hks (by lia), K_bubble hks (by lia), show lo + k - (k - l) = lo + l by lia]
        have e1 : ∀ m, l < m → lo + m - 1 = lo + (m - 1) := fun m hm => by lia
        by_cases hi1 : i < l
        · rw [if_neg (by lia), if_neg (by lia)]
          by_cases hj1 : j = l
          · rw [if_pos (by lia)]; exact hlo i hi1
          · rw [if_neg (by lia)]
            by_cases hj2 : l < j
            · rw [if_pos (by lia), e1 j hj2]; exact hs' _ _ (by lia) (by lia)
            · rw [if_neg (by lia)]; exact hs' _ _ (by lia) (by lia)
        · by_cases hi2 : i = l
          · rw [if_pos (by lia)]
            by_cases hj1 : j = l
            · rw [if_pos (by lia)]; exact Int.le_refl _
            · rw [if_neg (by lia), if_pos (by lia), e1 j (by lia)]
              exact Int.le_of_lt (hhi _ (by lia) (by lia))
          · rw [if_neg (by lia), if_pos (by lia), if_neg (by lia), if_pos (by lia), e1 i (by lia), e1 j (by lia)]
            exact hs' _ _ (by lia) (by lia)
end
end Mine
end

-- part SF
section
open PySem PyProof.Rows
set_option maxRecDepth 100000
namespace Mine

theorem mergeAt'_eq (i : Nat) : mergeAt' i = (do
  let s ← get
  let (some (sa, na, power), some (sb, nb, _)) := ((pendingOf s)[i]?, (pendingOf s)[i + 1]?) | unsupported "internal:list.sort.pending"
  set (setPending s (((pendingOf s).setIfInBounds i (sa, na + nb, power)).eraseIdxIfInBounds (i + 1)))
  let some k ← gallop' false (← elem' (arrOf s) sb) (arrOf s) sa na 0 | return false
  let (sa, na) := (sa + k, na - k)
  if na == 0 then return true
  let some nb ← gallop' true (← elem' (arrOf s) (sa + na - 1)) (arrOf s) sb nb (nb - 1) | return false
  if nb == 0 then return true
  let x := (arrOf s).extract sa sb
  let y := (arrOf s).extract sb (sb + nb)
  let merged ← if na ≤ nb then mergeLo' x y else mergeHi' x y
  modify fun s => setArr s (merged.toList.zipIdx.foldl (fun a (p, j) => a.setIfInBounds (sa + j) p) (arrOf s))
  return (failedOf (← get)).isNone) := rfl

theorem foldl_put {f : Array Keyed → Keyed × Nat → Array Keyed} {sa : Nat} (hf : ∀ a p j, f a (p, j) = a.setIfInBounds (sa + j) p) : ∀ (l : List Keyed) (arr : Array Keyed) (o : Nat), sa + o + l.length ≤ arr.size →
    ((l.zipIdx o).foldl f arr).toList = arr.toList.take (sa + o) ++ l ++ arr.toList.drop (sa + o + l.length)
  | [], arr, o, _ => by simp
  | x :: l, arr, o, h => by
    rw [List.zipIdx_cons, List.foldl_cons, hf]
    simp only [List.length_cons] at h ⊢
    have ih := foldl_put hf l (arr.setIfInBounds (sa + o) x) (o + 1) (by rw [Array.size_setIfInBounds]; lia)
    rw [ih, Array.toList_setIfInBounds]
    have hlt : sa + o < arr.toList.length := by simp; lia
    have e1 : (arr.toList.set (sa + o) x).take (sa + (o + 1)) = arr.toList.take (sa + o) ++ [x] := by
      rw [show sa + (o + 1) = sa + o + 1 by lia, List.take_add_one, List.getElem?_set_self hlt, List.take_set_of_le (Nat.le_refl _)]
      rfl
    have e2 : (arr.toList.set (sa + o) x).drop (sa + (o + 1) + l.length) = arr.toList.drop (sa + o + (l.length + 1)) := by
      rw [show sa + (o + 1) + l.length = sa + o + (l.length + 1) by lia]
      rw [List.drop_set_of_lt (by lia)]
    rw [e1, e2]
    simp

theorem srt_ext {xs : Array Keyed} {lo n : Nat} (h : SFrom xs lo n) (hsz : lo + n ≤ xs.size) : Srt (xs.extract lo (lo + n)).toList := by
  rw [Srt, List.pairwise_iff_getElem]
  intro i j hi hj hij
  simp only [Array.length_toList, Array.size_extract] at hi hj
  have h1 := h i j (Nat.le_of_lt hij) (by lia)
  rw [K_eq (by lia), K_eq (by lia)] at h1
  simpa [ky] using h1
theorem sortedTo_of {xs : Array Keyed} (h : Srt xs.toList) : SortedTo xs xs.size := by
  intro i j hij hj
  by_cases e : i = j
  · subst e; exact Int.le_refl _
  · have := List.pairwise_iff_getElem.mp h i j (by simp; lia) (by simpa using hj) (by lia)
    rw [K_eq (by lia), K_eq hj]
    simpa [ky] using this

section
variable {prog : Program} {w : World} {A : Around} {E : Value → Shared → Prop} {s : Shared} {a₀ a₁ : Array Keyed} {lo : Nat} {p : Array (Nat × Nat × Nat)}

theorem wpS_set {st st' : SortSt} {Q : PUnit → SortSt → Prop} (h : Q ⟨⟩ st') : wpS (model prog w) A E s (set st' : StateT SortSt Sem PUnit) Q st := by
  unfold wpS; rw [StateT.run_set]; exact wpAny_pure ⟨rfl, h⟩

theorem segP {st : SortSt} (hB : SP a₀ a₁ lo p st) (h0 : IntKeys a₀) {i n : Nat} (hn : i + n ≤ a₀.size) (hs : SFrom (arrOf st) i n) : Seg (arrOf st) i n where
  isI := fun j hj => by
    obtain ⟨x, hx, hm⟩ := at_lt (a := arrOf st) (i := i + j) (by rw [hB.size]; lia)
    exact ⟨x, hx, hB.isI h0 x hm⟩
  sorted := hs

theorem wpS_mergeAt0 {st : SortSt} {n1 n2 pw : Nat} {Q : Bool → SortSt → Prop} (h0 : IntKeys a₀) (hB : SP a₀ a₁ lo #[(0, n1, pw), (n1, n2, 0)] st) (hn : n1 + n2 = a₀.size) (h1 : 1 ≤ n1) (h2 : 1 ≤ n2)
    (s1 : SFrom (arrOf st) 0 n1) (s2 : SFrom (arrOf st) n1 n2)
    (h : ∀ st', (arrOf st').Perm a₀ → failedOf st' = none → pendingOf st' = #[(0, n1 + n2, pw)] → SortedTo (arrOf st') a₀.size → Q true st') : wpS (model prog w) A E s (mergeAt' 0) Q st := by
  rw [mergeAt'_eq]
  refine wpS_bind (wpS_get ?_)
  rw [hB.pend]
  have q0 : (#[(0, n1, pw), (n1, n2, 0)] : Array (Nat × Nat × Nat))[0]? = some (0, n1, pw) := rfl
  have q1 : (#[(0, n1, pw), (n1, n2, 0)] : Array (Nat × Nat × Nat))[0 + 1]? = some (n1, n2, 0) := rfl
  have q2 : ((#[(0, n1, pw), (n1, n2, 0)] : Array (Nat × Nat × Nat)).setIfInBounds 0 (0, n1 + n2, pw)).eraseIdxIfInBounds (0 + 1) = #[(0, n1 + n2, pw)] := by
    apply Array.ext'
    simp [Array.eraseIdxIfInBounds]
  rw [q0, q1]
  dsimp only
  rw [q2]
  refine wpS_bind (wpS_set ?_)
  have hsz := hB.size
  have hS1 : Same (setPending st #[(0, n1 + n2, pw)]) (setPending st #[(0, n1 + n2, pw)]) := Same.rfl'
  have hkd : kindOf (setPending st #[(0, n1 + n2, pw)]) = oneType' := hB.kind
  generalize hst1 : setPending st #[(0, n1 + n2, pw)] = st1 at hS1 hkd
  have hI := hB.isI h0
  have g1 := segP hB h0 (i := 0) (n := n1) (by lia) s1
  have g2 := segP hB h0 (i := n1) (n := n2) (by lia) s2
  have t1 : Srt ((arrOf st).toList.take n1) := by have := srt_ext s1 (by lia); rwa [Nat.zero_add, ext_take] at this
  have t2 : Srt ((arrOf st).toList.drop n1) := by have := srt_ext s2 (by lia); rwa [show n1 + n2 = (arrOf st).size by lia, ext_drop] at this
  have whole : (arrOf st).toList = (arrOf st).toList.take n1 ++ (arrOf st).toList.drop n1 := (List.take_append_drop _ _).symm
  obtain ⟨e, he, hem⟩ := at_lt (a := arrOf st) (i := n1) (by lia)
  obtain ⟨f, hf, hfm⟩ := at_lt (a := arrOf st) (i := n1 - 1) (by lia)
  have e_le : ∀ y ∈ (arrOf st).toList.drop n1, ky e ≤ ky y := by
    intro y hy
    rw [drop_one he] at hy t2
    rcases List.mem_append.mp hy with hy | hy
    · rw [List.mem_singleton.mp hy]; exact Int.le_refl _
    · exact (List.pairwise_append.mp t2).2.2 e (List.mem_singleton.mpr rfl) y hy
  have f_ge : ∀ y ∈ (arrOf st).toList.take n1, ky y ≤ ky f := by
    intro y hy
    rw [take_one h1 hf] at hy t1
    rcases List.mem_append.mp hy with hy | hy
    · exact (List.pairwise_append.mp t1).2.2 y hy f (List.mem_singleton.mpr rfl)
    · rw [List.mem_singleton.mp hy]; exact Int.le_refl _
  have fin : ∀ st' : SortSt, arrOf st' = arrOf st → failedOf st' = none → pendingOf st' = #[(0, n1 + n2, pw)] → (∀ x ∈ (arrOf st).toList.take n1, ∀ y ∈ (arrOf st).toList.drop n1, ky x ≤ ky y) → Q true st' := by
    intro st' q1 q2 q3 q4
    refine h st' (by rw [q1]; exact hB.perm) q2 q3 ?_
    rw [q1, ← hsz]
    exact sortedTo_of (by rw [whole]; exact List.pairwise_append.mpr ⟨t1, t2, q4⟩)
  have a_st1 : arrOf st1 = arrOf st := by rw [← hst1]
  have f_st1 : failedOf st1 = none := by rw [← hst1]; exact hB.failed
  have p_st1 : pendingOf st1 = #[(0, n1 + n2, pw)] := by rw [← hst1]
  refine wpS_bind (wpS_elem he ?_)
  refine wpS_bind (wpS_gallop hkd (hI e hem) g1 (by lia) fun k hk p1 p2 => ?_)
  have c1 := gal_pre (by lia) p1
  have c2 := gal_mid (n := n1) (by lia) p2
  unfold Cnd at c1 c2
  simp only [Bool.false_eq_true, if_false] at c1 c2
  dsimp only
  by_cases hk1 : n1 - k = 0
  · rw [if_pos (by simpa using hk1)]
    have hk' : k = n1 := by lia
    subst hk'
    refine wpS_pure (fin st1 a_st1 f_st1 p_st1 fun x hx y hy => ?_)
    have := c1 x hx
    have := e_le y hy
    lia
  · rw [if_neg (by simpa using hk1)]
    have hf' : (arrOf st)[0 + k + (n1 - k) - 1]? = some f := by rw [show 0 + k + (n1 - k) - 1 = n1 - 1 by lia]; exact hf
    refine wpS_bind (wpS_elem hf' ?_)
    refine wpS_bind (wpS_gallop hkd (hI f hfm) g2 (by lia) fun nb hnb p3 p4 => ?_)
    have d1 := gal_in (by lia) p3
    have d2 := gal_out (n := n2) (by lia) p4
    unfold Cnd at d1 d2
    simp only [if_true] at d1 d2
    dsimp only
    by_cases hnb0 : nb = 0
    · rw [if_pos (by simpa using hnb0)]
      subst hnb0
      refine wpS_pure (fin st1 a_st1 f_st1 p_st1 fun x hx y hy => ?_)
      have := f_ge x hx
      have := d2 y hy
      lia
    · rw [if_neg (by simpa using hnb0)]
      rw [show 0 + k = k by lia]
      have xl : ((arrOf st).extract k n1).toList.Sublist ((arrOf st).toList.take n1) := by
        rw [take_split (arrOf st) hk]; exact List.sublist_append_right _ _
      have yl : ((arrOf st).extract n1 (n1 + nb)).toList.Sublist ((arrOf st).toList.drop n1) := by
        rw [drop_split (arrOf st) n1 nb]; exact List.sublist_append_left _ _
      have xsz : ((arrOf st).extract k n1).size = n1 - k := by rw [Array.size_extract]; lia
      have ysz : ((arrOf st).extract n1 (n1 + nb)).size = nb := by rw [Array.size_extract]; lia
      have y0 : ((arrOf st).extract n1 (n1 + nb))[0]? = some e := by
        rw [Array.getElem?_extract]; simp [he]; lia
      have xlast : ((arrOf st).extract k n1)[((arrOf st).extract k n1).size - 1]? = some f := by
        rw [xsz, Array.getElem?_extract, if_pos (by lia), show k + (n1 - k - 1) = n1 - 1 by lia]; exact hf
      have xI : AllI ((arrOf st).extract k n1).toList := fun q hq => hI q (List.mem_of_mem_take (xl.subset hq))
      have yI : AllI ((arrOf st).extract n1 (n1 + nb)).toList := fun q hq => hI q (List.mem_of_mem_drop (yl.subset hq))
      have xS : Srt ((arrOf st).extract k n1).toList := List.Pairwise.sublist xl t1
      have yS : Srt ((arrOf st).extract n1 (n1 + nb)).toList := List.Pairwise.sublist yl t2
      have done : ∀ (out : Array Keyed) (st' : SortSt), Same st1 st' → Fin (((arrOf st).extract k n1).toList ++ ((arrOf st).extract n1 (n1 + nb)).toList) out →
          wpS (model prog w) A E s (do
            modify fun s => setArr s (List.foldl (fun a x => a.setIfInBounds (k + x.snd) x.fst) (arrOf s) out.toList.zipIdx)
            let s ← get
            pure (failedOf s).isNone) Q st' := by
        intro out st' hS hF
        refine wpS_bind (wpS_modify (wpS_bind (wpS_get (wpS_pure ?_))))
        have hfl : failedOf st' = none := hS.2.2.2.trans f_st1
        show Q (failedOf st').isNone _
        rw [hfl]
        obtain ⟨hP, hSo⟩ := hF
        have hlen : out.toList.length = n1 - k + nb := by rw [hP.length_eq, List.length_append, Array.length_toList, Array.length_toList, xsz, ysz]
        have ha' : arrOf st' = arrOf st := hS.2.1.trans a_st1
        have hfold : (List.foldl (fun a x => a.setIfInBounds (k + x.snd) x.fst) (arrOf st') out.toList.zipIdx : Array Keyed).toList
            = (arrOf st).toList.take k ++ out.toList ++ (arrOf st).toList.drop (n1 + nb) := by
          rw [ha', foldl_put (sa := k) (fun _ _ _ => rfl) out.toList (arrOf st) 0 (by rw [hlen]; lia), hlen]
          rw [show k + 0 + (n1 - k + nb) = n1 + nb by lia, Nat.add_zero]
        have split4 : (arrOf st).toList = (arrOf st).toList.take k ++ (((arrOf st).extract k n1).toList ++ ((arrOf st).extract n1 (n1 + nb)).toList) ++ (arrOf st).toList.drop (n1 + nb) := by
          rw [← List.append_assoc, ← take_split (arrOf st) hk, List.append_assoc, ← drop_split (arrOf st) n1 nb]; exact whole
        have hperm : ((List.foldl (fun a x => a.setIfInBounds (k + x.snd) x.fst) (arrOf st') out.toList.zipIdx : Array Keyed)).Perm a₀ := by
          refine Array.Perm.trans (Array.perm_iff_toList_perm.mpr ?_) hB.perm
          rw [hfold]
          conv => rhs; rw [split4]
          exact List.Perm.append_right _ (List.Perm.append_left _ hP)
        refine h _ hperm hfl (hS.2.2.1.trans p_st1) ?_
        rw [← hperm.size_eq]
        refine sortedTo_of ?_
        show Srt (List.foldl (fun a x => a.setIfInBounds (k + x.snd) x.fst) (arrOf st') out.toList.zipIdx : Array Keyed).toList
        rw [hfold]
        have tk : Srt ((arrOf st).toList.take k) := by
          rw [take_split (arrOf st) hk] at t1; exact (List.pairwise_append.mp t1).1
        have td : Srt ((arrOf st).toList.drop (n1 + nb)) := by
          rw [drop_split (arrOf st) n1 nb] at t2; exact (List.pairwise_append.mp t2).2.1
        refine List.pairwise_append.mpr ⟨List.pairwise_append.mpr ⟨tk, hSo, fun x hx y hy => ?_⟩, td, fun x hx y hy => ?_⟩
        · rcases List.mem_append.mp (hP.mem_iff.mp hy) with hy | hy
          · rw [take_split (arrOf st) hk] at t1
            exact (List.pairwise_append.mp t1).2.2 x hx y hy
          · have := c1 x hx
            have := e_le y (yl.subset hy)
            lia
        · rcases List.mem_append.mp hx with hx | hx
          · have := c1 x hx
            have := e_le y (by rw [drop_split (arrOf st) n1 nb]; exact List.mem_append_right _ hy)
            lia
          · rcases List.mem_append.mp (hP.mem_iff.mp hx) with hx | hx
            · have := f_ge x (xl.subset hx)
              have := d2 y hy
              lia
            · rw [drop_split (arrOf st) n1 nb] at t2
              exact (List.pairwise_append.mp t2).2.2 x hx y hy
      have le0 : ∀ z, ((arrOf st).extract n1 (n1 + nb))[0]? = some z → ∀ x ∈ ((arrOf st).extract k n1).toList, ky z ≤ ky x := by
        intro z hz x hx
        rw [y0] at hz; cases hz
        have := c2 x hx
        lia
      have leL : ∀ z, ((arrOf st).extract k n1)[((arrOf st).extract k n1).size - 1]? = some z → ∀ y ∈ ((arrOf st).extract n1 (n1 + nb)).toList, ky y ≤ ky z := by
        intro z hz y hy
        rw [xlast] at hz; cases hz
        have := d1 y hy
        lia
      by_cases hle : n1 - k ≤ nb
      · rw [if_pos hle]
        refine wpS_bind (wpS_mergeLo ⟨xI, yI, xS, yS, fun y hy z hz => leL z hz y hy⟩ hkd (by lia) (by lia) le0 fun out st' hS hF => ?_)
        exact done out st' hS hF
      · rw [if_neg hle]
        refine wpS_bind (wpS_mergeHi ⟨xI, yI, xS, yS, fun x hx z hz => le0 z hz x hx⟩ hkd (by lia) (by lia) leL fun out st' hS hF => ?_)
        exact done out st' hS hF
end
end Mine
end

-- part SG
section
open PySem PyProof.Rows
set_option maxRecDepth 100000
namespace Mine
section
variable {prog : Program} {w : World} {A : Around} {E : Value → Shared → Prop} {s : Shared} {a₀ : Array Keyed}

theorem sfrom_pre {a a' : Array Keyed} {lo n : Nat} (h : SFrom a 0 n) (hn : n ≤ lo) (hp : ∀ i, i < lo → a'[i]? = a[i]?) : SFrom a' 0 n := by
  intro i j hij hj
  have := h i j hij hj
  rwa [K_congr (hp (0 + i) (by lia)), K_congr (hp (0 + j) (by lia))]

theorem minRun_big {n : Nat} (h1 : 64 ≤ n) (h2 : n < 128) : minRun' n n 0 = n / 2 + n % 2 := by
  obtain ⟨f, hf⟩ : ∃ f, n = f + 1 + 1 := ⟨n - 2, by lia⟩
  have h3 : ∀ g, minRun' (g + 1 + 1) n 0 = n / 2 + n % 2 := fun g => by
    rw [minRun'_succ, if_neg (by lia), minRun'_succ, if_pos (by lia)]
    simp
  have := h3 f
  rwa [← hf] at this

/-- one run, from lo -/
theorem wpS_run {a₁ : Array Keyed} {lo : Nat} {p : Array (Nat × Nat × Nat)} {st : SortSt} {mr : Nat} {β : Type} {k : Nat → StateT SortSt Sem β} {no no' : StateT SortSt Sem β} {Q : β → SortSt → Prop}
    (h0 : IntKeys a₀) (hlo : lo < a₀.size) (hmr : 1 ≤ mr) (hB : SP a₀ a₁ lo p st)
    (h : ∀ n st', SP a₀ a₁ lo p st' → 1 ≤ n → lo + n ≤ a₀.size → min (a₀.size - lo) mr ≤ n → SFrom (arrOf st') lo n → wpS (model prog w) A E s (k n) Q st') :
    wpS (model prog w) A E s (do
      match ← countRun' lo (a₀.size - lo) with
      | some found =>
        if found < mr then do
          liftM (rule "list.sort.binary-insertion")
          let ok ← binarySort' lo (min (a₀.size - lo) mr) found
          if (!ok) = true then no else k (min (a₀.size - lo) mr)
        else k found
      | _ => no') Q st := by
  refine wpS_bind (wpS_countL h0 (by lia) (by lia) hB fun m st2 hB2 hm1 hm2 hs2 => ?_)
  dsimp only
  by_cases hlt : m < mr
  · rw [if_pos hlt]
    refine wpS_bind (wpS_lift (wpAny_rule ⟨rfl, ?_⟩))
    refine wpS_bind (wpS_binL h0 (by lia) (by lia) hB2 hs2 fun st3 hB3 hs3 => ?_)
    simp only [Bool.not_true, Bool.false_eq_true, if_false]
    exact h _ st3 hB3 (by lia) (by lia) (Nat.le_refl _) hs3
  · rw [if_neg hlt]
    exact h m st2 hB2 hm1 (by lia) (by lia) hs2

/-- the end of the runs: what is pending -/
inductive Runs (a₀ : Array Keyed) (st : SortSt) : Prop
  | one (n : Nat) : SP a₀ (arrOf st) 0 #[(0, n, 0)] st → n = a₀.size → SFrom (arrOf st) 0 n → Runs a₀ st
  | two (n1 n2 pw : Nat) : SP a₀ (arrOf st) 0 #[(0, n1, pw), (n1, n2, 0)] st → n1 + n2 = a₀.size → 1 ≤ n1 → 1 ≤ n2 → SFrom (arrOf st) 0 n1 → SFrom (arrOf st) n1 n2 → Runs a₀ st

theorem wpS_sortBig {st : SortSt} {Q : Unit → SortSt → Prop} (h0 : IntKeys a₀) (hB : SBase a₀ st) (h64 : 64 ≤ a₀.size) (h128 : a₀.size < 128)
    (h : ∀ st', (arrOf st').Perm a₀ → failedOf st' = none → SortedTo (arrOf st') a₀.size → Q () st') : wpS (model prog w) A E s sortRuns' Q st := by
  rw [sortRuns'_eq]
  refine wpS_bind (wpS_get ?_)
  dsimp only
  rw [hB.size, minRun_big h64 h128]
  generalize hmr : a₀.size / 2 + a₀.size % 2 = mr
  have hP : SP a₀ (arrOf st) 0 #[] st := ⟨hB.perm, hB.kind, hB.failed, hB.pend, fun _ _ => rfl⟩
  refine wpS_bind (wpS_mono (wpS_forRange
    (I := fun x c st' => (x = 0 ∧ c = (none, 0) ∧ SP a₀ (arrOf st) 0 #[] st') ∨
      (x = 1 ∧ ∃ n, c = (none, n) ∧ mr ≤ n ∧ n ≤ a₀.size ∧ SP a₀ (arrOf st') 0 #[(0, n, 0)] st' ∧ SFrom (arrOf st') 0 n) ∨
      (2 ≤ x ∧ c = (none, a₀.size) ∧ Runs a₀ st'))
    (Q := fun c st' => c.1 = none ∧ Runs a₀ st') ?step ?fin (.inl ⟨rfl, rfl, hP⟩)) ?post)
  case fin =>
    rintro c st' (⟨hx, _, _⟩ | ⟨hx, _⟩ | ⟨_, rfl, hD⟩)
    · lia
    · lia
    · exact ⟨rfl, hD⟩
  case step =>
    rintro x c st' _ hx (⟨rfl, rfl, hB'⟩ | ⟨rfl, n, rfl, hn1, hn2, hB', hs'⟩ | ⟨hx1, rfl, hD⟩)
    · dsimp only
      rw [if_neg (by lia)]
      refine wpS_run h0 (by lia) (by lia) hB' fun n st2 hB2 hn1 hn2 hn3 hs2 => ?_
      refine wpS_bind (wpS_get ?_)
      have hb : (pendingOf st2).back? = none := by rw [hB2.pend]; rfl
      rw [hb]
      dsimp only
      refine wpS_bind (wpS_modify (wpS_pure (.inr (.inl ⟨rfl, n, by simp, by lia, by lia, ⟨hB2.perm, hB2.kind, hB2.failed, ?_, fun _ _ => rfl⟩, hs2⟩))))
      show (pendingOf st2).push (0, n, 0) = _
      rw [hB2.pend]; rfl
    · dsimp only
      by_cases hge : n ≥ a₀.size
      · rw [if_pos hge]
        exact wpS_pure ⟨rfl, .one n hB' (by lia) hs'⟩
      · rw [if_neg hge]
        have hB1 : SP a₀ (arrOf st') n #[(0, n, 0)] st' := ⟨hB'.perm, hB'.kind, hB'.failed, hB'.pend, fun _ _ => rfl⟩
        refine wpS_run h0 (by lia) (by lia) hB1 fun n2 st2 hB2 hm1 hm2 hm3 hs2 => ?_
        have hn2 : n + n2 = a₀.size := by lia
        refine wpS_bind (wpS_get ?_)
        have hb : (pendingOf st2).back? = some (0, n, 0) := by rw [hB2.pend]; rfl
        rw [hb]
        dsimp only
        generalize hpw : power' a₀.size (2 * 0 + n) (2 * 0 + n + n + n2) a₀.size = pw
        refine wpS_bind (wpS_mono (wpS_forRange (I := fun _ c st'' => st'' = st2 ∧ c = (none, ())) (Q := fun c st'' => st'' = st2 ∧ c = (none, ())) ?_ (fun _ _ hh => hh) ⟨rfl, rfl⟩) ?_)
        · rintro x c st'' _ _ ⟨rfl, rfl⟩
          refine wpS_bind (wpS_get ?_)
          have hp : (if (pendingOf st'').size > 1 then (pendingOf st'')[(pendingOf st'').size - 2]? else none) = none := by
            rw [hB2.pend]; rfl
          rw [hp]
          dsimp only
          exact wpS_pure ⟨rfl, rfl⟩
        · rintro c st'' ⟨rfl, rfl⟩
          dsimp only
          refine wpS_bind (wpS_modify (wpS_bind (wpS_modify (wpS_pure (.inr (.inr ⟨by lia, by simp [hn2], ?_⟩))))))
          refine .two n n2 pw ⟨hB2.perm, hB2.kind, hB2.failed, ?_, fun _ _ => rfl⟩ hn2 (by lia) hm1 (sfrom_pre hs' (Nat.le_refl _) hB2.pre) hs2
          show ((pendingOf st'').modify ((pendingOf st'').size - 1) _).push (n, n2, 0) = _
          rw [hB2.pend]; rfl
    · dsimp only
      rw [if_pos (Nat.le_refl _)]
      exact wpS_pure ⟨rfl, hD⟩
  case post =>
    rintro ⟨c1, c2⟩ st' ⟨hc, hD⟩
    dsimp only at hc ⊢
    subst hc
    refine wpS_bind (wpS_mono (wpS_forRange
      (I := fun x c st'' => c = (none, ()) ∧ ((x = 0 ∧ st'' = st') ∨ ((arrOf st'').Perm a₀ ∧ failedOf st'' = none ∧ (pendingOf st'').size ≤ 1 ∧ SortedTo (arrOf st'') a₀.size)))
      (Q := fun c st'' => c = (none, ()) ∧ (arrOf st'').Perm a₀ ∧ failedOf st'' = none ∧ SortedTo (arrOf st'') a₀.size) ?st2 ?fin2 ⟨rfl, .inl ⟨rfl, rfl⟩⟩) ?post2)
    case fin2 =>
      rintro c st'' ⟨hc, (⟨hx, _⟩ | ⟨a1, a2, _, a3⟩)⟩
      · lia
      · exact ⟨hc, a1, a2, a3⟩
    case post2 =>
      rintro c st'' ⟨rfl, a1, a2, a3⟩
      exact wpS_pure (h st'' a1 a2 a3)
    case st2 =>
      rintro x c st'' _ _ ⟨rfl, (⟨rfl, rfl⟩ | ⟨a1, a2, a3, a4⟩)⟩
      · refine wpS_bind (wpS_get ?_)
        cases hD with
        | one n hP hn hs =>
          rw [if_pos (by rw [hP.pend]; exact Nat.le_refl 1)]
          refine wpS_pure ⟨rfl, hP.perm, hP.failed, ?_⟩
          subst hn
          intro i j hij hj
          have := hs i j hij hj
          rwa [Nat.zero_add, Nat.zero_add] at this
        | two n1 n2 pw hP hn h1 h2 s1 s2 =>
          rw [if_neg (by rw [hP.pend]; exact (by decide : ¬ 2 ≤ 1))]
          have hi : ∀ z : Nat, (if Option.any (fun x => decide (x < z)) (if (pendingOf st'').size - 2 > 0 then Option.map (fun x : Nat × Nat × Nat => x.snd.fst) (pendingOf st'')[(pendingOf st'').size - 2 - 1]? else none) = true then (pendingOf st'').size - 2 - 1 else (pendingOf st'').size - 2) = 0 := by
            intro z
            rw [hP.pend]; rfl
          rw [hi]
          refine wpS_bind (wpS_mergeAt0 h0 hP hn h1 h2 s1 s2 fun st3 b1 b2 b3 b4 => ?_)
          simp only [Bool.not_true, Bool.false_eq_true, if_false]
          exact wpS_pure ⟨rfl, .inr ⟨b1, b2, by rw [b3]; exact Nat.le_refl 1, b4⟩⟩
      · refine wpS_bind (wpS_get ?_)
        rw [if_pos a3]
        exact wpS_pure ⟨rfl, a1, a2, a4⟩

theorem list_sort_big {a : Addr} {vs : List Value} {ns : List Int} {n : Nat} {P : PySem.Fin → Shared → Prop} (ho : s.heap.get? a = some (seqObj "list" vs.toArray n))
    (hI : IntsAre vs ns) (h64 : 64 ≤ vs.length) (h128 : vs.length < 128)
    (h : ∀ (out : Array Value) (ns' : List Int), IntsAre out.toList ns' → ns'.Perm ns → ns'.Pairwise (· ≤ ·) → P (.done (.ret .none)) { s with heap := sortedHeap s.heap a vs out }) :
    wpAny (model prog w) A (Builtin.«list.sort» ⟨[.ref a], []⟩) P E s := by
  rw [list_sort_plain]
  have ha : a < s.heap.objs.size := Heap.lt_size ho
  refine wpAny_bind (listItems_at ho rfl (wpAny_bind (listUpdate_at ho rfl ?_)))
  obtain ⟨e1, ho1⟩ : ∃ e1, (s.heap.update a (Obj.mapSeq fun _ => #[])).get? a = some (seqObj "list" #[] e1) := ⟨_, get?_update_seq ho (fun _ => #[])⟩
  refine wpAny_bind (seqEpoch_at ho1 rfl (wpAny_bind (wpAny_newTuple (wpAny_bind (wpAny_newList (wpAny_holding ?_))))))
  have ho6 : (((s.heap.update a (Obj.mapSeq fun _ => #[])).push (seqObj "tuple" vs.toArray 0)).push (seqObj "list" #[] 0)).get? a = some (seqObj "list" #[] e1) := by
    rw [Heap.get?_push_ne _ _ _ (by rw [size_push', Heap.size_update]; exact Nat.ne_of_lt (Nat.lt_succ_of_lt ha)), Heap.get?_push_ne _ _ _ (by rw [Heap.size_update]; exact Nat.ne_of_lt ha)]
    exact ho1
  show wpAny (model prog w) A _ P E { s with heap := ((s.heap.update a (Obj.mapSeq fun _ => #[])).push (seqObj "tuple" vs.toArray 0)).push (seqObj "list" #[] 0) }
  dsimp only
  have hsz : ¬ vs.toArray.size < 2 := by rw [List.size_toArray]; lia
  rw [if_neg hsz, if_neg hsz]
  obtain ⟨v₁, v₂, rest, rfl⟩ : ∃ v₁ v₂ rest, vs = v₁ :: v₂ :: rest := by
    match vs, h64 with
    | v₁ :: v₂ :: rest, _ => exact ⟨v₁, v₂, rest, rfl⟩
  rw [keyKind_ints hI]
  refine wpAny_bind (wpAny_pure (wpAny_bind (wpAny_mono (wpS_sortBig (a₀ := pairsOf (v₁ :: v₂ :: rest)) (st := SortSt.mk' oneType' ((v₁ :: v₂ :: rest).toArray.zip (v₁ :: v₂ :: rest).toArray) #[] 7 none)
    (Q := fun _ st' => (arrOf st').Perm (pairsOf (v₁ :: v₂ :: rest)) ∧ failedOf st' = none ∧ SortedTo (arrOf st') (pairsOf (v₁ :: v₂ :: rest)).size)
    hI.intKeys ⟨Array.Perm.refl _, rfl, rfl, rfl⟩ (by rw [pairsOf_size]; exact h64) (by rw [pairsOf_size]; exact h128) fun st' a1 a2 a3 => ⟨a1, a2, a3⟩) ?_ fun _ _ e => e)))
  rintro ⟨⟨⟩, st'⟩ s' ⟨rfl, hp, hf, hs⟩
  dsimp only
  refine wpAny_bind (seqEpoch_at ho6 rfl ?_)
  refine wpAny_bind (listUpdate_at ho6 rfl ?_ (hsz2 := by
    have e : ((arrOf st').map (·.2)).size = (v₁ :: v₂ :: rest).length := (Array.size_map ..).trans (hp.size_eq.trans (pairsOf_size _))
    rw [e, sizeLine_eq]; lia))
  rw [hf]
  simp only [bne_self_eq_false, Bool.false_eq_true, if_false]
  obtain ⟨ns', q1, q2, q3⟩ := sorted_out hI hp hs
  exact wpAny_pure (h _ ns' q1 q2 q3)

/-- sorted of up to 127 ints -/
theorem sorted_big {l : Addr} {vs : List Value} {ns : List Int} {Q : Value → Shared → Prop} (hl : s.heap.IsList l vs.toArray) (hI : IntsAre vs ns) (h128 : vs.length < 128)
    (h : ∀ (out : Array Value) (ns' : List Int), IntsAre out.toList ns' → ns'.Perm ns → ns'.Pairwise (· ≤ ·) → Q (.ref (s.heap.objs.size + 1)) { s with heap := sortedAll s.heap vs out }) :
    wpAny (model prog w) A (call (.builtin "sorted") [.ref l]) Q E s := by
  by_cases h64 : vs.length < 64
  · exact sorted_ints hl hI h64 h
  refine Calls.call_function_entry kind_sorted plain_sorted entry_sorted (args_sorted1 _) ?_
  unfold Builtin.«sorted»
  refine wpAny_bind (m := checkCount "sorted" 1 1 _) (wpAny_pure (wpAny_bind (collect_list hl (wpAny_bind (wpAny_newList ?_)) (hsz := by rw [sizeLine_eq]; lia))))
  have hsz : ((s.heap.push (seqObj "list" #[] 0)).update s.heap.objs.size (Obj.mapSeq (· ++ vs.toArray))).objs.size = s.heap.objs.size + 1 := by
    rw [Heap.size_update, size_push']
  have hoL : (((s.heap.push (seqObj "list" #[] 0)).update s.heap.objs.size (Obj.mapSeq (· ++ vs.toArray))).push (seqObj "list" vs.toArray 0)).get? (s.heap.objs.size + 1) = some (seqObj "list" vs.toArray 0) := by
    rw [← hsz]; exact Heap.get?_push_size _ rfl
  show wpAny _ _ _ _ _ { s with heap := ((s.heap.push (seqObj "list" #[] 0)).update s.heap.objs.size (Obj.mapSeq (· ++ vs.toArray))).push (seqObj "list" vs.toArray 0) }
  rw [hsz]
  refine wpAny_bind (wpAny_holding (wpAny_call_entry slot_list_sort ⟨_, hoL, rfl⟩ entry_list_sort (list_sort_big hoL hI (by lia) h128 fun out ns' a1 a2 a3 => ⟨_, rfl, ?_⟩) (args_list_sort _)))
  exact wpAny_pure ⟨_, rfl, h out ns' a1 a2 a3⟩
end
end Mine
end

-- part PB
section
namespace Mine

/-- r: each party's seats out of k, by the divisors D: nobody's next claim beats another's last one; of equal ones the earlier party's is served -/
structure Told (v r : List Int) (D : Int → Int) (k : Int) : Prop where
  len : r.length = v.length
  sum : r.sum = k
  nn : ∀ i, i < v.length → 0 ≤ r.getD i 0
  st : ∀ i j, i < v.length → j < v.length → i ≠ j → 0 < r.getD j 0 →
    v.getD i 0 * D (r.getD j 0) < v.getD j 0 * D (r.getD i 0 + 1) ∨ (v.getD i 0 * D (r.getD j 0) = v.getD j 0 * D (r.getD i 0 + 1) ∧ j < i)
/-- a claim that is not served equals one that is -/
def Tie (v r : List Int) (D : Int → Int) : Prop :=
  ∃ i j, i < v.length ∧ j < v.length ∧ i ≠ j ∧ 0 < r.getD j 0 ∧ v.getD i 0 * D (r.getD j 0) = v.getD j 0 * D (r.getD i 0 + 1)

theorem sum_le_of : ∀ (r r' : List Int), r.length = r'.length → (∀ i, i < r.length → r.getD i 0 ≤ r'.getD i 0) → r.sum ≤ r'.sum ∧ (r.sum = r'.sum → r = r')
  | [], [], _, _ => ⟨Int.le_refl _, fun _ => rfl⟩
  | [], _ :: _, h, _ => by simp at h
  | _ :: _, [], h, _ => by simp at h
  | a :: r, b :: r', h, hle => by
    have h0 := hle 0 (by simp)
    simp only [List.getD_cons_zero] at h0
    have ih := sum_le_of r r' (by simpa using h) (fun i hi => by have := hle (i + 1) (by simpa using hi); simpa only [List.getD_cons_succ] using this)
    simp only [List.sum_cons]
    refine ⟨by lia, fun e => ?_⟩
    have h1 : r.sum = r'.sum := by lia
    have h2 : a = b := by lia
    rw [h2, ih.2 h1]

theorem getD_pos {v : List Int} (hv : ∀ x ∈ v, 0 < x) {i : Nat} (hi : i < v.length) : 0 < v.getD i 0 := by
  rw [List.getD_eq_getElem?_getD, List.getElem?_eq_getElem hi]
  exact hv _ (List.getElem_mem hi)

theorem Told.unique {v r r' : List Int} {D : Int → Int} {k : Int} (hv : ∀ x ∈ v, 0 < x) (hD : ∀ a b, 1 ≤ a → a ≤ b → D a ≤ D b) (h : Told v r D k) (h' : Told v r' D k) : r = r' := by
  have hl : r.length = r'.length := h.len.trans h'.len.symm
  have hs : r.sum = r'.sum := h.sum.trans h'.sum.symm
  by_cases h1 : ∀ i, i < r.length → r.getD i 0 ≤ r'.getD i 0
  · exact (sum_le_of r r' hl h1).2 hs
  by_cases h2 : ∀ i, i < r'.length → r'.getD i 0 ≤ r.getD i 0
  · exact ((sum_le_of r' r hl.symm h2).2 hs.symm).symm
  exfalso
  obtain ⟨j, h1⟩ := Classical.not_forall.mp h1
  obtain ⟨hj, hj1⟩ := Classical.not_imp.mp h1
  obtain ⟨i, h2⟩ := Classical.not_forall.mp h2
  obtain ⟨hi, hi1⟩ := Classical.not_imp.mp h2
  have hjv : j < v.length := by rw [← h.len]; exact hj
  have hiv : i < v.length := by rw [← h'.len]; exact hi
  have hij : i ≠ j := by rintro rfl; lia
  have pj := h'.nn j hjv
  have pi := h.nn i hiv
  have a1 := h.st i j hiv hjv hij (by lia)
  have a2 := h'.st j i hjv hiv (Ne.symm hij) (by lia)
  have vi := getD_pos hv hiv
  have vj := getD_pos hv hjv
  have d1 : D (r.getD i 0 + 1) ≤ D (r'.getD i 0) := hD _ _ (by lia) (by lia)
  have d2 : D (r'.getD j 0 + 1) ≤ D (r.getD j 0) := hD _ _ (by lia) (by lia)
  have m1 := Int.mul_le_mul_of_nonneg_left d1 (Int.le_of_lt vj)
  have m2 := Int.mul_le_mul_of_nonneg_left d2 (Int.le_of_lt vi)
  lia

/-- fewer places out of the same claims -/
theorem Told.sub {v t : List Int} {k : Int} (f D : Int → Int) (c : Int) (hv : ∀ x ∈ v, 0 < x) (h : Told v t (fun j => j) k) (hf0 : ∀ i, i < v.length → 0 ≤ f (t.getD i 0)) (hf1 : ∀ i, i < v.length → 0 < f (t.getD i 0) → 0 < t.getD i 0)
    (hc : 0 < c) (hlo : ∀ i, i < v.length → 0 < f (t.getD i 0) → c * D (f (t.getD i 0)) ≤ t.getD i 0) (hhi : ∀ i, i < v.length → t.getD i 0 + 1 ≤ c * D (f (t.getD i 0) + 1)) :
    Told v (t.map f) D (t.map f).sum ∧ (Tie v (t.map f) D → Tie v t (fun j => j)) := by
  have get : ∀ i, i < v.length → (t.map f).getD i 0 = f (t.getD i 0) := fun i hi => by
    have hi' : i < t.length := by rw [h.len]; exact hi
    rw [List.getD_eq_getElem?_getD, List.getD_eq_getElem?_getD, List.getElem?_map, List.getElem?_eq_getElem hi']
    rfl
  have chain : ∀ i j, i < v.length → j < v.length → i ≠ j → 0 < f (t.getD j 0) →
      (v.getD i 0 * D (f (t.getD j 0)) < v.getD j 0 * D (f (t.getD i 0) + 1)) ∨
      (v.getD i 0 * D (f (t.getD j 0)) = v.getD j 0 * D (f (t.getD i 0) + 1) ∧ j < i ∧ v.getD i 0 * t.getD j 0 = v.getD j 0 * (t.getD i 0 + 1)) := by
    intro i j hi hj hij hp
    have vi := getD_pos hv hi
    have vj := getD_pos hv hj
    have tp := hf1 j hj hp
    have a := h.st i j hi hj hij tp
    have m1 := Int.mul_le_mul_of_nonneg_left (hlo j hj hp) (Int.le_of_lt vi)
    have m2 := Int.mul_le_mul_of_nonneg_left (hhi i hi) (Int.le_of_lt vj)
    rw [Int.mul_left_comm] at m1 m2
    rcases a with a | ⟨a, lt⟩
    · left
      have h3 : c * (v.getD i 0 * D (f (t.getD j 0))) < c * (v.getD j 0 * D (f (t.getD i 0) + 1)) := by lia
      exact Int.lt_of_mul_lt_mul_left h3 (Int.le_of_lt hc)
    · have h3 : c * (v.getD i 0 * D (f (t.getD j 0))) ≤ c * (v.getD j 0 * D (f (t.getD i 0) + 1)) := by lia
      have h4 := Int.le_of_mul_le_mul_left h3 hc
      rcases Int.lt_or_eq_of_le h4 with h5 | h5
      · exact .inl h5
      · exact .inr ⟨h5, lt, a⟩
  refine ⟨⟨by rw [List.length_map, h.len], rfl, fun i hi => by rw [get i hi]; exact hf0 i hi, fun i j hi hj hij hp => ?_⟩, ?_⟩
  · rw [get i hi, get j hj] at *
    rcases chain i j hi hj hij hp with a | ⟨a, b, _⟩
    · exact .inl a
    · exact .inr ⟨a, b⟩
  · rintro ⟨i, j, hi, hj, hij, hp, he⟩
    rw [get j hj] at hp
    rw [get i hi, get j hj] at he
    rcases chain i j hi hj hij hp with a | ⟨_, _, a⟩
    · lia
    · exact ⟨i, j, hi, hj, hij, hf1 j hj hp, a⟩
end Mine
end

-- part PC
section
namespace Mine

def sumN (g : Nat → Nat) : Nat → Nat
  | 0 => 0
  | n + 1 => sumN g n + g n
def cntH (h : Nat → Bool) : Nat → Nat
  | 0 => 0
  | i + 1 => cntH h i + if h i = true then 1 else 0
def tieF (h : Nat → Bool) (q : Nat) : Nat → Bool
  | 0 => false
  | x + 1 => tieF h q x || (h x && decide (q ≤ cntH h x))
/-- the seats when the parties before x have been asked -/
def repAt (b : Int) (g : Nat → Nat) (h : Nat → Bool) (q x n : Nat) : List Int := (List.range n).map fun i => b + g i + if i < x ∧ h i = true ∧ cntH h i < q then 1 else 0

theorem cntH_mono (h : Nat → Bool) {i j : Nat} (hij : i ≤ j) : cntH h i ≤ cntH h j := by
  induction hij with
  | refl => exact Nat.le_refl _
  | step _ ih => simp only [cntH]; lia
theorem tieF_iff (h : Nat → Bool) (q : Nat) : ∀ x, tieF h q x = true ↔ ∃ i, i < x ∧ h i = true ∧ q ≤ cntH h i
  | 0 => by simp [tieF]
  | x + 1 => by
    simp only [tieF, Bool.or_eq_true, Bool.and_eq_true, decide_eq_true_eq, tieF_iff h q x]
    constructor
    · rintro (⟨i, hi, a, b⟩ | ⟨a, b⟩)
      · exact ⟨i, by lia, a, b⟩
      · exact ⟨x, by lia, a, b⟩
    · rintro ⟨i, hi, a, b⟩
      by_cases e : i = x
      · subst e; exact .inr ⟨a, b⟩
      · exact .inl ⟨i, by lia, a, b⟩
theorem repAt_length (b : Int) (g : Nat → Nat) (h : Nat → Bool) (q x n : Nat) : (repAt b g h q x n).length = n := by simp [repAt]
theorem repAt_get (b : Int) (g : Nat → Nat) (h : Nat → Bool) (q x : Nat) {n i : Nat} (hi : i < n) : (repAt b g h q x n)[i]? = some (b + g i + if i < x ∧ h i = true ∧ cntH h i < q then 1 else 0) := by
  simp [repAt, hi]
theorem repAt_getD (b : Int) (g : Nat → Nat) (h : Nat → Bool) (q x : Nat) {n i : Nat} (hi : i < n) : (repAt b g h q x n).getD i 0 = b + g i + if i < x ∧ h i = true ∧ cntH h i < q then 1 else 0 := by
  rw [List.getD_eq_getElem?_getD, repAt_get b g h q x hi]; rfl

theorem repAt_sum (b : Int) (g : Nat → Nat) (h : Nat → Bool) (q x : Nat) : ∀ n, (repAt b g h q x n).sum = b * n + sumN g n + (min (cntH h (min x n)) q : Nat)
  | 0 => by simp [repAt, sumN, cntH]
  | n + 1 => by
    have ih := repAt_sum b g h q x n
    unfold repAt at ih ⊢
    rw [List.range_succ, List.map_append, List.sum_append, ih]
    simp only [List.map_cons, List.map_nil, List.sum_cons, List.sum_nil, sumN]
    have e : b * ((n + 1 : Nat) : Int) = b * n + b := by rw [Int.natCast_add, Int.mul_add]; simp
    rw [e]
    by_cases hx : n < x
    · rw [show min x n = n by lia, show min x (n + 1) = n + 1 by lia]
      simp only [cntH]
      by_cases hh : h n = true
      · simp only [hh, hx, true_and, if_true]
        by_cases hc : cntH h n < q
        · rw [if_pos hc]; lia
        · rw [if_neg hc]; lia
      · simp only [hh, hx, true_and, Bool.false_eq_true, false_and, if_false]; lia
    · rw [show min x n = x by lia, show min x (n + 1) = x by lia]
      simp only [hx, false_and, if_false]; lia

theorem repAt_ext {b : Int} {g : Nat → Nat} {h : Nat → Bool} {q x : Nat} {n : Nat} {l : List Int} (hl : l.length = n) (he : ∀ i, i < n → l[i]? = some (b + g i + if i < x ∧ h i = true ∧ cntH h i < q then 1 else 0)) : l = repAt b g h q x n := by
  refine List.ext_getElem? fun i => ?_
  by_cases hi : i < n
  · rw [he i hi, repAt_get b g h q x hi]
  · rw [List.getElem?_eq_none (by lia), List.getElem?_eq_none (by rw [repAt_length]; lia)]

theorem repAt_served {b : Int} {g : Nat → Nat} {h : Nat → Bool} {q x n : Nat} (hx : x < n) (hh : h x = true) (hc : cntH h x < q) :
    (repAt b g h q x n).set x ((repAt b g h q x n).getD x 0 + 1) = repAt b g h q (x + 1) n := by
  refine repAt_ext (by rw [List.length_set, repAt_length]) fun i hi => ?_
  rw [List.getElem?_set, repAt_length]
  by_cases e : x = i
  · subst e
    rw [if_pos rfl, if_pos hx, repAt_getD b g h q x hx, if_neg (by lia), if_pos ⟨by lia, hh, hc⟩]
    simp
  · rw [if_neg e, repAt_get b g h q x hi]
    congr 2
    by_cases hlt : i < x
    · simp only [hlt, show i < x + 1 by lia]
    · rw [if_neg (by lia), if_neg (by lia)]
theorem repAt_passed {b : Int} {g : Nat → Nat} {h : Nat → Bool} {q x n : Nat} (hn : ¬ (h x = true ∧ cntH h x < q)) : repAt b g h q x n = repAt b g h q (x + 1) n := by
  refine repAt_ext (repAt_length ..) fun i hi => ?_
  rw [repAt_get b g h q x hi]
  congr 2
  by_cases e : x = i
  · subst e
    rw [if_neg (by lia), if_neg (fun c => hn c.2)]
  · by_cases hlt : i < x
    · simp only [hlt, show i < x + 1 by lia]
    · rw [if_neg (by lia), if_neg (by lia)]

/-- a row that falls: how it lies to m -/
theorem fall_gt {m : Int} : ∀ {row : List Int}, row.Pairwise (· > ·) → ∀ t, t < row.length → (row.getD t 0 > m ↔ t < row.countP fun w => decide (w > m))
  | [], _, t, ht => by simp at ht
  | a :: r, hp, t, ht => by
    obtain ⟨ha, hr⟩ := List.pairwise_cons.mp hp
    by_cases h : a > m
    · rw [List.countP_cons_of_pos (by simpa using h)]
      cases t with
      | zero => simp [h]
      | succ t =>
        have := fall_gt (m := m) hr t (by simpa using ht)
        rw [List.getD_cons_succ, this]; lia
    · have hz : (a :: r).countP (fun w => decide (w > m)) = 0 := by
        rw [List.countP_eq_zero]
        intro w hw
        rcases List.mem_cons.mp hw with rfl | hw
        · simpa using h
        · have := ha w hw; simp; lia
      rw [hz]
      constructor
      · intro hgt
        exfalso
        cases t with
        | zero => rw [List.getD_cons_zero] at hgt; lia
        | succ t =>
          rw [List.getD_cons_succ] at hgt
          have ht' : t < r.length := by simpa using ht
          have := ha (r.getD t 0) (by rw [List.getD_eq_getElem?_getD, List.getElem?_eq_getElem ht']; exact List.getElem_mem ht')
          lia
      · intro h; lia
theorem fall_ge {m : Int} : ∀ {row : List Int}, row.Pairwise (· > ·) → (row.countP fun w => decide (w ≥ m)) = (row.countP fun w => decide (w > m)) + if row.contains m = true then 1 else 0
  | [], _ => by simp
  | a :: r, hp => by
    obtain ⟨ha, hr⟩ := List.pairwise_cons.mp hp
    have ih := fall_ge (m := m) hr
    rcases Int.lt_trichotomy a m with h | h | h
    · have h1 : (a :: r).countP (fun w => decide (w > m)) = 0 := by
        rw [List.countP_eq_zero]; intro w hw
        rcases List.mem_cons.mp hw with rfl | hw
        · simp; lia
        · have := ha w hw; simp; lia
      have h2 : (a :: r).countP (fun w => decide (w ≥ m)) = 0 := by
        rw [List.countP_eq_zero]; intro w hw
        rcases List.mem_cons.mp hw with rfl | hw
        · simp; lia
        · have := ha w hw; simp; lia
      have h3 : (a :: r).contains m = false := by
        cases hc : (a :: r).contains m with
        | false => rfl
        | true =>
          rcases List.mem_cons.mp (List.contains_iff_mem.mp hc) with rfl | hw
          · lia
          · have := ha m hw; lia
      rw [h1, h2, h3]; rfl
    · subst h
      have h1 : r.countP (fun w => decide (w > a)) = 0 := by
        rw [List.countP_eq_zero]; intro w hw
        have := ha w hw; simp; lia
      have h2 : r.countP (fun w => decide (w ≥ a)) = 0 := by
        rw [List.countP_eq_zero]; intro w hw
        have := ha w hw; simp; lia
      rw [List.countP_cons_of_pos (by simp), List.countP_cons_of_neg (by simp), h1, h2]
      simp
    · rw [List.countP_cons_of_pos (by simp; lia), List.countP_cons_of_pos (by simpa using h), ih]
      have h3 : (a :: r).contains m = r.contains m := by
        rw [List.contains_cons]
        have : (m == a) = false := by simp; lia
        rw [this, Bool.false_or]
      rw [h3]; lia
theorem fall_mem {m : Int} {row : List Int} (hp : row.Pairwise (· > ·)) (hm : row.contains m = true) : (row.countP fun w => decide (w > m)) < row.length ∧ row.getD (row.countP fun w => decide (w > m)) 0 = m := by
  obtain ⟨t, ht, e⟩ := List.mem_iff_getElem.mp (List.contains_iff_mem.mp hm)
  have e' : row.getD t 0 = m := by rw [List.getD_eq_getElem?_getD, List.getElem?_eq_getElem ht]; exact e
  have h1 := fall_gt (m := m) hp t ht
  rw [e'] at h1
  have h2 : ¬ t < row.countP fun w => decide (w > m) := fun h => absurd (h1.mpr h) (Int.lt_irrefl m)
  rcases Nat.lt_or_eq_of_le (Nat.not_lt.mp h2) with h3 | h3
  · exfalso
    have hlt : (row.countP fun w => decide (w > m)) < row.length := by lia
    have h4 := fall_gt (m := m) hp _ hlt
    have h5 := List.pairwise_iff_getElem.mp hp _ t hlt ht h3
    rw [List.getD_eq_getElem?_getD, List.getElem?_eq_getElem hlt] at h4
    rw [e] at h5
    exact absurd (h4.mp h5) (Nat.lt_irrefl _)
  · rw [h3]; exact ⟨ht, e'⟩
theorem fall_notmem {m : Int} {row : List Int} (hp : row.Pairwise (· > ·)) (hm : row.contains m = false) (hlt : (row.countP fun w => decide (w > m)) < row.length) : row.getD (row.countP fun w => decide (w > m)) 0 < m := by
  have h1 := (fall_gt (m := m) hp _ hlt)
  have h2 : ¬ row.getD (row.countP fun w => decide (w > m)) 0 > m := fun h => absurd (h1.mp h) (Nat.lt_irrefl _)
  have h3 : row.getD (row.countP fun w => decide (w > m)) 0 ≠ m := fun e => by
    have : m ∈ row := by rw [← e, List.getD_eq_getElem?_getD, List.getElem?_eq_getElem hlt]; exact List.getElem_mem hlt
    rw [List.contains_iff_mem.mpr this] at hm; cases hm
  lia
theorem fall_at {row : List Int} (hp : row.Pairwise (· > ·)) {i j : Nat} (hij : i < j) (hj : j < row.length) : row.getD j 0 < row.getD i 0 := by
  have := List.pairwise_iff_getElem.mp hp i j (by lia) hj hij
  rw [List.getD_eq_getElem?_getD, List.getElem?_eq_getElem hj, List.getD_eq_getElem?_getD, List.getElem?_eq_getElem (by lia)]
  exact this

theorem sum_map_range (f : List Int → Nat) : ∀ (rows : List (List Int)) (n : Nat), rows.length = n → (rows.map f).sum = sumN (fun i => f (rows.getD i [])) n := by
  intro rows n hn
  have key : ∀ m, m ≤ rows.length → ((rows.take m).map f).sum = sumN (fun i => f (rows.getD i [])) m := by
    intro m
    induction m with
    | zero => intro _; rfl
    | succ m ih =>
      intro hm
      have hm' : m < rows.length := by lia
      rw [List.take_add_one, List.getElem?_eq_getElem hm', List.map_append, List.sum_append, ih (by lia)]
      simp only [sumN]
      rw [List.getD_eq_getElem?_getD, List.getElem?_eq_getElem hm']
      simp
  have := key n (by lia)
  rwa [List.take_of_length_le (by lia)] at this
theorem sumN_congr {f g : Nat → Nat} : ∀ n, (∀ i, i < n → f i = g i) → sumN f n = sumN g n
  | 0, _ => rfl
  | n + 1, h => by simp only [sumN]; rw [sumN_congr n fun i hi => h i (by lia), h n (by lia)]
theorem sumN_cnt (g : Nat → Nat) (h : Nat → Bool) : ∀ n, sumN (fun i => g i + if h i = true then 1 else 0) n = sumN g n + cntH h n
  | 0 => rfl
  | n + 1 => by simp only [sumN, cntH]; rw [sumN_cnt g h n]; lia
theorem le_sumN (g : Nat → Nat) {i n : Nat} (hi : i < n) : g i ≤ sumN g n := by
  induction n with
  | zero => lia
  | succ n ih =>
    simp only [sumN]
    by_cases e : i = n
    · subst e; lia
    · have := ih (by lia); lia
theorem le_sumN2 (g : Nat → Nat) {i j n : Nat} (hi : i < n) (hj : j < n) (hij : i ≠ j) : g i + g j ≤ sumN g n := by
  induction n with
  | zero => lia
  | succ n ih =>
    simp only [sumN]
    by_cases e : i = n
    · subst e; have := le_sumN g (show j < i by lia); lia
    · by_cases e2 : j = n
      · subst e2; have := le_sumN g (show i < j by lia); lia
      · have := ih (by lia) (by lia); lia

/-- the k-th greatest of a sorted list -/
theorem kth {s : List Int} (hs : s.Pairwise (· ≤ ·)) {k : Nat} (hk : 1 ≤ k) (hk' : k ≤ s.length) :
    (s.countP fun w => decide (w > s.getD (s.length - k) 0)) < k ∧ k ≤ s.countP fun w => decide (w ≥ s.getD (s.length - k) 0) := by
  have hp : s.length - k < s.length := by lia
  have hm : s.getD (s.length - k) 0 = s[s.length - k] := by rw [List.getD_eq_getElem?_getD, List.getElem?_eq_getElem hp]; rfl
  rw [hm]
  have cs : ∀ (p : Int → Bool) i, s.countP p = (s.take i).countP p + (s.drop i).countP p := fun p i => by rw [← List.countP_append, List.take_append_drop]
  constructor
  · have e : s.countP (fun w => decide (w > s[s.length - k])) = (s.drop (s.length - k + 1)).countP fun w => decide (w > s[s.length - k]) := by
      rw [cs _ (s.length - k + 1)]
      have hz : (s.take (s.length - k + 1)).countP (fun w => decide (w > s[s.length - k])) = 0 := by
        rw [List.countP_eq_zero]
        intro w hw
        obtain ⟨i, hi, e⟩ := List.mem_iff_getElem.mp hw
        rw [List.getElem_take] at e
        simp only [List.length_take] at hi
        have : s[i] ≤ s[s.length - k] := by
          by_cases hie : i = s.length - k
          · simp only [hie, Int.le_refl]
          · exact List.pairwise_iff_getElem.mp hs i (s.length - k) (by lia) hp (by lia)
        simp; lia
      rw [hz, Nat.zero_add]
    rw [e]
    have := List.countP_le_length (p := fun w => decide (w > s[s.length - k])) (l := s.drop (s.length - k + 1))
    rw [List.length_drop] at this
    lia
  · have e : k ≤ (s.drop (s.length - k)).countP fun w => decide (w ≥ s[s.length - k]) := by
      have : (s.drop (s.length - k)).countP (fun w => decide (w ≥ s[s.length - k])) = (s.drop (s.length - k)).length := by
        rw [List.countP_eq_length]
        intro w hw
        obtain ⟨i, hi, e⟩ := List.mem_iff_getElem.mp hw
        rw [List.getElem_drop] at e
        simp only [List.length_drop] at hi
        have : s[s.length - k] ≤ s[s.length - k + i] := by
          by_cases hie : i = 0
          · subst hie; exact Int.le_refl _
          · exact List.pairwise_iff_getElem.mp hs (s.length - k) (s.length - k + i) hp (by lia) (by lia)
        simp; lia
      rw [this, List.length_drop]; lia
    have e2 : s.countP (fun w => decide (w ≥ s[s.length - k])) = (s.take (s.length - k)).countP (fun w => decide (w ≥ s[s.length - k])) + (s.drop (s.length - k)).countP (fun w => decide (w ≥ s[s.length - k])) := cs _ _
    lia

def gOf (rows : List (List Int)) (m : Int) (i : Nat) : Nat := (rows.getD i []).countP fun w => decide (w > m)
def hOf (rows : List (List Int)) (m : Int) (i : Nat) : Bool := (rows.getD i []).contains m

theorem told_of {v : List Int} {rows : List (List Int)} {D : Int → Int} {C m : Int} {n len k : Nat} (hv : ∀ x ∈ v, 0 < x) (hn : v.length = n) (hr : rows.length = n)
    (hlen : ∀ i, i < n → (rows.getD i []).length = len) (hrow : ∀ i t, i < n → t < len → (rows.getD i []).getD t 0 * D ((t : Int) + 1) = v.getD i 0 * C)
    (hC : 0 < C) (hDp : ∀ a, 1 ≤ a → 0 < D a) (hDs : ∀ a b, 1 ≤ a → a < b → D a < D b) (hk : 1 ≤ k) (hkl : k ≤ len)
    (h1 : (rows.flatten.countP fun w => decide (w > m)) < k) (h2 : k ≤ rows.flatten.countP fun w => decide (w ≥ m)) :
    sumN (gOf rows m) n < k ∧
    Told v (repAt 0 (gOf rows m) (hOf rows m) (k - sumN (gOf rows m) n) n n) D k ∧ (tieF (hOf rows m) (k - sumN (gOf rows m) n) n = true ↔ Tie v (repAt 0 (gOf rows m) (hOf rows m) (k - sumN (gOf rows m) n) n n) D) := by
  have fall : ∀ i, i < n → (rows.getD i []).Pairwise (· > ·) := by
    intro i hi
    rw [List.pairwise_iff_getElem]
    intro a b ha hb hab
    have la := hlen i hi
    have ea := hrow i a hi (by lia)
    have eb := hrow i b hi (by lia)
    rw [List.getD_eq_getElem?_getD, List.getElem?_eq_getElem ha] at ea
    rw [List.getD_eq_getElem?_getD, List.getElem?_eq_getElem hb] at eb
    simp only [Option.getD_some] at ea eb
    have vp := getD_pos hv (show i < v.length by lia)
    have pos : 0 < v.getD i 0 * C := Int.mul_pos vp hC
    have dlt := hDs ((a : Int) + 1) ((b : Int) + 1) (by lia) (by lia)
    have dp := hDp ((a : Int) + 1) (by lia)
    have dp2 := hDp ((b : Int) + 1) (by lia)
    have wb : 0 < (rows.getD i [])[b] := by
      rw [← eb] at pos
      rcases Int.lt_or_le 0 (rows.getD i [])[b] with h | h
      · exact h
      · have := Int.mul_le_mul_of_nonneg_right h (Int.le_of_lt dp2)
        rw [Int.zero_mul] at this
        lia
    have h3 : (rows.getD i [])[b] * D ((a : Int) + 1) < (rows.getD i [])[a] * D ((a : Int) + 1) := by
      rw [ea, ← eb]
      exact Int.mul_lt_mul_of_pos_left dlt wb
    exact Int.lt_of_mul_lt_mul_right h3 (Int.le_of_lt dp)
  have hg : (rows.flatten.countP fun w => decide (w > m)) = sumN (gOf rows m) n := by
    rw [List.countP_flatten, sum_map_range _ rows n hr]; rfl
  have hge : (rows.flatten.countP fun w => decide (w ≥ m)) = sumN (gOf rows m) n + cntH (hOf rows m) n := by
    rw [List.countP_flatten, sum_map_range _ rows n hr, ← sumN_cnt]
    exact sumN_congr n fun i hi => fall_ge (fall i hi)
  rw [hg] at h1
  rw [hge] at h2
  refine ⟨h1, ?_⟩
  generalize hq : k - sumN (gOf rows m) n = q
  have hq1 : 1 ≤ q := by lia
  generalize hR : repAt 0 (gOf rows m) (hOf rows m) q n n = R
  have hsum : R.sum = k := by
    rw [← hR, repAt_sum, Nat.min_self, Int.zero_mul]; lia
  have hget : ∀ i, i < n → R.getD i 0 = (gOf rows m i : Int) + if hOf rows m i = true ∧ cntH (hOf rows m) i < q then 1 else 0 := fun i hi => by
    rw [← hR, repAt_getD _ _ _ _ _ hi, Int.zero_add]
    simp only [hi, true_and]
  have hRl : R.length = n := by rw [← hR, repAt_length]
  -- the natural number of seats
  let r : Nat → Nat := fun i => gOf rows m i + if hOf rows m i = true ∧ cntH (hOf rows m) i < q then 1 else 0
  have hr' : ∀ i, i < n → R.getD i 0 = (r i : Int) := fun i hi => by
    rw [hget i hi]; show _ = ((gOf rows m i + if hOf rows m i = true ∧ cntH (hOf rows m) i < q then 1 else 0 : Nat) : Int)
    split <;> simp
  have hrsum : sumN r n = k := by
    have : ∀ x, x ≤ n → sumN r x = sumN (gOf rows m) x + min (cntH (hOf rows m) x) q := by
      intro x
      induction x with
      | zero => intro _; simp [sumN, cntH]
      | succ x ih =>
        intro hx
        simp only [sumN, cntH]
        rw [ih (by lia)]
        show _ + (gOf rows m x + if hOf rows m x = true ∧ cntH (hOf rows m) x < q then 1 else 0) = _
        by_cases hh : hOf rows m x = true
        · simp only [hh, true_and, if_true]
          by_cases hc : cntH (hOf rows m) x < q
          · rw [if_pos hc]; lia
          · rw [if_neg hc]; lia
        · simp only [hh, Bool.false_eq_true, false_and, if_false]; lia
    rw [this n (Nat.le_refl _)]; lia
  -- the last claim that is served is m at least, and m where the party has it
  have lastC : ∀ j, j < n → 0 < r j → r j - 1 < len ∧ (m ≤ (rows.getD j []).getD (r j - 1) 0) ∧ ((rows.getD j []).getD (r j - 1) 0 = m → hOf rows m j = true ∧ cntH (hOf rows m) j < q) := by
    intro j hj hp
    have hl := hlen j hj
    have hgl : gOf rows m j ≤ len := by rw [← hl]; exact List.countP_le_length
    by_cases hs : hOf rows m j = true ∧ cntH (hOf rows m) j < q
    · have e : r j = gOf rows m j + 1 := by show (gOf rows m j + if _ then 1 else 0) = _; rw [if_pos hs]
      have fm := fall_mem (fall j hj) hs.1
      rw [e, Nat.add_sub_cancel]
      refine ⟨by rw [← hl]; exact fm.1, Int.le_of_eq fm.2.symm, fun _ => hs⟩
    · have e : r j = gOf rows m j := by show (gOf rows m j + if _ then 1 else 0) = _; rw [if_neg hs]; rfl
      rw [e] at hp ⊢
      have hlt : gOf rows m j - 1 < (rows.getD j []).length := by lia
      have := (fall_gt (m := m) (fall j hj) (gOf rows m j - 1) hlt).mpr (by show gOf rows m j - 1 < gOf rows m j; lia)
      exact ⟨by lia, by lia, fun h => by lia⟩
  have nextC : ∀ i, i < n → r i < len → ((rows.getD i []).getD (r i) 0 ≤ m) ∧ ((rows.getD i []).getD (r i) 0 = m → hOf rows m i = true ∧ q ≤ cntH (hOf rows m) i) ∧ (hOf rows m i = true ∧ q ≤ cntH (hOf rows m) i → (rows.getD i []).getD (r i) 0 = m) := by
    intro i hi hlt
    have hl := hlen i hi
    by_cases hh : hOf rows m i = true
    · have fm := fall_mem (fall i hi) hh
      by_cases hc : cntH (hOf rows m) i < q
      · have e : r i = gOf rows m i + 1 := by show (gOf rows m i + if _ then 1 else 0) = _; rw [if_pos ⟨hh, hc⟩]
        have := fall_at (fall i hi) (i := gOf rows m i) (j := r i) (by lia) (by lia)
        have fm2 : (rows.getD i []).getD (gOf rows m i) 0 = m := fm.2
        exact ⟨by lia, fun h => by lia, fun h => by lia⟩
      · have e : r i = gOf rows m i := by show (gOf rows m i + if _ then 1 else 0) = _; rw [if_neg (fun c => hc c.2)]; rfl
        rw [e]
        exact ⟨Int.le_of_eq fm.2, fun _ => ⟨hh, by lia⟩, fun _ => fm.2⟩
    · have e : r i = gOf rows m i := by show (gOf rows m i + if _ then 1 else 0) = _; rw [if_neg (fun c => hh c.1)]; rfl
      have hf : hOf rows m i = false := by simpa using hh
      rw [e] at hlt ⊢
      have := fall_notmem (fall i hi) hf (by rw [hl]; exact hlt)
      have this' : (rows.getD i []).getD (gOf rows m i) 0 < m := this
      exact ⟨by lia, fun h => by lia, fun h => absurd h.1 hh⟩
  have small : ∀ i j, i < n → j < n → i ≠ j → 0 < r j → r i < len := by
    intro i j hi hj hij hp
    have := le_sumN2 r hi hj hij
    lia
  -- two claims are compared by their weights
  have cmp : ∀ i j, i < n → j < n → i ≠ j → 0 < r j →
      (v.getD i 0 * D (r j : Int)) * C = ((rows.getD i []).getD (r i) 0) * (D ((r i : Int) + 1) * D (r j : Int)) ∧
      (v.getD j 0 * D ((r i : Int) + 1)) * C = ((rows.getD j []).getD (r j - 1) 0) * (D ((r i : Int) + 1) * D (r j : Int)) := by
    intro i j hi hj hij hp
    have ri := small i j hi hj hij hp
    have rj := (lastC j hj hp).1
    have ei := hrow i (r i) hi ri
    have ej := hrow j (r j - 1) hj rj
    rw [show ((r j - 1 : Nat) : Int) + 1 = (r j : Int) by lia] at ej
    constructor
    · rw [Int.mul_assoc, Int.mul_comm (D (r j : Int)) C, ← Int.mul_assoc, ← ei, Int.mul_assoc]
    · rw [Int.mul_assoc, Int.mul_comm (D ((r i : Int) + 1)) C, ← Int.mul_assoc, ← ej, Int.mul_assoc, Int.mul_comm (D (r j : Int))]
  have both : ∀ i j, i < n → j < n → i ≠ j → 0 < r j →
      (v.getD i 0 * D (r j : Int) < v.getD j 0 * D ((r i : Int) + 1)) ∨
      (v.getD i 0 * D (r j : Int) = v.getD j 0 * D ((r i : Int) + 1) ∧ (hOf rows m i = true ∧ q ≤ cntH (hOf rows m) i) ∧ hOf rows m j = true ∧ cntH (hOf rows m) j < q) := by
    intro i j hi hj hij hp
    obtain ⟨ci, cj⟩ := cmp i j hi hj hij hp
    have ri := small i j hi hj hij hp
    obtain ⟨_, b1, b2⟩ := lastC j hj hp
    obtain ⟨a1, a2, _⟩ := nextC i hi ri
    have dd : 0 < D ((r i : Int) + 1) * D (r j : Int) := Int.mul_pos (hDp _ (by lia)) (hDp _ (by lia))
    rcases Int.lt_or_eq_of_le (Int.le_trans a1 b1) with h | h
    · left
      have h3 : (v.getD i 0 * D (r j : Int)) * C < (v.getD j 0 * D ((r i : Int) + 1)) * C := by
        rw [ci, cj]; exact Int.mul_lt_mul_of_pos_right h dd
      exact Int.lt_of_mul_lt_mul_right h3 (Int.le_of_lt hC)
    · right
      have h3 : (v.getD i 0 * D (r j : Int)) * C = (v.getD j 0 * D ((r i : Int) + 1)) * C := by rw [ci, cj, h]
      refine ⟨Int.eq_of_mul_eq_mul_right (Int.ne_of_gt hC) h3, a2 (by lia), b2 (by lia)⟩
  refine ⟨⟨by rw [hRl, hn], hsum, fun i hi => by rw [hr' i (by lia)]; lia, ?_⟩, ?_⟩
  · intro i j hi hj hij hp
    rw [hn] at hi hj
    rw [hr' j hj] at hp ⊢
    rw [hr' i hi]
    rcases both i j hi hj hij (by lia) with h | ⟨h, h3, h4⟩
    · exact .inl h
    · refine .inr ⟨h, ?_⟩
      rcases Nat.lt_or_ge j i with h5 | h5
      · exact h5
      · have := cntH_mono (hOf rows m) h5
        lia
  · rw [tieF_iff]
    constructor
    · rintro ⟨i, hi, hh, hc⟩
      -- somebody before i is served with m
      obtain ⟨j, hji, hj, hjc⟩ : ∃ j, j < i ∧ hOf rows m j = true ∧ cntH (hOf rows m) j < q := by
        have : ∀ x, x ≤ i → 1 ≤ cntH (hOf rows m) x → ∃ j, j < x ∧ hOf rows m j = true ∧ cntH (hOf rows m) j < q := by
          intro x
          induction x with
          | zero => intro _ h; simp [cntH] at h
          | succ x ih =>
            intro hx h
            by_cases h0 : 1 ≤ cntH (hOf rows m) x
            · obtain ⟨j, a, b⟩ := ih (by lia) h0
              exact ⟨j, by lia, b⟩
            · refine ⟨x, by lia, ?_, by lia⟩
              cases hb : hOf rows m x with
              | true => rfl
              | false => simp only [cntH, hb, Bool.false_eq_true, if_false] at h; lia
        exact this i (Nat.le_refl _) (by lia)
      have hjn : j < n := by lia
      have hp : 0 < r j := by show 0 < (gOf rows m j + if _ then 1 else 0); rw [if_pos ⟨hj, hjc⟩]; lia
      have hij : i ≠ j := by lia
      obtain ⟨ci, cj⟩ := cmp i j hi hjn hij hp
      have ri := small i j hi hjn hij hp
      have wi := (nextC i hi ri).2.2 ⟨hh, hc⟩
      have wj : (rows.getD j []).getD (r j - 1) 0 = m := by
        have e : r j = gOf rows m j + 1 := by show (gOf rows m j + if _ then 1 else 0) = _; rw [if_pos ⟨hj, hjc⟩]
        rw [e, Nat.add_sub_cancel]
        exact (fall_mem (fall j hjn) hj).2
      refine ⟨i, j, by lia, by lia, hij, by rw [hr' j hjn]; lia, ?_⟩
      rw [hr' j hjn, hr' i hi]
      refine Int.eq_of_mul_eq_mul_right (Int.ne_of_gt hC) ?_
      rw [ci, cj, wi, wj]
    · rintro ⟨i, j, hi, hj, hij, hp, he⟩
      rw [hn] at hi hj
      rw [hr' j hj] at hp he
      rw [hr' i hi] at he
      rcases both i j hi hj hij (by lia) with h | ⟨_, h3, _⟩
      · lia
      · exact ⟨i, hi, h3⟩
end Mine
end

-- part CA
section
open PySem PyProof.Rows
set_option maxRecDepth 100000
namespace Mine

/-- how a comprehension's name is bound: in its frame's map, or in a cell -/
inductive BdK where
  | loc
  | cel (c : Addr)
def BdK.addr : BdK → Option Addr
  | .loc => none
  | .cel c => some c
def Bd (C : Addr) (x : Str) : BdK → Heap → Value → Prop
  | .loc, h, v => ∃ m, h.Ns C m ∧ m x = some v
  | .cel c, h, v => h.IsCell c (some v)
def BdAny (b : BdK) (h : Heap) : Prop := match b with
  | .loc => True
  | .cel c => ∃ v, h.IsCell c v
def BdOk (cenv : Env) (x : Str) : BdK → Prop
  | .loc => cenv.kindOf x = some .local
  | .cel c => cenv.kindOf x = some .cell ∧ cenv.cells.lookup x = some c ∧ c ≠ cenv.locals

/-- an element that was made: by value, or a new object -/
def EltB (h : Heap) (ban : Addr → Prop) (y : Value) : Option Obj → Prop
  | none => True
  | some o => ∃ T, y = .ref T ∧ h.get? T = some o ∧ ¬ ban T
theorem EltB.keep {h h' : Heap} {ban : Addr → Prop} {y : Value} {xo : Option Obj} (x : EltB h ban y xo) (hk : ∀ b o, ¬ ban b → h.get? b = some o → h'.get? b = some o) : EltB h' ban y xo := by
  cases xo with
  | none => trivial
  | some o => obtain ⟨T, e, g, n⟩ := x; exact ⟨T, e, hk T o n g, n⟩

theorem wpAny_storeKind {M : Model} {A : Around} {E : Value → Shared → Prop} {s : Shared} {cenv : Env} {x : Str} {v : Value} {b : BdK} {m : Str → Option Value} {Q : Unit → Shared → Prop}
    (hfn : cenv.scope.kind = .function) (hb : BdOk cenv x b) (hn : s.heap.Ns cenv.locals m) (ha : BdAny b s.heap)
    (h : ∀ h' tk, (∃ m', h'.Ns cenv.locals m') → Bd cenv.locals x b h' v → (∀ a o, a ≠ cenv.locals → b.addr ≠ some a → s.heap.get? a = some o → h'.get? a = some o) → s.toks ≤ tk → Q () { s with heap := h', toks := tk }) :
    wpAny M A (storeName cenv x v) Q E s := by
  cases b with
  | loc =>
    refine wpAny_storeName_local hb hn (fun h' hn' hs' => ?_) (by rw [hfn]; rfl)
    exact h h' _ ⟨_, hn'⟩ ⟨_, hn', by simp⟩ (fun a o h1 _ e => hs'.extBut a o h1 e) (Nat.le_succ _)
  | cel c =>
    obtain ⟨hk, hc, hne⟩ := hb
    obtain ⟨v₀, hv₀⟩ := ha
    refine wpAny_storeName_cell hfn hk hc hv₀ fun h' hv' hs' => ?_
    exact h h' s.toks ⟨m, hn.sameBut hs' (Ne.symm hne)⟩ hv' (fun a o _ h2 e => hs'.extBut a o (fun q => h2 (by rw [q]; rfl)) e) (Nat.le_refl _)

section
variable {prog : Program} {w : World} {A : Around} {R : Result → Shared → Prop} {s : Shared}

theorem compLoop_gen {elt iter : Expr} {x : Str} {px : Pos} {scope : Scope} {pos : Pos} {I D : Addr} {fp wr : List Addr} {n : Nat} {P : Nat → Value → Prop} {St : Nat → Heap → Prop}
    {cenv : Env} {m : Str → Option Value} {b : BdK} (W : Walks prog w A I fp wr n P St) (F : Nat → Value → Value → Option Obj → Prop)
    (hfn : cenv.scope.kind = .function) (hb : BdOk cenv x b) (hbc : ∀ c, b.addr = some c → c ∉ fp ∧ c ≠ D)
    (hDC : D ≠ cenv.locals) (hDf : D ∉ fp) (hCf : cenv.locals ∉ fp) (hwr : ∀ i h, St i h → ∀ a ∈ wr, ∃ o, h.get? a = some o)
    (hst : St 0 s.heap) (hacc : s.heap.PlainList D #[]) (hn : s.heap.Ns cenv.locals m) (hba : BdAny b s.heap)
    (helt : ∀ i v s₂, i < n → P i v → Bd cenv.locals x b s₂.heap v → (∀ a o, a ≠ cenv.locals → a ∉ wr → a ≠ D → b.addr ≠ some a → s.heap.get? a = some o → s₂.heap.get? a = some o) →
      wpAny (model prog w) A (eval elt cenv) (fun y s₃ => (∃ xo, F i v y xo ∧ ∀ o, xo = some o → ∃ T, y = .ref T ∧ s₂.heap.get? T = none ∧ s₃.heap.get? T = some o) ∧ Keeps s₂ s₃) (notedBy (model prog w) A cenv fun e s' => R (.error e) s') s₂)
    (hR : ∀ h' tk m' (ys : Array Value), h'.Ns cenv.locals m' → h'.PlainList D ys → ys.size = n →
      (∀ j, j < n → ∃ v y xo, P j v ∧ ys[j]? = some y ∧ F j v y xo ∧ EltB h' (fun a => a = cenv.locals ∨ a ∈ wr ∨ a = D ∨ b.addr = some a) y xo) →
      (∀ a o, a ≠ cenv.locals → a ∉ wr → a ≠ D → b.addr ≠ some a → s.heap.get? a = some o → h'.get? a = some o) → R (.ok .next) { s with heap := h', toks := tk })
    (hsz : n ≤ sizeLine) :
    codeAny (model prog w) A (.compLoop (.ListComp elt [⟨.Name x px, iter, [], 0⟩] scope pos) 0 (.ref I) (.ref D) cenv) R s := by
  refine codeAny_compLoop_tests
    (fun k s' => ∃ h' tk m' ys i, s' = { s with heap := h', toks := tk } ∧ St i h' ∧ h'.PlainList D ys ∧ h'.Ns cenv.locals m' ∧ BdAny b h' ∧ ys.size = i ∧
      (∀ j, j < i → ∃ v y xo, P j v ∧ ys[j]? = some y ∧ F j v y xo ∧ EltB h' (fun a => a = cenv.locals ∨ a ∈ wr ∨ a = D ∨ b.addr = some a) y xo) ∧
      i ≤ n ∧ k = n + 1 - i ∧
      (∀ a o, a ≠ cenv.locals → a ∉ wr → a ≠ D → b.addr ≠ some a → s.heap.get? a = some o → h'.get? a = some o)) ?_ (n + 1)
    ⟨s.heap, s.toks, m, #[], 0, rfl, hst, hacc, hn, hba, rfl, fun j hj => absurd hj (Nat.not_lt_zero _), Nat.zero_le _, rfl, fun _ _ _ _ _ _ e => e⟩
  rintro k s' ⟨H, tk, m', ys, i, rfl, hst', hacc', hn', hba', hys, hF, hi, rfl, hk⟩
  have hCw : cenv.locals ∉ wr := fun h => hCf (W.sub _ h)
  have hDw : D ∉ wr := fun h => hDf (W.sub _ h)
  have hbw : ∀ c, b.addr = some c → c ∉ wr := fun c hc h => (hbc c hc).1 (W.sub _ h)
  have anyOf : ∀ {h₁ h₂ : Heap}, BdAny b h₁ → (∀ a o, b.addr = some a → h₁.get? a = some o → h₂.get? a = some o) → BdAny b h₂ := by
    intro h₁ h₂ x q
    cases b with
    | loc => trivial
    | cel c => obtain ⟨v, o, ho, hd⟩ := x; exact ⟨v, o, q c o rfl ho, hd⟩
  by_cases hlt : i < n
  · refine W.item i _ _ _ hlt hst' fun v h₁ tk₁ hPv hst₁ hk₁ => ?_
    refine wpAny_assign_Name (wpAny_storeKind hfn hb (hn'.at' fun o e => hk₁ _ o hCw e) (anyOf hba' fun a o ha e => hk₁ a o (hbw a ha) e) fun h₂ tk₂ hn₂ hbd₂ hk₂ _ => ?_)
    dsimp only at hk₂
    obtain ⟨m₂, hn₂⟩ := hn₂
    have up : ∀ a o, a ≠ cenv.locals → a ∉ wr → b.addr ≠ some a → H.get? a = some o → h₂.get? a = some o := fun a o h1 h2 h3 e => hk₂ a o h1 h3 (hk₁ a o h2 e)
    have hst₂ : St (i + 1) h₂ := W.frame _ _ _ hst₁ fun a ha o e => hk₂ a o (fun h => hCf (h ▸ ha)) (fun h => (hbc a h).1 ha) e
    have hacc₂ : h₂.PlainList D ys := hacc'.at fun o e => up D o hDC hDw (fun h => (hbc D h).2 rfl) e
    have hba₂ : BdAny b h₂ := by
      cases b with
      | loc => trivial
      | cel c => exact ⟨_, hbd₂⟩
    refine wpAny_tests_nil ?_
    simp only [if_true]
    refine wpAny_mono (helt i v { s with heap := h₂, toks := tk₂ } hlt hPv hbd₂ fun a o h1 h2 h3 h4 e => up a o h1 h2 h4 (hk a o h1 h2 h3 h4 e)) (fun y s₄ h₄ => ?_) fun _ _ e => e
    obtain ⟨⟨xo, hFy, hnew⟩, h₄, tk₄, rfl, hk₄⟩ := h₄
    dsimp only at hnew hk₄ ⊢
    have hys' : ys.size ≤ sizeLine := by lia
    refine wpAny_list_append_plain (hsz := hys') (hacc₂.at fun o e => hk₄ _ o e) fun h₅ hl₅ hs₅ => ?_
    dsimp only at hs₅
    have ban₄ : ∀ a, (a = cenv.locals ∨ a ∈ wr ∨ a = D ∨ b.addr = some a) → ∃ o, h₂.get? a = some o := by
      rintro a (rfl | ha | rfl | ha)
      · obtain ⟨o, _, _, e, _⟩ := hn₂; exact ⟨o, e⟩
      · exact hwr _ _ hst₂ a ha
      · obtain ⟨n', e⟩ := hacc₂; exact ⟨_, e⟩
      · cases b with
        | loc => cases ha
        | cel c => cases ha; obtain ⟨_, o, e, _⟩ := hba₂; exact ⟨o, e⟩
    refine ⟨n + 1 - (i + 1), by lia, h₅, tk₄, _, ys.push y, i + 1, rfl, ?_, hl₅, (hn₂.keeps hk₄).sameBut hs₅ (Ne.symm hDC), anyOf hba₂ (fun a o ha e => hs₅.extBut a o (hbc a ha).2 (hk₄ a o e)), by rw [Array.size_push, hys], ?_, hlt, rfl,
      fun a o h1 h2 h3 h4 e => hs₅.extBut a o h3 (hk₄ a o (up a o h1 h2 h4 (hk a o h1 h2 h3 h4 e)))⟩
    · exact W.frame _ _ h₅ hst₂ fun a ha o e => hs₅.extBut a o (fun h => hDf (h ▸ ha)) (hk₄ a o e)
    · intro j hj
      by_cases hji : j < i
      · obtain ⟨v', y', xo', a1, a2, a3, a4⟩ := hF j hji
        refine ⟨v', y', xo', a1, ?_, a3, a4.keep fun a o hban e => ?_⟩
        · rw [Array.getElem?_push, if_neg (by lia)]; exact a2
        · exact hs₅.extBut a o (fun h => hban (.inr (.inr (.inl h)))) (hk₄ a o (up a o (fun h => hban (.inl h)) (fun h => hban (.inr (.inl h))) (fun h => hban (.inr (.inr (.inr h)))) e))
      · have hji' : j = i := by lia
        subst hji'
        refine ⟨v, y, xo, hPv, ?_, hFy, ?_⟩
        · rw [← hys]; simp
        · cases xo with
          | none => trivial
          | some o =>
            obtain ⟨T, e1, e2, e3⟩ := hnew o rfl
            have hnb : ¬ (T = cenv.locals ∨ T ∈ wr ∨ T = D ∨ b.addr = some T) := fun hb' => by
              obtain ⟨o', ho'⟩ := ban₄ T hb'
              rw [e2] at ho'; cases ho'
            exact ⟨T, e1, hs₅.extBut T o (fun h => hnb (.inr (.inr (.inl h)))) e3, hnb⟩
  · have hin : i = n := by lia
    subst hin
    refine W.done _ _ _ hst' fun h₁ tk₁ hk₁ => ?_
    refine hR h₁ tk₁ m' ys (hn'.at' fun o e => hk₁ _ o hCw e) (hacc'.at fun o e => hk₁ _ o hDw e) hys (fun j hj => ?_) fun a o h1 h2 h3 h4 e => hk₁ a o h2 (hk a o h1 h2 h3 h4 e)
    obtain ⟨v', y', xo', a1, a2, a3, a4⟩ := hF j hj
    exact ⟨v', y', xo', a1, a2, a3, a4.keep fun a o hban e => hk₁ a o (fun h => hban (.inr (.inl h))) e⟩
end
end Mine
end

-- part CB
section
open PySem PyProof.Rows
set_option maxRecDepth 100000
namespace Mine

abbrev cellO : Obj := { cls := .type "cell", data := .cell none }
def cl1 (one : Bool) (x : Str) (C : Addr) (cl : List (Str × Addr)) : List (Str × Addr) := if one then (x, C + 1) :: cl else cl
def bk1 (one : Bool) (C : Addr) : BdK := if one then .cel (C + 1) else .loc

section
variable {M : Model} {A : Around} {E : Value → Shared → Prop} {s : Shared}
theorem wpAny_newEnvG {scope : Scope} {globals : Addr} {cl : List (Str × Addr)} {qual : Str} {env : Env} {Q : Env → Shared → Prop}
    (h : Q { scope := scope, locals := s.heap.objs.size, globals := globals, cells := cellsFrom (s.heap.objs.size + 1) scope.names cl, qual := qual, func := none, code := env.code, frame := env.frame, builtins := env.builtins }
      { s with heap := pushCells (s.heap.push { cls := .type "dict", data := .dict #[] }) scope.names }) :
    wpAny M A (newFunctionEnv scope globals cl [] qual none .none (some env)) Q E s := by
  simp only [newFunctionEnv, Option.isSome_some, if_true]
  refine wpAny_bind (wpAny_alloc ?_)
  refine wpAny_bind (wpAny_layCells _ (fun name kind cells => by cases kind == NameKind.cell <;> simp) _ _ _ _ ?_)
  rw [show ({ s with heap := s.heap.push { cls := .type "dict", data := .dict #[] } } : Shared).heap.objs.size = s.heap.objs.size + 1 from Heap.size_push ..]
  exact wpAny_bind (wpAny_pure (wpAny_pure h))
end

section
variable {prog : Program} {w : World} {A : Around} {E : Value → Shared → Prop} {s : Shared} {env : Env}

theorem wpAny_ListComp_gen {elt iter : Expr} {x : Str} {px : Pos} {scope : Scope} {cl : List (Str × Addr)} {pos : Pos} {Q : Value → Shared → Prop} (one : Bool) (F : Nat → Value → Value → Option Obj → Prop)
    (hclos : closureFor scope env = pure cl) (hkind : scope.kind = .function) (hnames : ∀ y ∈ scope.names, y.2 = .local → scope.names.lookup y.1 = some .local)
    (hC : ∀ n cl h, cellsFrom n scope.names cl = (if one then (x, n) :: cl else cl) ∧ pushCells h scope.names = if one then h.push cellO else h)
    (hx : (relabel scope env).names.lookup x = some (if one then .cell else .local))
    (h : wpAny (model prog w) A (eval iter env) (fun xv s₁ => wpAny (model prog w) A (pyIter xv) (fun it s₂ => ∃ I fp wr n P St, it = .ref I ∧ Walks prog w A I fp wr n P St ∧ n ≤ sizeLine ∧ St 0 s₂.heap ∧ (∀ b ∈ fp, b < s₂.heap.objs.size) ∧
      (∀ i h, St i h → ∀ a ∈ wr, ∃ o, h.get? a = some o) ∧
      (∀ C i v s₃ E', s₂.heap.objs.size ≤ C → i < n → P i v → Bd C x (bk1 one C) s₃.heap v → (∀ a o, a ∉ wr → s₂.heap.get? a = some o → s₃.heap.get? a = some o) →
        wpAny (model prog w) A (eval elt (compEnvC scope (cl1 one x C cl) C env)) (fun y s₄ => (∃ xo, F i v y xo ∧ ∀ o, xo = some o → ∃ T, y = .ref T ∧ s₃.heap.get? T = none ∧ s₄.heap.get? T = some o) ∧ Keeps s₃ s₄) E' s₃) ∧
      (∀ D h' tk (ys : Array Value), s₂.heap.get? D = none → h'.PlainList D ys → ys.size = n →
        (∀ j, j < n → ∃ v y xo, P j v ∧ ys[j]? = some y ∧ F j v y xo ∧ EltB h' (fun a => a = D) y xo) →
        (∀ a o, a ∉ wr → s₂.heap.get? a = some o → h'.get? a = some o) → Q (.ref D) { s₂ with heap := h', toks := tk })) E s₁) E s)
    (hs : ∀ x, foldedSetIterable iter env x = pure x := by intro _; rfl) :
    wpAny (model prog w) A (eval (.ListComp elt [⟨.Name x px, iter, [], 0⟩] scope pos) env) Q E s := by
  rw [eval_ListComp]
  refine wpAny_comprehension_free (use := none) rfl hs hclos hkind hnames (wpAny_mono h (fun xv s₁ h₁ => wpAny_mono h₁ (fun it s₂ h₂ => ?_) fun _ _ e => e) fun _ _ e => e)
  obtain ⟨I, fp, wr, n, P, St, rfl, W, hsz, hst, hfp, hwr, hel, hQ⟩ := h₂
  refine wpAny_newObj_type (wpAny_newEnvG ?_)
  dsimp only
  generalize hH : s₂.heap.push { cls := .type "list", dict := none, data := .seq ([] : List Value).toArray } = H
  have hHs : H.objs.size = s₂.heap.objs.size + 1 := by rw [← hH, Heap.size_push]
  have e1 : cellsFrom (H.objs.size + 1) scope.names cl = cl1 one x H.objs.size cl := (hC _ _ H).1
  have e2 : ∀ h, pushCells h scope.names = if one then h.push cellO else h := fun h => (hC 0 cl h).2
  rw [e1, e2]
  generalize hH1 : (if one then (H.push { cls := .type "dict", data := .dict #[] }).push cellO else H.push { cls := .type "dict", data := .dict #[] }) = H1
  have old : ∀ a o, H.get? a = some o → H1.get? a = some o := fun a o e => by
    rw [← hH1]
    cases one with
    | true => exact Heap.get?_push_of_some _ (Heap.get?_push_of_some _ e)
    | false => exact Heap.get?_push_of_some _ e
  have old2 : ∀ a o, s₂.heap.get? a = some o → H1.get? a = some o := fun a o e => old a o (hH ▸ Heap.get?_push_of_some _ e)
  have hDplain : H1.PlainList s₂.heap.objs.size #[] := ⟨0, old _ _ (hH ▸ Heap.get?_push_size _ rfl)⟩
  have hns : ∃ m, H1.Ns H.objs.size m := by
    have hn0 : (H.push { cls := .type "dict", data := .dict #[] }).Ns H.objs.size (fun _ => none) := Heap.Ns.new H (.type "dict")
    refine ⟨fun _ => none, ?_⟩
    rw [← hH1]
    cases one with
    | true => exact hn0.keeps fun a o e => Heap.get?_push_of_some _ e
    | false => exact hn0
  obtain ⟨m, hns⟩ := hns
  have hcell : BdAny (bk1 one H.objs.size) H1 := by
    rw [← hH1]
    cases one with
    | true =>
      refine ⟨none, cellO, ?_, rfl⟩
      have : (H.push { cls := .type "dict", data := .dict #[] }).objs.size = H.objs.size + 1 := Heap.size_push ..
      show Heap.get? ((H.push { cls := .type "dict", data := .dict #[] }).push cellO) (H.objs.size + 1) = _
      rw [← this]
      exact Heap.get?_push_size _ rfl
    | false => trivial
  have hDC : s₂.heap.objs.size ≠ H.objs.size := by rw [hHs]; exact Nat.ne_of_lt (Nat.lt_succ_self _)
  have hDf : s₂.heap.objs.size ∉ fp := fun hm => Nat.lt_irrefl _ (hfp _ hm)
  have hCf : H.objs.size ∉ fp := fun hm => by have := hfp _ hm; rw [hHs] at this; exact Nat.lt_irrefl _ (Nat.lt_of_succ_lt this)
  have hc1f : H.objs.size + 1 ∉ fp := fun hm => by have := hfp _ hm; rw [hHs] at this; exact absurd this (Nat.not_lt.mpr (Nat.le_add_right _ 2))
  have fresh : ∀ a, s₂.heap.objs.size ≤ a → s₂.heap.get? a = none := fun a ha => by
    cases e : s₂.heap.get? a with
    | none => rfl
    | some o' => exact absurd (Heap.lt_size e) (Nat.not_lt.mpr ha)
  have hst₁ : St 0 H1 := W.frame _ _ _ hst fun a _ o e => old2 a o e
  have hbc : ∀ c, (bk1 one H.objs.size).addr = some c → c = H.objs.size + 1 := fun c hc => by
    cases one with
    | true => exact (Option.some.inj hc).symm
    | false => cases hc
  have below : ∀ a o, s₂.heap.get? a = some o → a ≠ H.objs.size ∧ a ≠ s₂.heap.objs.size ∧ (bk1 one H.objs.size).addr ≠ some a := fun a o e => by
    have hlt := Heap.lt_size e
    refine ⟨fun q => ?_, Nat.ne_of_lt hlt, fun q => ?_⟩
    · rw [q, hHs] at hlt; exact Nat.lt_irrefl _ (Nat.lt_of_succ_lt hlt)
    · rw [hbc a q, hHs] at hlt; exact absurd hlt (Nat.not_lt.mpr (Nat.le_add_right _ 2))
  have loop : codeAny (model prog w) A (.compLoop (.ListComp elt [⟨.Name x px, iter, [], 0⟩] scope pos) 0 (.ref I) (.ref s₂.heap.objs.size) (compEnvC scope (cl1 one x H.objs.size cl) H.objs.size env))
      (compPost (model prog w) A E none Q (.ref s₂.heap.objs.size) H.objs.size) { s₂ with heap := H1, toks := s₂.toks } := by
    refine compLoop_gen (cenv := compEnvC scope (cl1 one x H.objs.size cl) H.objs.size env) (b := bk1 one H.objs.size) W F (by simp [compEnvC, relabel, hkind]) ?_ (fun c hc => ?_) hDC hDf hCf hwr hst₁ hDplain hns hcell (fun i v s₃ hi hP hbd hk => ?_) (fun h' tk m' ys hn hpl hys hF hk => ?_) hsz
    · cases one with
      | true =>
        refine ⟨hx, ?_, Nat.ne_of_gt (Nat.lt_succ_self _)⟩
        show List.lookup x ((x, H.objs.size + 1) :: cl) = _
        rw [List.lookup_cons]; simp
      | false => exact hx
    · rw [hbc c hc]
      exact ⟨hc1f, fun q => by rw [hHs] at q; exact absurd q (Nat.ne_of_gt (Nat.lt_succ_of_lt (Nat.lt_succ_self _)))⟩
    · exact hel _ i v s₃ _ (by rw [hHs]; exact Nat.le_succ _) hi hP hbd fun a o ha e => hk a o (below a o e).1 ha (below a o e).2.1 (below a o e).2.2 (old2 a o e)
    · refine ⟨m', hn, fun h'' hs'' => hQ _ h'' tk ys (fresh _ (Nat.le_refl _)) (hpl.extBut hs''.extBut hDC) hys (fun j hj => ?_) fun a o ha e => hs''.extBut a o (below a o e).1 (hk a o (below a o e).1 ha (below a o e).2.1 (below a o e).2.2 (old2 a o e))⟩
      obtain ⟨v, y, xo, a1, a2, a3, a4⟩ := hF j hj
      refine ⟨v, y, xo, a1, a2, a3, ?_⟩
      cases xo with
      | none => trivial
      | some o =>
        obtain ⟨T, b1, b2, b3⟩ := a4
        exact ⟨T, b1, hs''.extBut T o (fun q => b3 (.inl q)) b2, fun q => b3 (.inr (.inr (.inl q)))⟩
  exact codeAny_compStart_list loop (W.self 0 _ _ _ hst₁ loop)
end
end Mine
end

-- part CC
section
open PySem PyProof.Rows
set_option maxRecDepth 100000
namespace Mine

section
variable {prog : Program} {w : World} {A : Around} {E : Value → Shared → Prop} {s : Shared} {env : Env}

/-- a comprehension over a list -/
theorem comp_list {elt iter : Expr} {x : Str} {px : Pos} {scope : Scope} {cl : List (Str × Addr)} {pos : Pos} {Q : Value → Shared → Prop} (one : Bool) (F : Nat → Value → Value → Option Obj → Prop)
    (hh : A.handled = none) (hclos : closureFor scope env = pure cl) (hkind : scope.kind = .function) (hnames : ∀ y ∈ scope.names, y.2 = .local → scope.names.lookup y.1 = some .local)
    (hC : ∀ n cl h, cellsFrom n scope.names cl = (if one then (x, n) :: cl else cl) ∧ pushCells h scope.names = if one then h.push cellO else h)
    (hx : (relabel scope env).names.lookup x = some (if one then .cell else .local))
    (h : wpAny (model prog w) A (eval iter env) (fun xv s₁ => ∃ ax items, xv = .ref ax ∧ s₁.heap.IsList ax items ∧ items.size ≤ sizeLine ∧
      (∀ C i v s₃ E', s₁.heap.objs.size ≤ C → items[i]? = some v → Bd C x (bk1 one C) s₃.heap v → (∀ a o, s₁.heap.get? a = some o → s₃.heap.get? a = some o) →
        wpAny (model prog w) A (eval elt (compEnvC scope (cl1 one x C cl) C env)) (fun y s₄ => (∃ xo, F i v y xo ∧ ∀ o, xo = some o → ∃ T, y = .ref T ∧ s₃.heap.get? T = none ∧ s₄.heap.get? T = some o) ∧ Keeps s₃ s₄) E' s₃) ∧
      (∀ D h' tk (ys : Array Value), s₁.heap.get? D = none → h'.PlainList D ys → ys.size = items.size →
        (∀ j v, items[j]? = some v → ∃ y xo, ys[j]? = some y ∧ F j v y xo ∧ EltB h' (fun a => a = D) y xo) →
        (∀ a o, s₁.heap.get? a = some o → h'.get? a = some o) → Q (.ref D) { s₁ with heap := h', toks := tk })) E s)
    (hs : ∀ x, foldedSetIterable iter env x = pure x := by intro _; rfl) :
    wpAny (model prog w) A (eval (.ListComp elt [⟨.Name x px, iter, [], 0⟩] scope pos) env) Q E s := by
  refine wpAny_ListComp_gen one F hclos hkind hnames hC hx (wpAny_mono h (fun xv s₁ h₁ => ?_) fun _ _ e => e) hs
  obtain ⟨ax, items, rfl, hl, hsz, hel, hQ⟩ := h₁
  have hlt : ax < s₁.heap.objs.size := by obtain ⟨_, e, _⟩ := hl; exact Heap.lt_size e
  have up : ∀ (h₃ : Heap), (∀ b o, b ∉ [s₁.heap.objs.size] → (s₁.heap.push { cls := .type "list_iterator", data := .fields #[.ref ax, .int 0 0] }).get? b = some o → h₃.get? b = some o) → ∀ b o, s₁.heap.get? b = some o → h₃.get? b = some o :=
    fun h₃ hk b o e => hk b o (fun hm => Nat.lt_irrefl _ (List.mem_singleton.mp hm ▸ Heap.lt_size e)) (Heap.get?_push_of_some _ e)
  refine wpAny_pyIter_list hl ⟨s₁.heap.objs.size, [s₁.heap.objs.size, ax], [s₁.heap.objs.size], items.size, _, _, rfl, Walks.list hh _ _ (Nat.ne_of_lt hlt) items, hsz, ⟨⟨_, Heap.get?_push_size _ rfl, rfl, rfl⟩, hl.push _⟩, ?_, ?_, ?_, ?_⟩
  · intro b hb
    show b < (s₁.heap.push _).objs.size
    rw [Heap.size_push]
    rcases List.mem_cons.mp hb with rfl | hb
    · exact Nat.lt_succ_self _
    · rw [List.mem_singleton.mp hb]; exact Nat.lt_succ_of_lt hlt
  · rintro i h ⟨⟨o, ho, _⟩, _⟩ a ha
    rw [List.mem_singleton.mp ha]; exact ⟨o, ho⟩
  · intro C i v s₃ E' hC' hi hP hbd hk
    exact hel C i v s₃ E' (Nat.le_of_succ_le (by simpa [Heap.size_push] using hC')) hP hbd (up _ hk)
  · intro D h' tk ys hD hpl hys hF hk
    have hD' : s₁.heap.get? D = none := by
      cases e : s₁.heap.get? D with
      | none => rfl
      | some o' => rw [Heap.get?_push_of_some _ e] at hD; cases hD
    refine hQ D h' tk ys hD' hpl hys (fun j v hj => ?_) (up _ hk)
    have hjl : j < items.size := (Array.getElem?_eq_some_iff.mp hj).1
    obtain ⟨v', y, xo, a1, a2, a3, a4⟩ := hF j hjl
    rw [hj] at a1; cases a1
    exact ⟨y, xo, a2, a3, a4⟩

/-- a comprehension over a range by ones -/
theorem comp_range {elt iter : Expr} {x : Str} {px : Pos} {scope : Scope} {cl : List (Str × Addr)} {pos : Pos} {Q : Value → Shared → Prop} (one : Bool) (F : Nat → Value → Value → Option Obj → Prop)
    (hh : A.handled = none) (hclos : closureFor scope env = pure cl) (hkind : scope.kind = .function) (hnames : ∀ y ∈ scope.names, y.2 = .local → scope.names.lookup y.1 = some .local)
    (hC : ∀ n cl h, cellsFrom n scope.names cl = (if one then (x, n) :: cl else cl) ∧ pushCells h scope.names = if one then h.push cellO else h)
    (hx : (relabel scope env).names.lookup x = some (if one then .cell else .local))
    (h : wpAny (model prog w) A (eval iter env) (fun xv s₁ => ∃ (r : Addr) (a b : Int) (t u v' : Tok) (n : Nat), xv = .ref r ∧ IsRange s₁.heap r a b 1 t u v' ∧ Builtin.Range.small a b 1 = true ∧ Builtin.Range.rangeSize a b 1 = (n : Int) ∧ n ≤ sizeLine ∧
      (∀ C (i : Nat) tk s₃ E', s₁.heap.objs.size ≤ C → i < n → Bd C x (bk1 one C) s₃.heap (.int (a + (i : Int)) tk) → (∀ a o, s₁.heap.get? a = some o → s₃.heap.get? a = some o) →
        wpAny (model prog w) A (eval elt (compEnvC scope (cl1 one x C cl) C env)) (fun y s₄ => (∃ xo, F i (.int (a + (i : Int)) tk) y xo ∧ ∀ o, xo = some o → ∃ T, y = .ref T ∧ s₃.heap.get? T = none ∧ s₄.heap.get? T = some o) ∧ Keeps s₃ s₄) E' s₃) ∧
      (∀ D h' tk (ys : Array Value), s₁.heap.get? D = none → h'.PlainList D ys → ys.size = n →
        (∀ j : Nat, j < n → ∃ t y xo, ys[j]? = some y ∧ F j (.int (a + (j : Int)) t) y xo ∧ EltB h' (fun a => a = D) y xo) →
        (∀ a o, s₁.heap.get? a = some o → h'.get? a = some o) → Q (.ref D) { s₁ with heap := h', toks := tk })) E s)
    (hs : ∀ x, foldedSetIterable iter env x = pure x := by intro _; rfl) :
    wpAny (model prog w) A (eval (.ListComp elt [⟨.Name x px, iter, [], 0⟩] scope pos) env) Q E s := by
  refine wpAny_ListComp_gen one F hclos hkind hnames hC hx (wpAny_mono h (fun xv s₁ h₁ => ?_) fun _ _ e => e) hs
  obtain ⟨r, a, b, t, u, v', n, rfl, hr, hsm, hrn, hsz, hel, hQ⟩ := h₁
  have up : ∀ (h₃ : Heap) (ob : Obj), (∀ b o, b ∉ [s₁.heap.objs.size] → (s₁.heap.push ob).get? b = some o → h₃.get? b = some o) → ∀ b o, s₁.heap.get? b = some o → h₃.get? b = some o :=
    fun h₃ ob hk b o e => hk b o (fun hm => Nat.lt_irrefl _ (List.mem_singleton.mp hm ▸ Heap.lt_size e)) (Heap.get?_push_of_some _ e)
  refine wpAny_pyIter_range hr hsm ⟨s₁.heap.objs.size, [s₁.heap.objs.size], [s₁.heap.objs.size], n, _, _, rfl, Walks.range hh _ a 1 n, hsz, ?_, ?_, ?_, ?_, ?_⟩
  · show IsRangeIter _ _ _ _ _
    rw [hrn]; simpa using Heap.get?_push_size _ rfl
  · intro b hb
    show b < (s₁.heap.push _).objs.size
    rw [Heap.size_push, List.mem_singleton.mp hb]
    exact Nat.lt_succ_self _
  · intro i h st a ha
    rw [List.mem_singleton.mp ha]; exact ⟨_, st⟩
  · rintro C i v s₃ E' hC' hi ⟨tk, rfl⟩ hbd hk
    rw [Int.mul_one] at hbd ⊢
    exact hel C i tk s₃ E' (Nat.le_of_succ_le (by simpa [Heap.size_push] using hC')) hi hbd (up _ _ hk)
  · intro D h' tk ys hD hpl hys hF hk
    have hD' : s₁.heap.get? D = none := by
      cases e : s₁.heap.get? D with
      | none => rfl
      | some o' => rw [Heap.get?_push_of_some _ e] at hD; cases hD
    refine hQ D h' tk ys hD' hpl hys (fun j hj => ?_) (up _ _ hk)
    obtain ⟨v', y, xo, ⟨t', rfl⟩, a2, a3, a4⟩ := hF j hj
    rw [Int.mul_one] at a3
    exact ⟨t', y, xo, a2, a3, a4⟩

theorem compTurn_out (elt t0 i0 t1 i1 : Expr) (scope : Scope) (pos : Pos) (it acc : Value) (env : Env) :
    compTurn (.ListComp elt [⟨t0, i0, [], 0⟩, ⟨t1, i1, [], 0⟩] scope pos) 0 it acc env = (standAt i0.pos >>= fun _ => pyNext it >>= fun r => match r with
      | none => pure (.done .next)
      | some v => letOwnedTupleGo t0 it v >>= fun _ => assign t0 env v >>= fun _ =>
          eval i1 env >>= fun x => standAt i1.pos >>= fun _ => foldedSetIterable i1 env x >>= fun x => holding [x] (pyIter x) >>= fun it1 => runOwn (.compStart (.ListComp elt [⟨t0, i0, [], 0⟩, ⟨t1, i1, [], 0⟩] scope pos) 1 it1 acc env) env >>= fun _ =>
          again (.compLoop (.ListComp elt [⟨t0, i0, [], 0⟩, ⟨t1, i1, [], 0⟩] scope pos) 0 it acc env)) := by
  refine bind_congr fun _ => ?_
  refine bind_congr fun r => ?_
  cases r with
  | none => rfl
  | some v => rfl
theorem compTurn_in (elt t0 i0 t1 i1 : Expr) (scope : Scope) (pos : Pos) (it acc : Value) (env : Env) :
    compTurn (.ListComp elt [⟨t0, i0, [], 0⟩, ⟨t1, i1, [], 0⟩] scope pos) 1 it acc env = (standAt i1.pos >>= fun _ => pyNext it >>= fun r => match r with
      | none => pure (.done .next)
      | some v => letOwnedTupleGo t1 it v >>= fun _ => assign t1 env v >>= fun _ =>
          (eval elt env >>= fun y => call (.builtin "list.append") [acc, y] >>= fun _ => pure PUnit.unit) >>= fun _ =>
          again (.compLoop (.ListComp elt [⟨t0, i0, [], 0⟩, ⟨t1, i1, [], 0⟩] scope pos) 1 it acc env)) := by
  rfl
end
end Mine
end

-- part CD
section
open PySem PyProof.Rows
set_option maxRecDepth 100000
namespace Mine

section
variable {prog : Program} {w : World} {A : Around} {E : Value → Shared → Prop} {R : Result → Shared → Prop} {s : Shared} {env : Env}

theorem compLoop_in {elt t0 i0 t1 i1 : Expr} {scope : Scope} {pos : Pos} {it acc : Value} (I : Nat → Shared → Prop)
    (turn : ∀ n s, I n s → wpAny (model prog w) A (pyNext it) (fun r s₁ => match r with
      | none => R (.ok .next) s₁
      | some v => wpAny (model prog w) A (assign t1 env v) (fun _ s₂ => wpAny (model prog w) A (eval elt env) (fun x s₃ =>
          wpAny (model prog w) A (call (.builtin "list.append") [acc, x]) (fun _ s₄ => ∃ m, m < n ∧ I m s₄) (notedBy (model prog w) A env fun e s' => R (.error e) s') s₃)
          (notedBy (model prog w) A env fun e s' => R (.error e) s') s₂) (notedBy (model prog w) A env fun e s' => R (.error e) s') s₁) (notedBy (model prog w) A env fun e s' => R (.error e) s') s)
    (n : Nat) (h : I n s) (ht : ∀ v, letOwnedTupleGo t1 it v = pure () := by intro _; rfl) :
    codeAny (model prog w) A (.compLoop (.ListComp elt [⟨t0, i0, [], 0⟩, ⟨t1, i1, [], 0⟩] scope pos) 1 it acc env) R s := by
  refine codeAny_loop rfl I (fun n s hI => ?_) n h
  show wpAny _ _ ((compTurn (.ListComp elt [⟨t0, i0, [], 0⟩, ⟨t1, i1, [], 0⟩] scope pos) 1 it acc env).onRaise (fun x => do noteFrame x env; theTreesLotGoes x)) _ _ s
  refine wpAny_noted ?_
  rw [compTurn_in]
  refine wpAny_bind (wpAny_standAt (wpAny_bind (wpAny_mono (turn n s hI) (fun r s₁ h₁ => ?_) fun _ _ h' => h')))
  cases r with
  | none => exact wpAny_pure h₁
  | some v =>
    refine wpAny_bind (wpAny_of_eq (ht v) ?_)
    exact wpAny_bind (wpAny_mono h₁ (fun _ s₂ h₂ => wpAny_bind (wpAny_bind (wpAny_mono h₂ (fun x s₃ h₃ => wpAny_bind (wpAny_mono h₃
      (fun _ s₄ h₄ => wpAny_pure (wpAny_pure ⟨rfl, h₄⟩)) fun _ _ h' => h')) fun _ _ h' => h'))) fun _ _ h' => h')

theorem compLoop_out {elt t0 i0 t1 i1 : Expr} {scope : Scope} {pos : Pos} {it acc : Value} (I : Nat → Shared → Prop)
    (turn : ∀ n s, I n s → wpAny (model prog w) A (pyNext it) (fun r s₁ => match r with
      | none => R (.ok .next) s₁
      | some v => wpAny (model prog w) A (assign t0 env v) (fun _ s₂ => wpAny (model prog w) A (eval i1 env) (fun x s₃ =>
          wpAny (model prog w) A (pyIter x) (fun it1 s₄ => codeAny (model prog w) A (.compStart (.ListComp elt [⟨t0, i0, [], 0⟩, ⟨t1, i1, [], 0⟩] scope pos) 1 it1 acc env) (fun r s₅ => match r with
            | .ok _ => ∃ m, m < n ∧ I m s₅
            | .error e => cameBackBy (model prog w) A env (notedBy (model prog w) A env fun e s' => R (.error e) s') e s₅) s₄) (notedBy (model prog w) A env fun e s' => R (.error e) s') s₃)
          (notedBy (model prog w) A env fun e s' => R (.error e) s') s₂) (notedBy (model prog w) A env fun e s' => R (.error e) s') s₁) (notedBy (model prog w) A env fun e s' => R (.error e) s') s)
    (n : Nat) (h : I n s) (ht : ∀ v, letOwnedTupleGo t0 it v = pure () := by intro _; rfl) (hs : ∀ x, foldedSetIterable i1 env x = pure x := by intro _; rfl) :
    codeAny (model prog w) A (.compLoop (.ListComp elt [⟨t0, i0, [], 0⟩, ⟨t1, i1, [], 0⟩] scope pos) 0 it acc env) R s := by
  refine codeAny_loop rfl I (fun n s hI => ?_) n h
  show wpAny _ _ ((compTurn (.ListComp elt [⟨t0, i0, [], 0⟩, ⟨t1, i1, [], 0⟩] scope pos) 0 it acc env).onRaise (fun x => do noteFrame x env; theTreesLotGoes x)) _ _ s
  refine wpAny_noted ?_
  rw [compTurn_out]
  refine wpAny_bind (wpAny_standAt (wpAny_bind (wpAny_mono (turn n s hI) (fun r s₁ h₁ => ?_) fun _ _ h' => h')))
  cases r with
  | none => exact wpAny_pure h₁
  | some v =>
    refine wpAny_bind (wpAny_of_eq (ht v) ?_)
    refine wpAny_bind (wpAny_mono h₁ (fun _ s₂ h₂ => wpAny_bind (wpAny_mono h₂ (fun x s₃ h₃ => wpAny_bind (wpAny_standAt (wpAny_bind (wpAny_of_eq (hs x) (wpAny_bind (wpAny_holding (wpAny_mono h₃ (fun it1 s₄ h₄ => ?_) fun _ _ h' => h'))))))) fun _ _ h' => h')) fun _ _ h' => h')
    refine wpAny_bind (wpAny_runOwn (codeAny_mono h₄ fun r s₅ hr => ?_))
    cases r with
    | ok f => exact wpAny_pure ⟨rfl, hr⟩
    | error e => exact hr

theorem compStart_in {elt t0 i0 t1 i1 : Expr} {scope : Scope} {pos : Pos} {it acc : Value}
    (h0 : codeAny (model prog w) A (.compLoop (.ListComp elt [⟨t0, i0, [], 0⟩, ⟨t1, i1, [], 0⟩] scope pos) 1 it acc env) R s)
    (h : wpAny (model prog w) A (pyIter it) (fun it' s' => codeAny (model prog w) A (.compLoop (.ListComp elt [⟨t0, i0, [], 0⟩, ⟨t1, i1, [], 0⟩] scope pos) 1 it' acc env) R s')
      (notedBy (model prog w) A env fun x s' => R (.error x) s') s) :
    codeAny (model prog w) A (.compStart (.ListComp elt [⟨t0, i0, [], 0⟩, ⟨t1, i1, [], 0⟩] scope pos) 1 it acc env) R s := by
  refine codeAny_of_tree ?_
  show wpAny _ _ ((compStart (.ListComp elt [⟨t0, i0, [], 0⟩, ⟨t1, i1, [], 0⟩] scope pos) 1 it acc env).onRaise (fun x => do noteFrame x env; standAt theWindowsPlace)) _ _ s
  refine wpAny_notedAt ?_
  unfold compStart
  show wpAny _ _ (ask >>= _) _ _ s
  refine wpAny_bind (wpAny_askSetting (wpAny_ite ?_))
  split
  · exact wpAny_pure (And.intro rfl h0)
  · refine wpAny_bind (wpAny_rule ?_)
    show wpAny _ _ (standAt i1.pos >>= _) _ _ s
    exact wpAny_bind (wpAny_standAt (wpAny_bind (wpAny_mono h (fun it' s' h' => wpAny_pure (And.intro rfl h')) fun _ _ x => x)))
end
end Mine
end

-- part CE
section
open PySem PyProof.Rows
set_option maxRecDepth 100000
namespace Mine

section
variable {prog : Program} {w : World} {A : Around} {E : Value → Shared → Prop} {s : Shared} {env : Env}

theorem inner_loop {t0 i0 i1 : Expr} {xw : Str} {pw pe : Pos} {scope : Scope} {pos : Pos} {cenv : Env} {J D a : Addr} {vs : List Value} {ys : List Value} {m : Str → Option Value} {R : Result → Shared → Prop}
    (hh : A.handled = none) (hfn : cenv.scope.kind = .function) (hw : cenv.kindOf xw = some .local) (hd : (xw == ("__debug__" : Str)) = false)
    (hJC : J ≠ cenv.locals) (hJD : J ≠ D) (hJa : J ≠ a) (hDC : D ≠ cenv.locals) (haC : a ≠ cenv.locals) (haD : a ≠ D)
    (hit : s.heap.IsListIter J a 0) (hl : s.heap.IsList a vs.toArray) (hacc : s.heap.PlainList D ys.toArray) (hn : s.heap.Ns cenv.locals m) (hsz : ys.length + vs.length ≤ sizeLine)
    (hR : ∀ h' tk m', h'.Ns cenv.locals m' → h'.PlainList D (ys ++ vs).toArray → (∀ b o, b ≠ cenv.locals → b ≠ J → b ≠ D → s.heap.get? b = some o → h'.get? b = some o) → R (.ok .next) { s with heap := h', toks := tk }) :
    codeAny (model prog w) A (.compLoop (.ListComp (.Name xw pe) [⟨t0, i0, [], 0⟩, ⟨.Name xw pw, i1, [], 0⟩] scope pos) 1 (.ref J) (.ref D) cenv) R s := by
  refine compLoop_in (fun k s' => ∃ h' tk m' j, s' = { s with heap := h', toks := tk } ∧ h'.IsListIter J a j ∧ h'.IsList a vs.toArray ∧ h'.PlainList D (ys ++ vs.take j).toArray ∧ h'.Ns cenv.locals m' ∧ j ≤ vs.length ∧ k = vs.length + 1 - j ∧
    ∀ b o, b ≠ cenv.locals → b ≠ J → b ≠ D → s.heap.get? b = some o → h'.get? b = some o) ?_ (vs.length + 1)
    ⟨s.heap, s.toks, m, 0, rfl, hit, hl, by simpa using hacc, hn, Nat.zero_le _, rfl, fun _ _ _ _ _ e => e⟩
  rintro k s' ⟨H, tk, m', j, rfl, hit', hl', hacc', hn', hj, rfl, hk⟩
  cases hv : vs.toArray[j]? with
  | none =>
    have hle : vs.length ≤ j := by simpa using hv
    refine wpAny_pyNext_list_end hh hit' hl' hv fun h₁ he₁ => ?_
    rw [List.take_of_length_le hle] at hacc'
    exact hR h₁ tk m' (hn'.extBut he₁ (Ne.symm hJC)) (hacc'.extBut he₁ (Ne.symm hJD)) fun b o h1 h2 h3 e => he₁ b o h2 (hk b o h1 h2 h3 e)
  | some v =>
    have hlt : j < vs.length := by simpa using (Array.getElem?_eq_some_iff.mp hv).1
    have hvl : vs[j]? = some v := by simpa using hv
    refine wpAny_pyNext_list_item hit' hl' hv fun h₁ hit₁ hs₁ => ?_
    refine wpAny_assign_Name (wpAny_storeName_local hw (hn'.sameBut hs₁ (Ne.symm hJC)) (fun h₂ hn₂ hs₂ => ?_) (by rw [hfn]; rfl))
    refine wpAny_Name (wpAny_loadName_local (v := v) hfn hw hn₂ (by simp) ?_) hd
    have hl₂ : h₂.IsList a vs.toArray := (hl'.extBut hs₁.extBut (Ne.symm hJa)).extBut hs₂.extBut haC
    have hacc₂ : h₂.PlainList D (ys ++ vs.take j).toArray := (hacc'.extBut hs₁.extBut (Ne.symm hJD)).extBut hs₂.extBut hDC
    refine wpAny_list_append_plain (hsz := by simp; lia) hacc₂ fun h₅ hl₅ hs₅ => ?_
    refine ⟨vs.length + 1 - (j + 1), by lia, h₅, _, _, j + 1, rfl, ?_, hl₂.extBut hs₅.extBut haD, ?_, hn₂.sameBut hs₅ (Ne.symm hDC), hlt, rfl, fun b o h1 h2 h3 e => hs₅.extBut b o h3 (hs₂.extBut b o h1 (hs₁.extBut b o h2 (hk b o h1 h2 h3 e)))⟩
    · exact (hit₁.extBut hs₂.extBut hJC).extBut hs₅.extBut hJD
    · rw [List.take_add_one, hvl]
      simpa using hl₅

/-- [w for l in rows for w in l] -/
theorem comp_flat {iter : Expr} {xl xw : Str} {pl pw pe pi : Pos} {scope : Scope} {cl : List (Str × Addr)} {pos : Pos} {Q : Value → Shared → Prop}
    (hh : A.handled = none) (hclos : closureFor scope env = pure cl) (hkind : scope.kind = .function) (hnames : ∀ y ∈ scope.names, y.2 = .local → scope.names.lookup y.1 = some .local)
    (hC : ∀ n cl h, cellsFrom n scope.names cl = cl ∧ pushCells h scope.names = h)
    (hxl : (relabel scope env).names.lookup xl = some .local) (hxw : (relabel scope env).names.lookup xw = some .local) (hdl : (xl == ("__debug__" : Str)) = false) (hdw : (xw == ("__debug__" : Str)) = false)
    (h : wpAny (model prog w) A (eval iter env) (fun xv s₁ => ∃ (ax : Addr) (as : List Addr) (vss : List (List Value)), xv = .ref ax ∧ s₁.heap.IsList ax (List.map Value.ref as).toArray ∧ as.length = vss.length ∧ (∀ (i : Nat) a vs, as[i]? = some a → vss[i]? = some vs → s₁.heap.IsList a (List.toArray vs)) ∧
      vss.flatten.length ≤ sizeLine ∧ (∀ D h' tk, s₁.heap.get? D = none → h'.PlainList D vss.flatten.toArray → (∀ b o, s₁.heap.get? b = some o → h'.get? b = some o) → Q (.ref D) { s₁ with heap := h', toks := tk })) E s)
    (hs : ∀ x, foldedSetIterable iter env x = pure x := by intro _; rfl) :
    wpAny (model prog w) A (eval (.ListComp (.Name xw pe) [⟨.Name xl pl, iter, [], 0⟩, ⟨.Name xw pw, .Name xl pi, [], 0⟩] scope pos) env) Q E s := by
  rw [eval_ListComp]
  refine wpAny_comprehension_free (use := none) rfl hs hclos hkind hnames (wpAny_mono h (fun xv s₁ h₁ => ?_) fun _ _ e => e)
  obtain ⟨ax, as, vss, rfl, hl, hlen, hrows, hsz, hQ⟩ := h₁
  refine wpAny_pyIter_list hl (wpAny_newObj_type (hd := by size_fits) (wpAny_newEnvG ?_))
  dsimp only
  rw [(hC _ _ s₁.heap).1, (hC 0 cl _).2]
  generalize hH1 : s₁.heap.push { cls := .type "list_iterator", data := .fields #[.ref ax, .int 0 0] } = H1
  have hD : H1.objs.size = s₁.heap.objs.size + 1 := by rw [← hH1, Heap.size_push]
  generalize hH2 : H1.push { cls := .type "list", dict := none, data := .seq ([] : List Value).toArray } = H2
  have hCs : H2.objs.size = s₁.heap.objs.size + 2 := by rw [← hH2, Heap.size_push, hD]
  generalize hH3 : H2.push { cls := .type "dict", data := .dict #[] } = H3
  have below : ∀ b o, s₁.heap.get? b = some o → b ≠ H2.objs.size ∧ b ≠ s₁.heap.objs.size ∧ b ≠ H1.objs.size := fun b o e => by
    have hb := Heap.lt_size e
    exact ⟨by rw [hCs]; exact Nat.ne_of_lt (Nat.lt_succ_of_lt (Nat.lt_succ_of_lt hb)), Nat.ne_of_lt hb, by rw [hD]; exact Nat.ne_of_lt (Nat.lt_succ_of_lt hb)⟩
  have old : ∀ b o, s₁.heap.get? b = some o → H3.get? b = some o := fun b o e => hH3 ▸ Heap.get?_push_of_some _ (hH2 ▸ Heap.get?_push_of_some _ (hH1 ▸ Heap.get?_push_of_some _ e))
  have hit : H3.IsListIter s₁.heap.objs.size ax 0 := ⟨_, hH3 ▸ Heap.get?_push_of_some _ (hH2 ▸ Heap.get?_push_of_some _ (hH1 ▸ Heap.get?_push_size _ rfl)), rfl, rfl⟩
  have hacc : H3.PlainList H1.objs.size #[] := ⟨0, hH3 ▸ Heap.get?_push_of_some _ (hH2 ▸ Heap.get?_push_size _ rfl)⟩
  have hns : H3.Ns H2.objs.size (fun _ => none) := hH3 ▸ Heap.Ns.new H2 (.type "dict")
  have hDI : H1.objs.size ≠ s₁.heap.objs.size := by rw [hD]; exact Nat.succ_ne_self _
  have hDC : H1.objs.size ≠ H2.objs.size := by rw [hD, hCs]; exact Nat.ne_of_lt (Nat.lt_succ_self _)
  have hIC : s₁.heap.objs.size ≠ H2.objs.size := by rw [hCs]; exact Nat.ne_of_lt (Nat.lt_succ_of_lt (Nat.lt_succ_self _))
  have lists : ∀ {h' : Heap} {a : Addr} {its : Array Value}, s₁.heap.IsList a its → (∀ b o, s₁.heap.get? b = some o → h'.get? b = some o) → h'.IsList a its := fun x k => x.at fun o e => k _ o e
  have hnew : s₁.heap.get? H1.objs.size = none := by
    cases e : s₁.heap.get? H1.objs.size with
    | none => rfl
    | some o' => have := Heap.lt_size e; rw [hD] at this; exact absurd this (Nat.not_lt.mpr (Nat.le_succ _))
  generalize hce : (compEnvC scope cl H2.objs.size env) = cenv
  have hcl : cenv.locals = H2.objs.size := by rw [← hce]; rfl
  have hcf : cenv.scope.kind = .function := by rw [← hce]; simp [compEnvC, relabel, hkind]
  have hkl : cenv.kindOf xl = some .local := by rw [← hce]; exact hxl
  have hkw : cenv.kindOf xw = some .local := by rw [← hce]; exact hxw
  have loop : codeAny (model prog w) A (.compLoop (.ListComp (.Name xw pe) [⟨.Name xl pl, iter, [], 0⟩, ⟨.Name xw pw, .Name xl pi, [], 0⟩] scope pos) 0 (.ref s₁.heap.objs.size) (.ref H1.objs.size) cenv)
      (compPost (model prog w) A E none Q (.ref H1.objs.size) H2.objs.size) { s₁ with heap := H3, toks := s₁.toks } := by
    refine compLoop_out (fun k s' => ∃ h' tk m' i, s' = { s₁ with heap := h', toks := tk } ∧ h'.IsListIter s₁.heap.objs.size ax i ∧ h'.PlainList H1.objs.size (vss.take i).flatten.toArray ∧ h'.Ns cenv.locals m' ∧ i ≤ as.length ∧ k = as.length + 1 - i ∧
      ∀ b o, s₁.heap.get? b = some o → h'.get? b = some o) ?_ (as.length + 1) ⟨H3, s₁.toks, _, 0, rfl, hit, by simpa using hacc, hcl ▸ hns, Nat.zero_le _, rfl, old⟩
    rintro k s' ⟨H, tk, m', i, rfl, hit', hacc', hn', hi, rfl, hk⟩
    have hl' := lists hl hk
    cases hv : (List.map Value.ref as).toArray[i]? with
    | none =>
      have hle : as.length ≤ i := by simpa using hv
      refine wpAny_pyNext_list_end hh hit' hl' hv fun h₁ he₁ => ?_
      rw [List.take_of_length_le (by lia)] at hacc'
      have hacc₁ := hacc'.extBut he₁ hDI
      refine ⟨m', hcl ▸ hn'.extBut he₁ (by rw [hcl]; exact Ne.symm hIC), fun h'' hs'' => ?_⟩
      exact hQ _ h'' tk hnew (hacc₁.extBut hs''.extBut hDC) fun b o e => hs''.extBut b o (below b o e).1 (he₁ b o (below b o e).2.1 (hk b o e))
    | some v =>
      have hlt : i < as.length := by simpa using (Array.getElem?_eq_some_iff.mp hv).1
      obtain ⟨a, ha⟩ : ∃ a, as[i]? = some a := ⟨as[i], by simp [hlt]⟩
      obtain ⟨vs, hvs⟩ : ∃ vs, vss[i]? = some vs := ⟨vss[i]'(by lia), by simp [show i < vss.length by lia]⟩
      have hva : v = .ref a := by
        have : (List.map Value.ref as)[i]? = some v := by simpa using hv
        rw [List.getElem?_map, ha] at this
        exact (Option.some.inj this).symm
      subst hva
      have hrow := hrows i a vs ha hvs
      obtain ⟨oa, hoa, _⟩ := id hrow
      obtain ⟨na1, na2, na3⟩ := below a oa hoa
      refine wpAny_pyNext_list_item hit' hl' hv fun h₁ hit₁ hs₁ => ?_
      refine wpAny_assign_Name (wpAny_storeName_local hkl (hn'.sameBut hs₁ (by rw [hcl]; exact Ne.symm hIC)) (fun h₂ hn₂ hs₂ => ?_) (by rw [hcf]; rfl))
      refine wpAny_Name (wpAny_loadName_local (v := .ref a) hcf hkl hn₂ (by simp) ?_) hdl
      have k₂ : ∀ b o, s₁.heap.get? b = some o → h₂.get? b = some o := fun b o e => hs₂.extBut b o (by rw [hcl]; exact (below b o e).1) (hs₁.extBut b o (below b o e).2.1 (hk b o e))
      have hrow₂ := lists hrow k₂
      refine wpAny_pyIter_list hrow₂ ?_
      dsimp only
      generalize hH4 : h₂.push { cls := .type "list_iterator", data := .fields #[.ref a, .int 0 0] } = H4
      have up₄ : ∀ b o, h₂.get? b = some o → H4.get? b = some o := fun b o e => hH4 ▸ Heap.get?_push_of_some _ e
      have ne₄ : ∀ b o, h₂.get? b = some o → h₂.objs.size ≠ b := fun b o e => Nat.ne_of_gt (Heap.lt_size e)
      have hacc₂ : h₂.PlainList H1.objs.size (vss.take i).flatten.toArray := (hacc'.extBut hs₁.extBut hDI).extBut hs₂.extBut (by rw [hcl]; exact hDC)
      have hit₂ : h₂.IsListIter s₁.heap.objs.size ax (i + 1) := hit₁.extBut hs₂.extBut (by rw [hcl]; exact hIC)
      obtain ⟨nD, eD⟩ := id hacc₂
      obtain ⟨oI, eI, _⟩ := id hit₂
      obtain ⟨oC, _, _, eC, _⟩ := id hn₂
      obtain ⟨oa2, eA, _⟩ := id hrow₂
      have hitJ : H4.IsListIter h₂.objs.size a 0 := ⟨_, hH4 ▸ Heap.get?_push_size _ rfl, rfl, rfl⟩
      have hsz2 : (vss.take i).flatten.length + vs.length ≤ sizeLine := by
        have e1 : vss.take (i + 1) = vss.take i ++ [vs] := by rw [List.take_add_one, hvs]; rfl
        have e2 : (vss.take (i + 1)).flatten.length ≤ vss.flatten.length := by
          conv => rhs; rw [← List.take_append_drop (i + 1) vss, List.flatten_append, List.length_append]
          exact Nat.le_add_right _ _
        rw [e1, List.flatten_append, List.length_append] at e2
        simp only [List.flatten_cons, List.flatten_nil, List.append_nil] at e2
        lia
      have inner : codeAny (model prog w) A (.compLoop (.ListComp (.Name xw pe) [⟨.Name xl pl, iter, [], 0⟩, ⟨.Name xw pw, .Name xl pi, [], 0⟩] scope pos) 1 (.ref h₂.objs.size) (.ref H1.objs.size) cenv)
          (fun r s₅ => match r with
            | .ok _ => ∃ m, m < as.length + 1 - i ∧ ∃ h' tk m' i, s₅ = { s₁ with heap := h', toks := tk } ∧ h'.IsListIter s₁.heap.objs.size ax i ∧ h'.PlainList H1.objs.size (vss.take i).flatten.toArray ∧ h'.Ns cenv.locals m' ∧ i ≤ as.length ∧ m = as.length + 1 - i ∧ ∀ b o, s₁.heap.get? b = some o → h'.get? b = some o
            | .error e => cameBackBy (model prog w) A cenv (notedBy (model prog w) A cenv fun e s' => compPost (model prog w) A E none Q (.ref H1.objs.size) H2.objs.size (.error e) s') e s₅) { s₁ with heap := H4, toks := tk + 1 } := by
        refine inner_loop hh hcf hkw hdw (ne₄ _ _ eC) (ne₄ _ _ eD) (ne₄ _ _ eA) (by rw [hcl]; exact hDC) (by rw [hcl]; exact na1) na3 hitJ (hrow₂.at fun o e => up₄ _ o e) (hacc₂.at fun o e => up₄ _ o e) (hn₂.keeps up₄) hsz2 fun h' tk' m'' hn'' hpl'' hk'' => ?_
        refine ⟨as.length + 1 - (i + 1), by lia, h', tk', m'', i + 1, rfl, ?_, ?_, hn'', hlt, rfl, fun b o e => hk'' b o (by rw [hcl]; exact (below b o e).1) (Ne.symm (ne₄ _ _ (k₂ b o e))) (below b o e).2.2 (up₄ b o (k₂ b o e))⟩
        · exact hit₂.at fun o e => hk'' _ o (by rw [hcl]; exact hIC) (Ne.symm (ne₄ _ _ e)) (Ne.symm hDI) (up₄ _ o e)
        · have e1 : vss.take (i + 1) = vss.take i ++ [vs] := by rw [List.take_add_one, hvs]; rfl
          rw [e1, List.flatten_append]
          simpa using hpl''
      exact compStart_in (codeAny_mono inner fun r s' hr => by cases r <;> exact hr) (wpAny_pyIter_listiter hitJ (codeAny_mono inner fun r s' hr => by cases r <;> exact hr))
  have hloop := codeAny_compStart_list loop (wpAny_pyIter_listiter hit loop)
  rw [← hce] at hloop
  exact hloop
end
end Mine
end

-- part CF
section
open PySem PyProof.Rows
set_option maxRecDepth 100000
namespace Mine
section
variable {prog : Program} {w : World} {A : Around} {E : Value → Shared → Prop} {s : Shared} {env : Env}

theorem comp_core {elt iter : Expr} {x : Str} {px : Pos} {scope : Scope} {cl : List (Str × Addr)} {pos : Pos} {Q : Value → Shared → Prop} {use : Option (Value → Sem Unit)} (one : Bool) (F : Nat → Value → Value → Option Obj → Prop) {s₂ : Shared} {I : Addr} {fp wr : List Addr} {n : Nat} {P : Nat → Value → Prop} {St : Nat → Heap → Prop}
    (hkind : scope.kind = .function) 
    (hC : ∀ n cl h, cellsFrom n scope.names cl = (if one then (x, n) :: cl else cl) ∧ pushCells h scope.names = if one then h.push cellO else h)
    (hx : (relabel scope env).names.lookup x = some (if one then .cell else .local))
    (W : Walks prog w A I fp wr n P St) (hsz : n ≤ sizeLine) (hst : St 0 s₂.heap) (hfp : ∀ b ∈ fp, b < s₂.heap.objs.size) (hwr : ∀ i h, St i h → ∀ a ∈ wr, ∃ o, h.get? a = some o)
    (hel : ∀ C i v s₃ E', s₂.heap.objs.size ≤ C → i < n → P i v → Bd C x (bk1 one C) s₃.heap v → (∀ a o, a ∉ wr → s₂.heap.get? a = some o → s₃.heap.get? a = some o) →
        wpAny (model prog w) A (eval elt (compEnvC scope (cl1 one x C cl) C env)) (fun y s₄ => (∃ xo, F i v y xo ∧ ∀ o, xo = some o → ∃ T, y = .ref T ∧ s₃.heap.get? T = none ∧ s₄.heap.get? T = some o) ∧ Keeps s₃ s₄) E' s₃)
    (hfin : ∀ D C h' tk m' (ys : Array Value), s₂.heap.get? D = none → s₂.heap.get? C = none → D ≠ C → h'.Ns C m' → h'.PlainList D ys → ys.size = n →
        (∀ j, j < n → ∃ v y xo, P j v ∧ ys[j]? = some y ∧ F j v y xo ∧ EltB h' (fun a => a = C ∨ a = D) y xo) →
        (∀ a o, a ∉ wr → s₂.heap.get? a = some o → h'.get? a = some o) → compPost (model prog w) A E use Q (.ref D) C (.ok .next) { s₂ with heap := h', toks := tk }) :
    wpAny (model prog w) A (newList []) (fun acc s₃ => wpAny (model prog w) A (newFunctionEnv scope env.globals cl [] env.qual none .none (some env)) (fun cenv s₄ =>
      codeAny (model prog w) A (.compStart (.ListComp elt [⟨.Name x px, iter, [], 0⟩] scope pos) 0 (.ref I) acc { cenv with scope := relabel scope env }) (compPost (model prog w) A E use Q acc cenv.locals) s₄) E s₃) E s₂ := by
  refine wpAny_newObj_type (wpAny_newEnvG ?_)
  dsimp only
  generalize hH : s₂.heap.push { cls := .type "list", dict := none, data := .seq ([] : List Value).toArray } = H
  have hHs : H.objs.size = s₂.heap.objs.size + 1 := by rw [← hH, Heap.size_push]
  have e1 : cellsFrom (H.objs.size + 1) scope.names cl = cl1 one x H.objs.size cl := (hC _ _ H).1
  have e2 : ∀ h, pushCells h scope.names = if one then h.push cellO else h := fun h => (hC 0 cl h).2
  rw [e1, e2]
  generalize hH1 : (if one then (H.push { cls := .type "dict", data := .dict #[] }).push cellO else H.push { cls := .type "dict", data := .dict #[] }) = H1
  have old : ∀ a o, H.get? a = some o → H1.get? a = some o := fun a o e => by
    rw [← hH1]
    cases one with
    | true => exact Heap.get?_push_of_some _ (Heap.get?_push_of_some _ e)
    | false => exact Heap.get?_push_of_some _ e
  have old2 : ∀ a o, s₂.heap.get? a = some o → H1.get? a = some o := fun a o e => old a o (hH ▸ Heap.get?_push_of_some _ e)
  have hDplain : H1.PlainList s₂.heap.objs.size #[] := ⟨0, old _ _ (hH ▸ Heap.get?_push_size _ rfl)⟩
  have hns : ∃ m, H1.Ns H.objs.size m := by
    have hn0 : (H.push { cls := .type "dict", data := .dict #[] }).Ns H.objs.size (fun _ => none) := Heap.Ns.new H (.type "dict")
    refine ⟨fun _ => none, ?_⟩
    rw [← hH1]
    cases one with
    | true => exact hn0.keeps fun a o e => Heap.get?_push_of_some _ e
    | false => exact hn0
  obtain ⟨m, hns⟩ := hns
  have hcell : BdAny (bk1 one H.objs.size) H1 := by
    rw [← hH1]
    cases one with
    | true =>
      refine ⟨none, cellO, ?_, rfl⟩
      have : (H.push { cls := .type "dict", data := .dict #[] }).objs.size = H.objs.size + 1 := Heap.size_push ..
      show Heap.get? ((H.push { cls := .type "dict", data := .dict #[] }).push cellO) (H.objs.size + 1) = _
      rw [← this]
      exact Heap.get?_push_size _ rfl
    | false => trivial
  have hDC : s₂.heap.objs.size ≠ H.objs.size := by rw [hHs]; exact Nat.ne_of_lt (Nat.lt_succ_self _)
  have hDf : s₂.heap.objs.size ∉ fp := fun hm => Nat.lt_irrefl _ (hfp _ hm)
  have hCf : H.objs.size ∉ fp := fun hm => by have := hfp _ hm; rw [hHs] at this; exact Nat.lt_irrefl _ (Nat.lt_of_succ_lt this)
  have hc1f : H.objs.size + 1 ∉ fp := fun hm => by have := hfp _ hm; rw [hHs] at this; exact absurd this (Nat.not_lt.mpr (Nat.le_add_right _ 2))
  have fresh : ∀ a, s₂.heap.objs.size ≤ a → s₂.heap.get? a = none := fun a ha => by
    cases e : s₂.heap.get? a with
    | none => rfl
    | some o' => exact absurd (Heap.lt_size e) (Nat.not_lt.mpr ha)
  have hst₁ : St 0 H1 := W.frame _ _ _ hst fun a _ o e => old2 a o e
  have hbc : ∀ c, (bk1 one H.objs.size).addr = some c → c = H.objs.size + 1 := fun c hc => by
    cases one with
    | true => exact (Option.some.inj hc).symm
    | false => cases hc
  have below : ∀ a o, s₂.heap.get? a = some o → a ≠ H.objs.size ∧ a ≠ s₂.heap.objs.size ∧ (bk1 one H.objs.size).addr ≠ some a := fun a o e => by
    have hlt := Heap.lt_size e
    refine ⟨fun q => ?_, Nat.ne_of_lt hlt, fun q => ?_⟩
    · rw [q, hHs] at hlt; exact Nat.lt_irrefl _ (Nat.lt_of_succ_lt hlt)
    · rw [hbc a q, hHs] at hlt; exact absurd hlt (Nat.not_lt.mpr (Nat.le_add_right _ 2))
  have loop : codeAny (model prog w) A (.compLoop (.ListComp elt [⟨.Name x px, iter, [], 0⟩] scope pos) 0 (.ref I) (.ref s₂.heap.objs.size) (compEnvC scope (cl1 one x H.objs.size cl) H.objs.size env))
      (compPost (model prog w) A E use Q (.ref s₂.heap.objs.size) H.objs.size) { s₂ with heap := H1, toks := s₂.toks } := by
    refine compLoop_gen (cenv := compEnvC scope (cl1 one x H.objs.size cl) H.objs.size env) (b := bk1 one H.objs.size) W F (by simp [compEnvC, relabel, hkind]) ?_ (fun c hc => ?_) hDC hDf hCf hwr hst₁ hDplain hns hcell (fun i v s₃ hi hP hbd hk => ?_) (fun h' tk m' ys hn hpl hys hF hk => ?_) hsz
    · cases one with
      | true =>
        refine ⟨hx, ?_, Nat.ne_of_gt (Nat.lt_succ_self _)⟩
        show List.lookup x ((x, H.objs.size + 1) :: cl) = _
        rw [List.lookup_cons]; simp
      | false => exact hx
    · rw [hbc c hc]
      exact ⟨hc1f, fun q => by rw [hHs] at q; exact absurd q (Nat.ne_of_gt (Nat.lt_succ_of_lt (Nat.lt_succ_self _)))⟩
    · exact hel _ i v s₃ _ (by rw [hHs]; exact Nat.le_succ _) hi hP hbd fun a o ha e => hk a o (below a o e).1 ha (below a o e).2.1 (below a o e).2.2 (old2 a o e)
    · refine hfin _ _ h' tk m' ys (fresh _ (Nat.le_refl _)) (fresh _ (by rw [hHs]; exact Nat.le_succ _)) hDC hn hpl hys (fun j hj => ?_) fun a o ha e => hk a o (below a o e).1 ha (below a o e).2.1 (below a o e).2.2 (old2 a o e)
      obtain ⟨v, y, xo, a1, a2, a3, a4⟩ := hF j hj
      refine ⟨v, y, xo, a1, a2, a3, ?_⟩
      cases xo with
      | none => trivial
      | some o =>
        obtain ⟨T, b1, b2, b3⟩ := a4
        exact ⟨T, b1, b2, fun q => b3 (q.elim .inl fun q => .inr (.inr (.inl q)))⟩
  exact codeAny_compStart_list loop (W.self 0 _ _ _ hst₁ loop)

/-- y = [elt for x in iter], stored in the frame -/
theorem asg_list {elt iter : Expr} {x y : Str} {px py : Pos} {scope : Scope} {cl : List (Str × Addr)} {pos spos : Pos} {Q : Flow → Shared → Prop} (one : Bool) (F : Nat → Value → Value → Option Obj → Prop)
    (hsw : swapsWith (.ListComp elt [⟨.Name x px, iter, [], 0⟩] scope pos) (some (.Name y py)) spos.line env = pure true)
    (hh : A.handled = none) (hclos : closureFor scope env = pure cl) (hkind : scope.kind = .function) (hnames : ∀ y ∈ scope.names, y.2 = .local → scope.names.lookup y.1 = some .local)
    (hC : ∀ n cl h, cellsFrom n scope.names cl = (if one then (x, n) :: cl else cl) ∧ pushCells h scope.names = if one then h.push cellO else h)
    (hx : (relabel scope env).names.lookup x = some (if one then .cell else .local))
    (hy : env.kindOf y = some .local) (hp : (env.scope.kind == .class || (env.scope.kind == .module && env.locals != env.globals)) = false)
    (h : wpAny (model prog w) A (eval iter env) (fun xv s₁ => ∃ ax items m, xv = .ref ax ∧ s₁.heap.IsList ax items ∧ items.size ≤ sizeLine ∧ s₁.heap.Ns env.locals m ∧
      (∀ C i v s₃ E', s₁.heap.objs.size ≤ C → items[i]? = some v → Bd C x (bk1 one C) s₃.heap v → (∀ a o, s₁.heap.get? a = some o → s₃.heap.get? a = some o) →
        wpAny (model prog w) A (eval elt (compEnvC scope (cl1 one x C cl) C env)) (fun y s₄ => (∃ xo, F i v y xo ∧ ∀ o, xo = some o → ∃ T, y = .ref T ∧ s₃.heap.get? T = none ∧ s₄.heap.get? T = some o) ∧ Keeps s₃ s₄) E' s₃) ∧
      (∀ D h1 h' tk (ys : Array Value), s₁.heap.get? D = none → h1.PlainList D ys → ys.size = items.size →
        (∀ j v, items[j]? = some v → ∃ y xo, ys[j]? = some y ∧ F j v y xo ∧ EltB h1 (fun a => a = D) y xo) →
        (∀ a o, s₁.heap.get? a = some o → h1.get? a = some o) → h'.Ns env.locals (fun z => if z = y then some (.ref D) else m z) → (∀ a o, a ≠ env.locals → (∃ o', s₁.heap.get? a = some o') ∨ a = D → h1.get? a = some o → h'.get? a = some o) →
        Q .next { s₁ with heap := h', toks := tk })) E s)
    (hs : ∀ x, foldedSetIterable iter env x = pure x := by intro _; rfl) :
    wpAny (model prog w) A (exec (.Assign [.Name y py] (.ListComp elt [⟨.Name x px, iter, [], 0⟩] scope pos) spos) env) Q E s := by
  rw [exec_Assign_Name_used _ _ _ _ hsw]
  refine wpAny_bind (wpAny_standAt (wpAny_bind ?_))
  show wpAny _ A (do let _ ← comprehension (.ListComp elt [⟨.Name x px, iter, [], 0⟩] scope pos) scope env _ (newList []) false (eval iter env) (some (assign (.Name y py) env))) _ _ s
  refine wpAny_bind (wpAny_mono (wpAny_comprehension_free (use := some (assign (.Name y py) env)) (Q := fun _ s' => Q .next s') rfl hs hclos hkind hnames
    (wpAny_mono h (fun xv s₁ h₁ => ?_) fun _ _ e => e)) (fun _ s' hq => wpAny_pure (wpAny_pure hq)) fun _ _ e => e)
  obtain ⟨ax, items, m, rfl, hl, hsz, hn, hel, hQ⟩ := h₁
  have hlt : ax < s₁.heap.objs.size := by obtain ⟨_, e, _⟩ := hl; exact Heap.lt_size e
  have up : ∀ (h₃ : Heap), (∀ b o, b ∉ [s₁.heap.objs.size] → (s₁.heap.push { cls := .type "list_iterator", data := .fields #[.ref ax, .int 0 0] }).get? b = some o → h₃.get? b = some o) → ∀ b o, s₁.heap.get? b = some o → h₃.get? b = some o :=
    fun h₃ hk b o e => hk b o (fun hm => Nat.lt_irrefl _ (List.mem_singleton.mp hm ▸ Heap.lt_size e)) (Heap.get?_push_of_some _ e)
  refine wpAny_pyIter_list hl ?_
  refine comp_core (pos := pos) (use := some (assign (.Name y py) env)) (Q := fun _ s' => Q .next s') one F hkind hC hx (Walks.list hh s₁.heap.objs.size ax (Nat.ne_of_lt hlt) items) hsz ⟨⟨_, Heap.get?_push_size _ rfl, rfl, rfl⟩, hl.push _⟩ ?_ ?_ ?_ ?_
  · intro b hb
    show b < (s₁.heap.push _).objs.size
    rw [Heap.size_push]
    rcases List.mem_cons.mp hb with rfl | hb
    · exact Nat.lt_succ_self _
    · rw [List.mem_singleton.mp hb]; exact Nat.lt_succ_of_lt hlt
  · rintro i h ⟨⟨o, ho, _⟩, _⟩ a ha
    rw [List.mem_singleton.mp ha]; exact ⟨o, ho⟩
  · intro C i v s₃ E' hC' hi hP hbd hk
    exact hel C i v s₃ E' (Nat.le_of_succ_le (by simpa [Heap.size_push] using hC')) hP hbd (up _ hk)
  · intro D C h1 tk m' ys hD hC hDC hnC hpl hys hF hk
    have noneOf : ∀ a, (s₁.heap.push { cls := .type "list_iterator", data := .fields #[.ref ax, .int 0 0] }).get? a = none → s₁.heap.get? a = none := fun a ha => by
      cases e : s₁.heap.get? a with
      | none => rfl
      | some o' => rw [Heap.get?_push_of_some _ e] at ha; cases ha
    have hD' := noneOf D hD
    have hC' := noneOf C hC
    have hLC : env.locals ≠ C := by rintro rfl; obtain ⟨o, _, _, ho, _⟩ := hn; rw [hC'] at ho; cases ho
    have hLD : env.locals ≠ D := by rintro rfl; obtain ⟨o, _, _, ho, _⟩ := hn; rw [hD'] at ho; cases ho
    show wpAny _ A (assign (.Name y py) env (.ref D)) _ _ _
    refine wpAny_assign_Name (wpAny_storeName_local hy (hn.at' fun o e => up _ hk _ o e) (fun h₂ hn₂ hs₂ => ?_) hp)
    refine ⟨m', hnC.sameBut hs₂ (Ne.symm hLC), fun h₃ hs₃ => ?_⟩
    refine hQ D h1 h₃ _ ys hD' hpl hys (fun j v hj => ?_) (up _ hk) (hn₂.sameBut hs₃ hLC) fun a o ha hao e => hs₃.extBut a o ?_ (hs₂.extBut a o ha e)
    · have hjl : j < items.size := (Array.getElem?_eq_some_iff.mp hj).1
      obtain ⟨v', y', xo, a1, a2, a3, a4⟩ := hF j hjl
      rw [hj] at a1; cases a1
      refine ⟨y', xo, a2, a3, ?_⟩
      cases xo with
      | none => trivial
      | some o => obtain ⟨T, b1, b2, b3⟩ := a4; exact ⟨T, b1, b2, fun q => b3 (.inr q)⟩
    · rintro rfl
      rcases hao with ⟨o', e'⟩ | rfl
      · rw [hC'] at e'; cases e'
      · exact hDC rfl
end
end Mine
end

-- part DA
section
open PySem PySem.W PyProof.Rows
set_option maxRecDepth 100000
namespace Mine
def divParts : Option (List Stmt × Scope) := match PySem.Challenge.pw_af0001_01.main.body with
  | _ :: _ :: .FunctionDef _ _ body _ _ _ scope _ _ _ :: _ => some (body, scope)
  | _ => none
def divBody : List Stmt := match divParts with | some p => p.1 | none => []
def divScope : Scope := match divParts with | some p => p.2 | none => { kind := .function, names := [], isGenerator := false, isCoroutine := false, more := [] }
abbrev dEnv (L f : Addr) (cd : Value) : Env := envOfC "divisor" divScope L f cd

/-- a name of the interpreter's own -/
def GBx (h : Heap) (x : Str) (v : Value) : Prop := ∃ mg mb, h.Ns mainGlobals mg ∧ h.Ns builtinsNs mb ∧ mg x = none ∧ mb x = some v
structure GB (h : Heap) : Prop where
  len : GBx h "len" (.builtin "len")
  sum : GBx h "sum" (.builtin "sum")
  sorted : GBx h "sorted" (.builtin "sorted")
  range : GBx h "range" (.type "range")
  int : GBx h "int" (.type "int")
theorem GBx.at {h h' : Heap} {x : Str} {v : Value} (G : GBx h x v) (k1 : ∀ o, h.get? mainGlobals = some o → h'.get? mainGlobals = some o) (k2 : ∀ o, h.get? builtinsNs = some o → h'.get? builtinsNs = some o) : GBx h' x v :=
  let ⟨mg, mb, a, b, c⟩ := G; ⟨mg, mb, a.at' k1, b.at' k2, c⟩
theorem GB.at {h h' : Heap} (G : GB h) (k1 : ∀ o, h.get? mainGlobals = some o → h'.get? mainGlobals = some o) (k2 : ∀ o, h.get? builtinsNs = some o → h'.get? builtinsNs = some o) : GB h' :=
  ⟨G.len.at k1 k2, G.sum.at k1 k2, G.sorted.at k1 k2, G.range.at k1 k2, G.int.at k1 k2⟩

def isSeq (o : Obj) : Prop := ∃ vs n, o.data = .seq vs n
/-- lists and tuples stand -/
def SK (h h' : Heap) : Prop := ∀ b o, h.get? b = some o → isSeq o → h'.get? b = some o
theorem SK.refl (h : Heap) : SK h h := fun _ _ e _ => e
theorem SK.trans {a b c : Heap} (x : SK a b) (y : SK b c) : SK a c := fun p o e q => y p o (x p o e q) q
theorem SK.grow {h h' : Heap} (k : ∀ b o, h.get? b = some o → h'.get? b = some o) : SK h h' := fun b o e _ => k b o e
theorem SK.ns {h h' : Heap} {a : Addr} {m : Str → Option Value} (hn : h.Ns a m) (hs : Heap.SameBut a h h') : SK h h' := fun b o e q => by
  refine (hs.2 b fun ea => ?_).trans e
  obtain ⟨o', es, ep, ho, hd, _⟩ := hn
  rw [ea, ho] at e
  obtain ⟨vs, n, q⟩ := q
  rw [← Option.some.inj e, hd] at q
  cases q
theorem SK.cell {h h' : Heap} {a : Addr} {v : Option Value} (hc : h.IsCell a v) (hs : Heap.SameBut a h h') : SK h h' := fun b o e q => by
  refine (hs.2 b fun ea => ?_).trans e
  obtain ⟨o', ho, hd⟩ := hc
  rw [ea, ho] at e
  obtain ⟨vs, n, q⟩ := q
  rw [← Option.some.inj e, hd] at q
  cases q
theorem SK.list {h h' : Heap} (k : SK h h') {a : Addr} {its : Array Value} (x : h.IsList a its) : h'.IsList a its := by
  obtain ⟨o, ho, hc, n, hd⟩ := x
  exact ⟨o, k a o ho ⟨_, _, hd⟩, hc, n, hd⟩
theorem SK.plain {h h' : Heap} (k : SK h h') {a : Addr} {its : Array Value} (x : h.PlainList a its) : h'.PlainList a its := by
  obtain ⟨n, ho⟩ := x
  exact ⟨n, k a _ ho ⟨_, _, rfl⟩⟩
theorem SK.tup {h h' : Heap} (k : SK h h') {a : Addr} {its : Array Value} (x : IsTup h a its) : IsTup h' a its := by
  obtain ⟨o, ho, hc, n, hd⟩ := x
  exact ⟨o, k a o ho ⟨_, _, hd⟩, hc, n, hd⟩

/-- a list of ints; of pairs of ints; of lists of ints -/
def ILst (h : Heap) (D : Addr) (ns : List Int) : Prop := ∃ vs, h.PlainList D (List.toArray vs) ∧ IntsAre vs ns
theorem ILst.lst {h : Heap} {D : Addr} {ns : List Int} (x : ILst h D ns) : ∃ vs, h.IsList D (List.toArray vs) ∧ IntsAre vs ns := let ⟨vs, a, b⟩ := x; ⟨vs, a.isList, b⟩
def PLst (h : Heap) (D : Addr) (ps : List (Int × Int)) : Prop := ∃ refs : List Value, h.IsList D refs.toArray ∧ refs.length = ps.length ∧ ∀ (j : Nat) (p : Int × Int), ps[j]? = some p → ∃ (T : Addr) (t u : Tok), refs[j]? = some (Value.ref T) ∧ IsTup h T [Value.int p.1 t, Value.int p.2 u].toArray
def RLst (h : Heap) (W : Addr) (rows : List (List Int)) : Prop := ∃ as : List Addr, h.IsList W (as.map Value.ref).toArray ∧ as.length = rows.length ∧ ∀ (j : Nat) a row, as[j]? = some a → rows[j]? = some row → ILst h a row
theorem ILst.keep {h h' : Heap} {D : Addr} {ns : List Int} (x : ILst h D ns) (k : SK h h') : ILst h' D ns := let ⟨vs, a, b⟩ := x; ⟨vs, k.plain a, b⟩
theorem PLst.keep {h h' : Heap} {D : Addr} {ps : List (Int × Int)} (x : PLst h D ps) (k : SK h h') : PLst h' D ps := let ⟨r, a, b, c⟩ := x; ⟨r, k.list a, b, fun j p e => let ⟨T, t, u, q1, q2⟩ := c j p e; ⟨T, t, u, q1, k.tup q2⟩⟩
theorem RLst.keep {h h' : Heap} {W : Addr} {rows : List (List Int)} (x : RLst h W rows) (k : SK h h') : RLst h' W rows := let ⟨as, a, b, c⟩ := x; ⟨as, k.list a, b, fun j a row e1 e2 => (c j a row e1 e2).keep k⟩

/-- divisor's frame -/
structure Fm (h₁ : Heap) (L : Addr) (m : Str → Option Value) (vR vD vC vW vM : Option Value) (h : Heap) : Prop where
  ns : h.Ns L m
  r : h.IsCell (L + 1) vR
  d : h.IsCell (L + 1 + 1) vD
  c : h.IsCell (L + 1 + 1 + 1) vC
  w : h.IsCell (L + 1 + 1 + 1 + 1) vW
  mw : h.IsCell (L + 1 + 1 + 1 + 1 + 1) vM
  kp : ∀ b o, b < L → h₁.get? b = some o → h.get? b = some o
section
variable {h₁ h h' : Heap} {L : Addr} {m m' : Str → Option Value} {vR vD vC vW vM : Option Value} {v : Option Value}
theorem Fm.grow (F : Fm h₁ L m vR vD vC vW vM h) (k : ∀ b o, h.get? b = some o → h'.get? b = some o) : Fm h₁ L m vR vD vC vW vM h' :=
  ⟨F.ns.keeps k, F.r.keeps k, F.d.keeps k, F.c.keeps k, F.w.keeps k, F.mw.keeps k, fun b o l e => k b o (F.kp b o l e)⟩
theorem Fm.stL (F : Fm h₁ L m vR vD vC vW vM h) (hn : h'.Ns L m') (hs : Heap.SameBut L h h') : Fm h₁ L m' vR vD vC vW vM h' :=
  ⟨hn, F.r.sameBut hs (PySem.W.neN (by lia)), F.d.sameBut hs (PySem.W.neN (by lia)), F.c.sameBut hs (PySem.W.neN (by lia)), F.w.sameBut hs (PySem.W.neN (by lia)), F.mw.sameBut hs (PySem.W.neN (by lia)), fun b o l e => hs.extBut b o (Nat.ne_of_lt l) (F.kp b o l e)⟩
theorem Fm.stR (F : Fm h₁ L m vR vD vC vW vM h) (hn : h'.IsCell (L + 1) v) (hs : Heap.SameBut (L + 1) h h') : Fm h₁ L m v vD vC vW vM h' :=
  ⟨F.ns.sameBut hs (PySem.W.neN (by lia)), hn, F.d.sameBut hs (PySem.W.neN (by lia)), F.c.sameBut hs (PySem.W.neN (by lia)), F.w.sameBut hs (PySem.W.neN (by lia)), F.mw.sameBut hs (PySem.W.neN (by lia)), fun b o l e => hs.extBut b o (fun q => by subst q; exact absurd (PySem.W.ltN l) (by lia)) (F.kp b o l e)⟩
theorem Fm.stD (F : Fm h₁ L m vR vD vC vW vM h) (hn : h'.IsCell (L + 1 + 1) v) (hs : Heap.SameBut (L + 1 + 1) h h') : Fm h₁ L m vR v vC vW vM h' :=
  ⟨F.ns.sameBut hs (PySem.W.neN (by lia)), F.r.sameBut hs (PySem.W.neN (by lia)), hn, F.c.sameBut hs (PySem.W.neN (by lia)), F.w.sameBut hs (PySem.W.neN (by lia)), F.mw.sameBut hs (PySem.W.neN (by lia)), fun b o l e => hs.extBut b o (fun q => by subst q; exact absurd (PySem.W.ltN l) (by lia)) (F.kp b o l e)⟩
theorem Fm.stC (F : Fm h₁ L m vR vD vC vW vM h) (hn : h'.IsCell (L + 1 + 1 + 1) v) (hs : Heap.SameBut (L + 1 + 1 + 1) h h') : Fm h₁ L m vR vD v vW vM h' :=
  ⟨F.ns.sameBut hs (PySem.W.neN (by lia)), F.r.sameBut hs (PySem.W.neN (by lia)), F.d.sameBut hs (PySem.W.neN (by lia)), hn, F.w.sameBut hs (PySem.W.neN (by lia)), F.mw.sameBut hs (PySem.W.neN (by lia)), fun b o l e => hs.extBut b o (fun q => by subst q; exact absurd (PySem.W.ltN l) (by lia)) (F.kp b o l e)⟩
theorem Fm.stW (F : Fm h₁ L m vR vD vC vW vM h) (hn : h'.IsCell (L + 1 + 1 + 1 + 1) v) (hs : Heap.SameBut (L + 1 + 1 + 1 + 1) h h') : Fm h₁ L m vR vD vC v vM h' :=
  ⟨F.ns.sameBut hs (PySem.W.neN (by lia)), F.r.sameBut hs (PySem.W.neN (by lia)), F.d.sameBut hs (PySem.W.neN (by lia)), F.c.sameBut hs (PySem.W.neN (by lia)), hn, F.mw.sameBut hs (PySem.W.neN (by lia)), fun b o l e => hs.extBut b o (fun q => by subst q; exact absurd (PySem.W.ltN l) (by lia)) (F.kp b o l e)⟩
theorem Fm.stM (F : Fm h₁ L m vR vD vC vW vM h) (hn : h'.IsCell (L + 1 + 1 + 1 + 1 + 1) v) (hs : Heap.SameBut (L + 1 + 1 + 1 + 1 + 1) h h') : Fm h₁ L m vR vD vC vW v h' :=
  ⟨F.ns.sameBut hs (PySem.W.neN (by lia)), F.r.sameBut hs (PySem.W.neN (by lia)), F.d.sameBut hs (PySem.W.neN (by lia)), F.c.sameBut hs (PySem.W.neN (by lia)), F.w.sameBut hs (PySem.W.neN (by lia)), hn, fun b o l e => hs.extBut b o (fun q => by subst q; exact absurd (PySem.W.ltN l) (by lia)) (F.kp b o l e)⟩
end
end Mine
end

-- part DB
section
open PySem PySem.W PyProof.Rows
set_option maxRecDepth 100000
namespace Mine

section
variable {M : Model} {A : Around} {E : Value → Shared → Prop} {s : Shared} {env : Env}
structure EnvOk (env : Env) : Prop where
  fn : env.scope.kind = .function
  gl : env.globals = mainGlobals
  bi : env.builtins = builtinsNs
theorem nm_glob {x : Str} {pos : Pos} {v : Value} {Q : Value → Shared → Prop} (G : GBx s.heap x v) (O : EnvOk env) (hx : env.kindOf x = some .globalImplicit) (h : Q v s) (hd : (x == ("__debug__" : Str)) = false := by decide) :
    wpAny M A (eval (.Name x pos) env) Q E s := by
  obtain ⟨mg, mb, a, b, c, d⟩ := G
  exact Calls.Name_function_global O.fn hx (Calls.loadGlobal_builtin (by rw [O.gl]; exact a) c (by rw [O.bi]; exact b) d h) hd
theorem callB1 {x : Str} {id : String} {e : Expr} {p pos : Pos} {Q : Value → Shared → Prop} (G : GBx s.heap x (.builtin id)) (O : EnvOk env) (hx : env.kindOf x = some .globalImplicit)
    (h : wpAny M A (eval e env) (fun v s₁ => wpAny M A (call (.builtin id) [v]) Q E s₁) E s)
    (he : starEach [e] env = (false, eval e env) :: starEach [] env := by rfl) (hd : (x == ("__debug__" : Str)) = false := by decide) :
    wpAny M A (eval (.Call (.Name x p) [e] [] pos) env) Q E s :=
  wpAny_Call_NameR (nm_glob G O hx (PyProof.Rows.callWith_builtin1 (spliced_more (wpAny_mono h (fun _ _ h₁ => spliced_none h₁) fun _ _ q => q) he) he rfl) hd)
theorem callT1 {x : Str} {T : String} {e : Expr} {p pos : Pos} {Q : Value → Shared → Prop} (G : GBx s.heap x (.type T)) (O : EnvOk env) (hx : env.kindOf x = some .globalImplicit)
    (h : wpAny M A (eval e env) (fun v s₁ => wpAny M A (call (.type T) [v]) Q E s₁) E s)
    (he : starEach [e] env = (false, eval e env) :: starEach [] env := by rfl) (hd : (x == ("__debug__" : Str)) = false := by decide) :
    wpAny M A (eval (.Call (.Name x p) [e] [] pos) env) Q E s :=
  wpAny_Call_NameR (nm_glob G O hx (PyProof.Rows.callWith_type1 (spliced_more (wpAny_mono h (fun _ _ h₁ => spliced_none h₁) fun _ _ q => q) he) he rfl) hd)
theorem callT2 {x : Str} {T : String} {e f : Expr} {p pos : Pos} {Q : Value → Shared → Prop} (G : GBx s.heap x (.type T)) (O : EnvOk env) (hx : env.kindOf x = some .globalImplicit)
    (h : wpAny M A (eval e env) (fun v s₁ => wpAny M A (eval f env) (fun u s₂ => wpAny M A (call (.type T) [v, u]) Q E s₂) E s₁) E s)
    (he : starEach [e, f] env = (false, eval e env) :: starEach [f] env := by rfl) (hf : starEach [f] env = (false, eval f env) :: starEach [] env := by rfl)
    (hp : ∀ pos, (backTo pos (starEach [f] env)).any (·.1) = false := by intro _; rfl) (hd : (x == ("__debug__" : Str)) = false := by decide) :
    wpAny M A (eval (.Call (.Name x p) [e, f] [] pos) env) Q E s :=
  wpAny_Call_NameR (nm_glob G O hx (PyProof.Rows.callWith_type1 (spliced_more (wpAny_mono h (fun _ _ h₁ => spliced_more (wpAny_mono h₁ (fun _ _ h₂ => spliced_none h₂) fun _ _ q => q) hf) fun _ _ q => q) he) he (hp pos)) hd)
end

section
variable {prog : Program} {w : World} {A : Around} {E : Value → Shared → Prop} {s : Shared} {env : Env}
theorem sum_base {l : Addr} {ns : List Int} {Q : Value → Shared → Prop} (hh : A.handled = none) (hl : ILst s.heap l ns)
    (h : ∀ h' tk t', (∀ b o, s.heap.get? b = some o → h'.get? b = some o) → Q (.int ns.sum t') { s with heap := h', toks := tk }) :
    wpAny (model prog w) A (call (.builtin "sum") [.ref l]) Q E s := by
  obtain ⟨vs, hl, hi⟩ := hl.lst
  obtain ⟨xs, e⟩ := hi.allInts.items
  have hn := hi.numsOf
  rw [e] at hl
  refine sum_intListG hh hl fun h' tk t' hk => ?_
  have e2 : preSum (numAt xs) xs.size = ns.sum := by
    rw [preSum_eq, List.take_of_length_le (by simp), ← nums_intItems, ← e, show vs.toArray.toList = vs from rfl, hn]
  rw [e2]
  exact h h' tk t' hk
theorem len_base {l : Addr} {ns : List Int} {Q : Value → Shared → Prop} (hl : ILst s.heap l ns) (hn : (ns.length : Int) < 2 ^ 63) (h : Q (.int ns.length (s.toks + 1)) { s with toks := s.toks + 1 + 1 }) :
    wpAny (model prog w) A (call (.builtin "len") [.ref l]) Q E s := by
  obtain ⟨vs, hl, hi⟩ := hl.lst
  have e : vs.toArray.size = ns.length := by rw [List.size_toArray]; exact hi.length
  exact Calls.call_len_list hl (by rw [e]; exact hn) (by rw [e]; exact h)

/-- [x] * n -/
theorem mul_base {l : Addr} {items : Array Value} {k : Nat} {x : Int} {u : Tok} {Q : Value → Shared → Prop}
    (hl : s.heap.get? l = some { cls := .type "list", dict := none, data := .seq items k, slots := #[] })
    (hlo : 0 ≤ x) (hhi : x < 2 ^ 62) (hsz : items.size * x.toNat ≤ 2 ^ 24)
    (h : Q (.ref s.heap.objs.size) { s with heap := s.heap.push { cls := .type "list", data := .seq (List.replicate x.toNat items.toList).flatten.toArray } }) :
    wpAny (model prog w) A (binaryOp .Mult (.ref l) (.int x u)) Q E s := by
  rw [← listMul_foldl_if] at h
  exact wpAny_binaryOp_repeat_ref (T := "list") (U := "int") (by decide) ⟨_, hl, rfl⟩ (fun s' => typeIs_int s' x u) noFill_list_mul F.fills_int_mul F.slot_int_rmul repeat_list F.slot_int_index.lookup
    (call_meets F.slot_int_rmul (typeIs_int s x u) F.entry_int_rmul (F.args_int_rmul_2 _ _) (int___rmul___int_list x u l items k)
      ⟨hl, rfl, ⟨_, hl, rfl⟩, call_meets F.slot_list_mul ⟨_, hl, rfl⟩ F.entry_list_mul (F.args_list_mul_2 _ _)
        (AutoListH.list___mul___list_int_3 l items k x u (by simp [Builtin.List.listFitsIndex]; lia) (by lia) (by simp [Builtin.List.listTooLong, sizeLine]; lia))
        ⟨hl, h⟩⟩)
end
end Mine
end

-- part DC
section
open PySem PySem.W PyProof.Rows
set_option maxRecDepth 100000
namespace Mine

structure Base (h₁ : Heap) (L : Addr) : Prop where
  gb : GB h₁
  lg : mainGlobals < L
  lb : builtinsNs < L
theorem Fm.gb {h₁ h : Heap} {L : Addr} {m : Str → Option Value} {vR vD vC vW vM : Option Value} (F : Fm h₁ L m vR vD vC vW vM h) (B : Base h₁ L) : GB h :=
  B.gb.at (fun o e => F.kp _ o B.lg e) fun o e => F.kp _ o B.lb e
theorem dEnv_ok (L f : Addr) (cd : Value) : EnvOk (dEnv L f cd) := ⟨rfl, rfl, rfl⟩

section
variable {prog : Program} {w : World} {A : Around} {E : Value → Shared → Prop} {s : Shared} {h₁ : Heap} {L f : Addr} {cd : Value} {m : Str → Option Value} {vR vD vC vW vM : Option Value}

theorem nmL {x : Str} {pos : Pos} {v : Value} {Q : Value → Shared → Prop} (F : Fm h₁ L m vR vD vC vW vM s.heap) (hv : m x = some v) (h : Q v s) (hx : (dEnv L f cd).kindOf x = some .local := by rfl) (hd : (x == ("__debug__" : Str)) = false := by decide) :
    wpAny (model prog w) A (eval (.Name x pos) (dEnv L f cd)) Q E s := wpAny_Name (wpAny_loadName_local rfl hx F.ns hv h) hd
theorem nmC {x : Str} {pos : Pos} {c : Addr} {v : Value} {Q : Value → Shared → Prop} (hv : s.heap.IsCell c (some v)) (h : Q v s) (hx : (dEnv L f cd).kindOf x = some .cell := by rfl) (hc : (dEnv L f cd).cells.lookup x = some c := by rfl) (hd : (x == ("__debug__" : Str)) = false := by decide) :
    wpAny (model prog w) A (eval (.Name x pos) (dEnv L f cd)) Q E s := wpAny_Name (wpAny_loadName_cell rfl hx hc hv h) hd

abbrev put (m : Str → Option Value) (x : Str) (v : Value) : Str → Option Value := fun y => if y = x then some v else m y

theorem asgL {x : Str} {px pos : Pos} {e : Expr} {Q : Flow → Shared → Prop}
    (h : wpAny (model prog w) A (eval e (dEnv L f cd)) (fun v s₁ => ∃ h₁ m vR vD vC vW vM, Fm h₁ L m vR vD vC vW vM s₁.heap ∧ ∀ h' tk, Fm h₁ L (put m x v) vR vD vC vW vM h' → SK s₁.heap h' → Q .next { s₁ with heap := h', toks := tk }) E s)
    (hx : (dEnv L f cd).kindOf x = some .local := by rfl) (hsw : swapsWith e (some (.Name x px)) pos.line (dEnv L f cd) = pure false := by rfl) :
    wpAny (model prog w) A (exec (.Assign [.Name x px] e pos) (dEnv L f cd)) Q E s := by
  refine wpAny_Assign_Name (wpAny_mono h (fun v s₁ h₁ => ?_) fun _ _ q => q) hsw
  obtain ⟨_, _, _, _, _, _, _, F, k⟩ := h₁
  exact wpAny_storeName_local hx F.ns (fun h' hn hs => k h' _ (F.stL hn hs) (SK.ns F.ns hs)) rfl
theorem asgR {px pos : Pos} {e : Expr} {Q : Flow → Shared → Prop}
    (h : wpAny (model prog w) A (eval e (dEnv L f cd)) (fun v s₁ => ∃ h₁ m vR vD vC vW vM, Fm h₁ L m vR vD vC vW vM s₁.heap ∧ ∀ h' tk, Fm h₁ L m (some v) vD vC vW vM h' → SK s₁.heap h' → Q .next { s₁ with heap := h', toks := tk }) E s)
    (hsw : swapsWith e (some (.Name "representatives" px)) pos.line (dEnv L f cd) = pure false := by rfl) :
    wpAny (model prog w) A (exec (.Assign [.Name "representatives" px] e pos) (dEnv L f cd)) Q E s := by
  refine wpAny_Assign_Name (wpAny_mono h (fun v s₁ h₁ => ?_) fun _ _ q => q) hsw
  obtain ⟨_, _, _, _, _, _, _, F, k⟩ := h₁
  exact wpAny_storeName_cell rfl rfl rfl F.r fun h' hn hs => k h' _ (F.stR hn hs) (SK.cell F.r hs)
theorem asgD {px pos : Pos} {e : Expr} {Q : Flow → Shared → Prop}
    (h : wpAny (model prog w) A (eval e (dEnv L f cd)) (fun v s₁ => ∃ h₁ m vR vD vC vW vM, Fm h₁ L m vR vD vC vW vM s₁.heap ∧ ∀ h' tk, Fm h₁ L m vR (some v) vC vW vM h' → SK s₁.heap h' → Q .next { s₁ with heap := h', toks := tk }) E s)
    (hsw : swapsWith e (some (.Name "divisors" px)) pos.line (dEnv L f cd) = pure false := by rfl) :
    wpAny (model prog w) A (exec (.Assign [.Name "divisors" px] e pos) (dEnv L f cd)) Q E s := by
  refine wpAny_Assign_Name (wpAny_mono h (fun v s₁ h₁ => ?_) fun _ _ q => q) hsw
  obtain ⟨_, _, _, _, _, _, _, F, k⟩ := h₁
  exact wpAny_storeName_cell rfl rfl rfl F.d fun h' hn hs => k h' _ (F.stD hn hs) (SK.cell F.d hs)
theorem asgC {px pos : Pos} {e : Expr} {Q : Flow → Shared → Prop}
    (h : wpAny (model prog w) A (eval e (dEnv L f cd)) (fun v s₁ => ∃ h₁ m vR vD vC vW vM, Fm h₁ L m vR vD vC vW vM s₁.heap ∧ ∀ h' tk, Fm h₁ L m vR vD (some v) vW vM h' → SK s₁.heap h' → Heap.SameBut (L + 1 + 1 + 1) s₁.heap h' → Q .next { s₁ with heap := h', toks := tk }) E s)
    (hsw : swapsWith e (some (.Name "common" px)) pos.line (dEnv L f cd) = pure false := by rfl) :
    wpAny (model prog w) A (exec (.Assign [.Name "common" px] e pos) (dEnv L f cd)) Q E s := by
  refine wpAny_Assign_Name (wpAny_mono h (fun v s₁ h₁ => ?_) fun _ _ q => q) hsw
  obtain ⟨_, _, _, _, _, _, _, F, k⟩ := h₁
  exact wpAny_storeName_cell rfl rfl rfl F.c fun h' hn hs => k h' _ (F.stC hn hs) (SK.cell F.c hs) hs
theorem asgW {px pos : Pos} {e : Expr} {Q : Flow → Shared → Prop}
    (h : wpAny (model prog w) A (eval e (dEnv L f cd)) (fun v s₁ => ∃ h₁ m vR vD vC vW vM, Fm h₁ L m vR vD vC vW vM s₁.heap ∧ ∀ h' tk, Fm h₁ L m vR vD vC (some v) vM h' → SK s₁.heap h' → Q .next { s₁ with heap := h', toks := tk }) E s)
    (hsw : swapsWith e (some (.Name "weights" px)) pos.line (dEnv L f cd) = pure false := by rfl) :
    wpAny (model prog w) A (exec (.Assign [.Name "weights" px] e pos) (dEnv L f cd)) Q E s := by
  refine wpAny_Assign_Name (wpAny_mono h (fun v s₁ h₁ => ?_) fun _ _ q => q) hsw
  obtain ⟨_, _, _, _, _, _, _, F, k⟩ := h₁
  exact wpAny_storeName_cell rfl rfl rfl F.w fun h' hn hs => k h' _ (F.stW hn hs) (SK.cell F.w hs)
theorem asgM {px pos : Pos} {e : Expr} {Q : Flow → Shared → Prop}
    (h : wpAny (model prog w) A (eval e (dEnv L f cd)) (fun v s₁ => ∃ h₁ m vR vD vC vW vM, Fm h₁ L m vR vD vC vW vM s₁.heap ∧ ∀ h' tk, Fm h₁ L m vR vD vC vW (some v) h' → SK s₁.heap h' → Q .next { s₁ with heap := h', toks := tk }) E s)
    (hsw : swapsWith e (some (.Name "minweight" px)) pos.line (dEnv L f cd) = pure false := by rfl) :
    wpAny (model prog w) A (exec (.Assign [.Name "minweight" px] e pos) (dEnv L f cd)) Q E s := by
  refine wpAny_Assign_Name (wpAny_mono h (fun v s₁ h₁ => ?_) fun _ _ q => q) hsw
  obtain ⟨_, _, _, _, _, _, _, F, k⟩ := h₁
  exact wpAny_storeName_cell rfl rfl rfl F.mw fun h' hn hs => k h' _ (F.stM hn hs) (SK.cell F.mw hs)

theorem ints_replicate (t : Tok) : ∀ n : Nat, IntsAre (List.replicate n [Value.int 0 t]).flatten (List.replicate n 0)
  | 0 => by simp; exact .nil
  | n + 1 => by
    rw [List.replicate_succ, List.flatten_cons, List.replicate_succ]
    exact .cons 0 t (ints_replicate t n)

/-- no object of old -/
def NewOf (h₁ : Heap) (L D : Addr) : Prop := ∀ b o, b < L → h₁.get? b = some o → b ≠ D
theorem Fm.newOf {h : Heap} {D : Addr} (F : Fm h₁ L m vR vD vC vW vM h) (hD : h.get? D = none) : NewOf h₁ L D := fun b o l e q => by
  subst q; have := F.kp _ o l e; rw [hD] at this; cases this
theorem get_size0 (h : Heap) : h.get? h.objs.size = none := by
  cases e : h.get? h.objs.size with
  | none => rfl
  | some o => exact absurd (Heap.lt_size e) (Nat.lt_irrefl _)

/-- representatives = [0] * len(votes) -/
theorem st_zeros {p1 p2 p3 p4 p5 p6 p7 p8 : Pos} {k : Nat} {l : Addr} {ns : List Int} {Q : Flow → Shared → Prop} (F : Fm h₁ L m vR vD vC vW vM s.heap) (B : Base h₁ L) (hv : m "votes" = some (.ref l)) (hl : ILst s.heap l ns) (hn : ns.length ≤ 3)
    (h : ∀ h' tk D, Fm h₁ L m (some (.ref D)) vD vC vW vM h' → SK s.heap h' → ILst h' D (List.replicate ns.length 0) → NewOf h₁ L D → Q .next { s with heap := h', toks := tk }) :
    wpAny (model prog w) A (exec (.Assign [.Name "representatives" p1] (.BinOp (.List [.Constant (.int 0) k p2] p3) .Mult (.Call (.Name "len" p4) [.Name "votes" p5] [] p6) p7) p8) (dEnv L f cd)) Q E s := by
  refine asgR (wpAny_BinOp (List_ (spliced_more (wpAny_Constant_int (spliced_none (wpAny_newList ?_ (by size_fits)))))))
  have k1 : ∀ b o, s.heap.get? b = some o → (s.heap.push { cls := .type "list", data := .seq [Value.int 0 s.toks].toArray }).get? b = some o := fun b o e => Heap.get?_push_of_some _ e
  have F1 := F.grow k1
  refine callB1 (F1.gb B).len (dEnv_ok L f cd) rfl (nmL F1 hv (len_base (hl.keep (SK.grow k1)) (by lia) ?_))
  refine mul_base (Heap.get?_push_size _ rfl) (by lia) (by lia) (by simp; lia) ?_
  refine ⟨_, _, _, _, _, _, _, F1.grow fun b o e => Heap.get?_push_of_some _ e, fun h' tk F' K' => ?_⟩
  refine h h' tk _ F' ((SK.grow k1).trans ((SK.grow fun b o e => Heap.get?_push_of_some _ e).trans K')) ?_ (F1.newOf (get_size0 _))
  refine ILst.keep ⟨_, ⟨_, Heap.get?_push_size _ rfl⟩, ?_⟩ K'
  simpa using ints_replicate s.toks ns.length
end
end Mine
end

-- part DD
section
open PySem PySem.W PyProof.Rows
set_option maxRecDepth 100000
namespace Mine

theorem get_size (h : Heap) : h.get? h.objs.size = none := by
  cases e : h.get? h.objs.size with
  | none => rfl
  | some o => exact absurd (Heap.lt_size e) (Nat.lt_irrefl _)

theorem mk_new {s₃ : Shared} {F : Nat → Value → Value → Option Obj → Prop} {i : Nat} {v : Value} {o : Obj} {tk : Nat} (hF : F i v (.ref s₃.heap.objs.size) (some o)) (hf : o.isFreed = false := by rfl) :
    (∃ xo, F i v (.ref s₃.heap.objs.size) xo ∧ ∀ o', xo = some o' → ∃ T, (Value.ref s₃.heap.objs.size) = .ref T ∧ s₃.heap.get? T = none ∧ (s₃.heap.push o).get? T = some o') ∧ Keeps s₃ { s₃ with heap := s₃.heap.push o, toks := tk } :=
  ⟨⟨some o, hF, fun o' e => ⟨_, rfl, get_size _, by cases e; exact Heap.get?_push_size _ hf⟩⟩, _, _, rfl, fun b o' e => Heap.get?_push_of_some _ e⟩
theorem mk_val {s₃ : Shared} {F : Nat → Value → Value → Option Obj → Prop} {i : Nat} {v y : Value} {h' : Heap} {tk : Nat} (hF : F i v y none) (k : ∀ b o, s₃.heap.get? b = some o → h'.get? b = some o) :
    (∃ xo, F i v y xo ∧ ∀ o', xo = some o' → ∃ T, y = .ref T ∧ s₃.heap.get? T = none ∧ h'.get? T = some o') ∧ Keeps s₃ { s₃ with heap := h', toks := tk } :=
  ⟨⟨none, hF, fun o' e => by cases e⟩, _, _, rfl, k⟩

structure ScI (sc : Scope) : Prop where
  kd : sc.kind = .function
  nm : sc.names = [(Str.ofString ".0", .local), (Str.ofString "i", .local)]
theorem ScI.clos {sc : Scope} (h : ScI sc) (env : Env) : closureFor sc env = pure [] := by unfold closureFor; rw [h.nm]; rfl
theorem ScI.names {sc : Scope} (h : ScI sc) : ∀ y ∈ sc.names, y.2 = .local → sc.names.lookup y.1 = some .local := by rw [h.nm]; decide
theorem ScI.cells {sc : Scope} (h : ScI sc) (x : Str) : ∀ n cl (hp : Heap), cellsFrom n sc.names cl = (if false = true then (x, n) :: cl else cl) ∧ pushCells hp sc.names = if false = true then hp.push cellO else hp := by rw [h.nm]; exact fun _ _ _ => ⟨rfl, rfl⟩
theorem ScI.at {sc : Scope} (h : ScI sc) (env : Env) : (relabel sc env).names.lookup (Str.ofString "i") = some NameKind.local := by
  have e : (relabel sc env).names = sc.names.map _ := rfl
  rw [e, h.nm]; rfl

def pairO (a b : Int) (t u : Tok) : Obj := { cls := .type "tuple", data := .seq [Value.int a t, Value.int b u].toArray }
def isPair (g : Nat → Int × Int) (i : Nat) (_ : Value) (_ : Value) (xo : Option Obj) : Prop := ∃ t u, xo = some (pairO (g i).1 (g i).2 t u)

theorem plst_of {h : Heap} {D : Addr} {ys : Array Value} {n : Nat} {g : Nat → Int × Int} {P : Nat → Value → Prop} (hpl : h.PlainList D ys) (hys : ys.size = n)
    (hF : ∀ j : Nat, j < n → ∃ v y xo, P j v ∧ ys[j]? = some y ∧ isPair g j v y xo ∧ EltB h (fun a => a = D) y xo) : PLst h D ((List.range n).map g) := by
  refine ⟨ys.toList, by rw [Array.toArray_toList]; exact hpl.isList, by simp [hys], fun j p hp => ?_⟩
  have hj : j < n := by
    by_cases hj : j < n
    · exact hj
    · rw [List.getElem?_eq_none (by simp; lia)] at hp; cases hp
  obtain ⟨v, y, xo, _, a2, ⟨t, u, rfl⟩, T, rfl, b2, _⟩ := hF j hj
  have e : p = g j := by
    rw [List.getElem?_map, List.getElem?_range hj] at hp
    exact (Option.some.inj hp).symm
  subst e
  exact ⟨T, t, u, by simpa using a2, ⟨_, b2, rfl, _, rfl⟩⟩

section
variable {prog : Program} {w : World} {A : Around} {E : Value → Shared → Prop} {s : Shared} {h₁ : Heap} {L f : Addr} {cd : Value} {m : Str → Option Value} {vR vD vC vW vM : Option Value}

theorem nmI {sc : Scope} {env : Env} {C : Addr} {cl : List (Str × Addr)} {pos : Pos} {v : Value} {Q : Value → Shared → Prop} (H : ScI sc) (hb : Bd C "i" .loc s.heap v) (h : Q v s) :
    wpAny (model prog w) A (eval (.Name "i" pos) (compEnvC sc cl C env)) Q E s := by
  obtain ⟨m, hn, hm⟩ := hb
  exact wpAny_Name (wpAny_loadName_local (by simp [compEnvC, relabel, H.kd]) (H.at env) hn hm h) (by decide)

theorem range_small {n : Int} (h0 : 0 ≤ n) (h1 : n ≤ 100) : Builtin.Range.small 0 n 1 = true := small_one (by lia) (by lia) (by lia) (by lia)
theorem range_size {n : Nat} : Builtin.Range.rangeSize 0 (n : Int) 1 = (n : Int) := by rw [rangeSize_one]; split <;> lia

/-- [(i + 1, 1) for i in range(seats)] -/
theorem ev_divsJ {sc : Scope} {q1 q2 q3 q4 q5 q6 q7 q8 q9 q10 : Pos} {k1 k2 k3 : Nat} {n : Nat} {tn : Tok} {Q : Value → Shared → Prop} (H : ScI sc) (hh : A.handled = none) (F : Fm h₁ L m vR vD vC vW vM s.heap) (B : Base h₁ L) (hs : m "seats" = some (.int n tn)) (hn : n ≤ 40)
    (h : ∀ h' tk D, (∀ b o, s.heap.get? b = some o → h'.get? b = some o) → PLst h' D ((List.range n).map fun i : Nat => ((i : Int) + 1, (1 : Int))) → Q (.ref D) { s with heap := h', toks := tk }) :
    wpAny (model prog w) A (eval (.ListComp (.Tuple [.BinOp (.Name "i" q1) .Add (.Constant (.int 1) k1 q2) q3, .Constant (.int 1) k2 q4] k3 q5) [⟨.Name "i" q6, .Call (.Name "range" q7) [.Name "seats" q8] [] q9, [], 0⟩] sc q10) (dEnv L f cd)) Q E s := by
  refine comp_range false (isPair fun i : Nat => ((i : Int) + 1, (1 : Int))) hh (H.clos _) H.kd H.names (H.cells _) (H.at _) ?_
  refine callT1 (F.gb B).range (dEnv_ok L f cd) rfl (nmL F hs (call_range_1 ?_))
  refine ⟨_, 0, n, _, _, _, n, rfl, IsRange.new .., range_small (by lia) (by lia), range_size, by rw [sizeLine_eq]; lia, fun C i tk s₃ E' hC hi hb hk => ?_, fun D h' tk ys hD hpl hys hF hk => ?_⟩
  · refine Tuple_ (spliced_more (wpAny_BinOp (nmI H hb (wpAny_Constant_int (P.add_int (spliced_more (wpAny_Constant_int (spliced_none (wpAny_newTuple ?_ (by size_fits))))))))))
    rw [Int.zero_add]
    exact mk_new (s₃ := s₃) ⟨_, _, rfl⟩
  · refine h h' tk D (fun b o e => hk b o (Heap.get?_push_of_some _ e)) (plst_of (P := fun _ _ => True) hpl hys fun j hj => ?_)
    obtain ⟨t, y, xo, a, b, c⟩ := hF j hj
    exact ⟨_, y, xo, trivial, a, b, c⟩
end
end Mine
end

-- part DE
section
open PySem PySem.W PyProof.Rows
set_option maxRecDepth 100000
namespace Mine
section
variable {prog : Program} {w : World} {A : Around} {E : Value → Shared → Prop} {s : Shared} {h₁ : Heap} {L f : Addr} {cd : Value} {m : Str → Option Value} {vR vD vC vW vM : Option Value}

theorem add_base {l b : Addr} {vs ws : List Value} {Q : Value → Shared → Prop} (hl : s.heap.IsList l vs.toArray) (hb : s.heap.IsList b ws.toArray) (hsz : vs.length + ws.length ≤ sizeLine)
    (h : Q (.ref s.heap.objs.size) { s with heap := s.heap.push { cls := .type "list", data := .seq (vs ++ ws).toArray } }) :
    wpAny (model prog w) A (binaryOp .Add (.ref l) (.ref b)) Q E s := by
  obtain ⟨⟨cls, dd, data, sl⟩, ho, hc, n, hd⟩ := id hl
  obtain ⟨⟨cls2, dd2, data2, sl2⟩, ho2, hc2, n2, hd2⟩ := id hb
  simp only at hc hd hc2 hd2
  subst hc hd hc2 hd2
  have e : (vs ++ ws).toArray = vs.toArray ++ ws.toArray := by simp
  rw [e] at h
  exact concat_meets ⟨_, ho, rfl⟩ ⟨_, ho2, rfl⟩ noFill_list_add seq_list_add PySem.F.slot_list_add PySem.F.entry_list_add (PySem.F.args_list_add_2 _ _) (list_addW l b vs.toArray ws.toArray n n2 dd dd2 sl sl2 (by simpa using hsz)) ⟨ho, ho2, h⟩

/-- [(2 * i + 1, 1) for i in range(seats)] -/
theorem ev_divsW {sc : Scope} {p1 p2 q1 q2 q3 q4 q5 q6 q7 q8 q9 q10 : Pos} {k0 k1 k2 k3 : Nat} {n : Nat} {tn : Tok} {Q : Value → Shared → Prop} (H : ScI sc) (hh : A.handled = none) (F : Fm h₁ L m vR vD vC vW vM s.heap) (B : Base h₁ L) (hs : m "seats" = some (.int n tn)) (hn : n ≤ 40)
    (h : ∀ h' tk D, (∀ b o, s.heap.get? b = some o → h'.get? b = some o) → PLst h' D ((List.range n).map fun i : Nat => (2 * (i : Int) + 1, (1 : Int))) → Q (.ref D) { s with heap := h', toks := tk }) :
    wpAny (model prog w) A (eval (.ListComp (.Tuple [.BinOp (.BinOp (.Constant (.int 2) k0 p1) .Mult (.Name "i" q1) p2) .Add (.Constant (.int 1) k1 q2) q3, .Constant (.int 1) k2 q4] k3 q5) [⟨.Name "i" q6, .Call (.Name "range" q7) [.Name "seats" q8] [] q9, [], 0⟩] sc q10) (dEnv L f cd)) Q E s := by
  refine comp_range false (isPair fun i : Nat => (2 * (i : Int) + 1, (1 : Int))) hh (H.clos _) H.kd H.names (H.cells _) (H.at _) ?_
  refine callT1 (F.gb B).range (dEnv_ok L f cd) rfl (nmL F hs (call_range_1 ?_))
  refine ⟨_, 0, n, _, _, _, n, rfl, IsRange.new .., range_small (by lia) (by lia), range_size, by rw [sizeLine_eq]; lia, fun C i tk s₃ E' hC hi hb hk => ?_, fun D h' tk ys hD hpl hys hF hk => ?_⟩
  · refine Tuple_ (spliced_more (wpAny_BinOp (wpAny_BinOp (wpAny_Constant_int (nmI H hb (P.mul_int (wpAny_Constant_int (P.add_int (spliced_more (wpAny_Constant_int (spliced_none (wpAny_newTuple ?_ (by size_fits)))))))))))))
    rw [Int.zero_add]
    exact mk_new (s₃ := s₃) ⟨_, _, rfl⟩
  · refine h h' tk D (fun b o e => hk b o (Heap.get?_push_of_some _ e)) (plst_of (P := fun _ _ => True) hpl hys fun j hj => ?_)
    obtain ⟨t, y, xo, a, b, c⟩ := hF j hj
    exact ⟨_, y, xo, trivial, a, b, c⟩

def divsM (n : Nat) : List (Int × Int) := (7, 5) :: (List.range (n - 1)).map fun i : Nat => (2 * (1 + (i : Int)) + 1, (1 : Int))
/-- [(7, 5)] + [(2 * i + 1, 1) for i in range(1, seats)] -/
theorem ev_divsM {sc : Scope} {p1 p2 q1 q2 q3 q4 q5 q6 q7 q8 q9 q10 r1 r2 r3 r4 r5 q11 : Pos} {k0 k1 k2 k3 k4 k5 k6 k7 : Nat} {n : Nat} {tn : Tok} {Q : Value → Shared → Prop} (H : ScI sc) (hh : A.handled = none) (F : Fm h₁ L m vR vD vC vW vM s.heap) (B : Base h₁ L) (hs : m "seats" = some (.int n tn)) (hn : n ≤ 40)
    (h : ∀ h' tk D, (∀ b o, s.heap.get? b = some o → h'.get? b = some o) → PLst h' D (divsM n) → Q (.ref D) { s with heap := h', toks := tk }) :
    wpAny (model prog w) A (eval (.BinOp (.List [.Tuple [.Constant (.int 7) k4 r1, .Constant (.int 5) k5 r2] k6 r3] r4) .Add (.ListComp (.Tuple [.BinOp (.BinOp (.Constant (.int 2) k0 p1) .Mult (.Name "i" q1) p2) .Add (.Constant (.int 1) k1 q2) q3, .Constant (.int 1) k2 q4] k3 q5) [⟨.Name "i" q6, .Call (.Name "range" q7) [.Constant (.int 1) k7 q11, .Name "seats" q8] [] q9, [], 0⟩] sc q10) r5) (dEnv L f cd)) Q E s := by
  refine wpAny_BinOp (List_ (spliced_more (Tuple_ (spliced_more (wpAny_Constant_int (spliced_more (wpAny_Constant_int (spliced_none (wpAny_newTuple (spliced_none (wpAny_newList ?_ (by size_fits))) (by size_fits))))))))))
  dsimp only
  generalize hH1 : s.heap.push { cls := .type "tuple", data := .seq [Value.int 7 s.toks, Value.int 5 (s.toks + 1)].toArray } = H1
  generalize hH2 : H1.push { cls := .type "list", data := .seq [Value.ref s.heap.objs.size].toArray } = H2
  have k1 : ∀ b o, s.heap.get? b = some o → H2.get? b = some o := fun b o e => hH2 ▸ Heap.get?_push_of_some _ (hH1 ▸ Heap.get?_push_of_some _ e)
  have F1 := F.grow k1
  have hT : IsTup H2 s.heap.objs.size [Value.int 7 s.toks, Value.int 5 (s.toks + 1)].toArray := ⟨_, hH2 ▸ Heap.get?_push_of_some _ (hH1 ▸ Heap.get?_push_size _ rfl), rfl, _, rfl⟩
  have hl : H2.IsList H1.objs.size [Value.ref s.heap.objs.size].toArray := ⟨_, hH2 ▸ Heap.get?_push_size _ rfl, rfl, _, rfl⟩
  refine comp_range false (isPair fun i : Nat => (2 * (1 + (i : Int)) + 1, (1 : Int))) hh (H.clos _) H.kd H.names (H.cells _) (H.at _) ?_
  refine callT2 (F1.gb B).range (dEnv_ok L f cd) rfl (wpAny_Constant_int (nmL (s := { s with heap := H2, toks := _ }) F1 hs (call_range_2 ?_)))
  refine ⟨_, 1, n, _, _, _, n - 1, rfl, IsRange.new .., small_one (by lia) (by lia) (by lia) (by lia), by rw [rangeSize_one]; split <;> lia, by rw [sizeLine_eq]; lia, fun C i tk s₃ E' hC hi hb hk => ?_, fun D h' tk ys hD hpl hys hF hk => ?_⟩
  · refine Tuple_ (spliced_more (wpAny_BinOp (wpAny_BinOp (wpAny_Constant_int (nmI H hb (P.mul_int (wpAny_Constant_int (P.add_int (spliced_more (wpAny_Constant_int (spliced_none (wpAny_newTuple ?_ (by size_fits)))))))))))))
    exact mk_new (s₃ := s₃) ⟨_, _, rfl⟩
  · dsimp only at hk hpl ⊢
    have k2 : ∀ b o, H2.get? b = some o → h'.get? b = some o := fun b o e => hk b o (Heap.get?_push_of_some _ e)
    have hps := plst_of (P := fun _ _ => True) (g := fun i : Nat => (2 * (1 + (i : Int)) + 1, (1 : Int))) hpl hys fun j hj => by
      obtain ⟨t, y, xo, a, b, c⟩ := hF j hj
      exact ⟨_, y, xo, trivial, a, b, c⟩
    obtain ⟨refs, x1, x2, x3⟩ := hps
    have hlen : refs.length = n - 1 := by simpa using x2
    refine add_base ((SK.grow k2).list hl) x1 (by rw [sizeLine_eq, hlen]; simp only [List.length_cons, List.length_nil]; lia) ?_
    dsimp only
    have k3 : ∀ b o, h'.get? b = some o → (h'.push { cls := .type "list", data := .seq ([Value.ref s.heap.objs.size] ++ refs).toArray }).get? b = some o := fun b o e => Heap.get?_push_of_some _ e
    refine h _ tk _ (fun b o e => k3 b o (k2 b o (k1 b o e))) ⟨[Value.ref s.heap.objs.size] ++ refs, ⟨_, Heap.get?_push_size _ rfl, rfl, _, rfl⟩, by simp [divsM, hlen], fun j p hp => ?_⟩
    cases j with
    | zero =>
      cases hp
      exact ⟨s.heap.objs.size, s.toks, s.toks + 1, rfl, hT.keeps fun b o e => k3 b o (k2 b o e)⟩
    | succ j =>
      obtain ⟨T, t, u, e1, e2⟩ := x3 j p hp
      exact ⟨T, t, u, by simpa using e1, e2.keeps k3⟩
end
end Mine
end

-- part DF
section
open PySem PySem.W PyProof.Rows
set_option maxRecDepth 100000
namespace Mine

theorem bits_iff (x : Int) (n : Nat) : Builtin.Int.intBits x ≤ n ↔ x.natAbs < 2 ^ n := by
  unfold Builtin.Int.intBits
  by_cases h : x = 0
  · subst h; simpa using Nat.two_pow_pos n
  · have h0 : x.natAbs ≠ 0 := by lia
    rw [if_neg (by simpa using h), ← Nat.log2_lt h0]
    lia
theorem bits_mul {a b : Int} {m n : Nat} (ha : Builtin.Int.intBits a ≤ m) (hb : Builtin.Int.intBits b ≤ n) : Builtin.Int.intBits (a * b) ≤ m + n := by
  rw [bits_iff] at ha hb ⊢
  rw [Int.natAbs_mul, Nat.pow_add]
  exact Nat.mul_lt_mul'' ha hb
theorem mulOk_of {a b : Int} (ha : Builtin.Int.intBits a ≤ 2 ^ 22) (hb : Builtin.Int.intBits b ≤ 2 ^ 22) : IntMulOk a b := by
  have h : Builtin.Int.intTooBig (Builtin.Int.intBits a + Builtin.Int.intBits b) = false := by
    unfold Builtin.Int.intTooBig bitsLine
    exact decide_eq_false (by lia)
  unfold IntMulOk
  rw [h]
  simp

theorem ints_at : ∀ {vs : List Value} {ns : List Int}, vs.length = ns.length → (∀ (j : Nat) (x : Int), ns[j]? = some x → ∃ t, vs[j]? = some (.int x t)) → IntsAre vs ns
  | [], [], _, _ => .nil
  | v :: vs, n :: ns, hl, h => by
    obtain ⟨t, e⟩ := h 0 n rfl
    simp at e; subst e
    exact .cons n t (ints_at (by simpa using hl) fun j x e => by simpa using h (j + 1) x (by simpa using e))
theorem ints_get {vs : List Value} {ns : List Int} (h : IntsAre vs ns) {j : Nat} {v : Value} (e : vs[j]? = some v) : ∃ t, v = .int (ns.getD j 0) t := by
  obtain ⟨n, t, e1, e2⟩ := h.at j v e
  exact ⟨t, by rw [e1, List.getD_eq_getElem?_getD, e2]; rfl⟩
theorem ints_ex {vs : List Value} {ns : List Int} (h : IntsAre vs ns) {j : Nat} (hj : j < ns.length) : ∃ t, vs[j]? = some (.int (ns.getD j 0) t) := by
  have hl := h.length
  obtain ⟨t, e⟩ := ints_get h (List.getElem?_eq_getElem (show j < vs.length by lia))
  exact ⟨t, by rw [List.getElem?_eq_getElem (show j < vs.length by lia), e]⟩

def isInt' (g : Nat → Int) (i : Nat) (_ : Value) (y : Value) (xo : Option Obj) : Prop := ∃ t, y = .int (g i) t ∧ xo = none
theorem ilst_of {h : Heap} {D : Addr} {ys : Array Value} {n : Nat} {g : Nat → Int} {P : Nat → Value → Prop} (hpl : h.PlainList D ys) (hys : ys.size = n)
    (hF : ∀ j : Nat, j < n → ∃ v y xo, P j v ∧ ys[j]? = some y ∧ isInt' g j v y xo) : ILst h D ((List.range n).map g) := by
  refine ⟨ys.toList, by rw [Array.toArray_toList]; exact hpl, ints_at (by simp [hys]) fun j x hx => ?_⟩
  have hj : j < n := by
    by_cases hj : j < n
    · exact hj
    · rw [List.getElem?_eq_none (by simp; lia)] at hx; cases hx
  obtain ⟨v, y, xo, _, a2, t, e1, e2⟩ := hF j hj
  have e : x = g j := by
    rw [List.getElem?_map, List.getElem?_range hj] at hx
    exact (Option.some.inj hx).symm
  subst e e1
  exact ⟨t, by simpa using a2⟩

structure ScP (sc : Scope) : Prop where
  kd : sc.kind = .function
  nm : sc.names = [(Str.ofString ".0", .local), (Str.ofString "p", .local)]
theorem ScP.clos {sc : Scope} (h : ScP sc) (env : Env) : closureFor sc env = pure [] := by unfold closureFor; rw [h.nm]; rfl
theorem ScP.names {sc : Scope} (h : ScP sc) : ∀ y ∈ sc.names, y.2 = .local → sc.names.lookup y.1 = some .local := by rw [h.nm]; decide
theorem ScP.cells {sc : Scope} (h : ScP sc) (x : Str) : ∀ n cl (hp : Heap), cellsFrom n sc.names cl = (if false = true then (x, n) :: cl else cl) ∧ pushCells hp sc.names = if false = true then hp.push cellO else hp := by rw [h.nm]; exact fun _ _ _ => ⟨rfl, rfl⟩
theorem ScP.at {sc : Scope} (h : ScP sc) (env : Env) : (relabel sc env).names.lookup (Str.ofString "p") = some NameKind.local := by
  have e : (relabel sc env).names = sc.names.map _ := rfl
  rw [e, h.nm]; rfl

section
variable {prog : Program} {w : World} {A : Around} {E : Value → Shared → Prop} {s : Shared} {h₁ : Heap} {L f : Addr} {cd : Value} {m : Str → Option Value} {vR vD vC vW vM : Option Value}

theorem ev_ones {sc : Scope} {q1 q2 q3 q4 q5 q6 q7 q8 q9 : Pos} {k1 k2 k3 : Nat} {l : Addr} {ns : List Int} {Q : Value → Shared → Prop} (H : ScP sc) (hh : A.handled = none) (F : Fm h₁ L m vR vD vC vW vM s.heap) (hv : m "votes" = some (.ref l)) (hl : ILst s.heap l ns) (hn : ns.length ≤ 3) (hpos : ∀ x ∈ ns, 0 < x)
    (h : ∀ h' tk D, (∀ b o, s.heap.get? b = some o → h'.get? b = some o) → s.heap.get? D = none → ILst h' D (List.replicate ns.length 1) → Q (.ref D) { s with heap := h', toks := tk }) :
    wpAny (model prog w) A (eval (.ListComp (.IfExp (.Compare (.Name "p" q1) [.Gt] [.Constant (.int 0) k1 q2] q3) (.Constant (.int 1) k2 q4) (.Constant (.int 0) k3 q5) q6) [⟨.Name "p" q7, .Name "votes" q8, [], 0⟩] sc q9) (dEnv L f cd)) Q E s := by
  obtain ⟨vs, hls, hI⟩ := hl.lst
  have hlen := hI.length
  refine comp_list false (isInt' fun _ => 1) hh (H.clos _) H.kd H.names (H.cells _) (H.at _) ?_
  refine nmL F hv ⟨l, vs.toArray, rfl, hls, by rw [sizeLine_eq, List.size_toArray]; lia, fun C i v s₃ E' hC hi hb hk => ?_, fun D h' tk ys hD hpl hys hF hk => ?_⟩
  · obtain ⟨m', hn', hm'⟩ := hb
    obtain ⟨x, t, rfl, ex⟩ := hI.at i v (by simpa using hi)
    have hx : 0 < x := hpos x (List.mem_of_getElem? ex)
    refine wpAny_IfExp (wpAny_isTrue_Compare1 (wpAny_Name (wpAny_loadName_local (by simp [compEnvC, relabel, H.kd]) (H.at _) hn' hm' (wpAny_Constant_int (P.gt_int (wpAny_truthy_bool ?_)))) (by decide)))
    have e1 : decide (x > 0) = true := decide_eq_true hx
    rw [e1]
    exact wpAny_Constant_int (mk_val (s₃ := s₃) (h' := s₃.heap) ⟨_, rfl, rfl⟩ fun _ _ e => e)
  · refine h h' tk D hk hD ?_
    have := ilst_of (g := fun _ => 1) (P := fun _ _ => True) (n := ns.length) hpl (by rw [hys, List.size_toArray]; lia) fun j hj => by
      obtain ⟨y, xo, a, b, _⟩ := hF j (vs[j]'(by lia)) (by simp [show j < vs.length from by lia])
      exact ⟨_, y, xo, trivial, a, b⟩
    rwa [show (List.range ns.length).map (fun _ => (1 : Int)) = List.replicate ns.length 1 from List.ext_getElem (by rw [List.length_map, List.length_range, List.length_replicate]) (by intro i h1 h2; rw [List.getElem_map, List.getElem_replicate])] at this

/-- method in [names] -/
theorem splice_strs {env : Env} {Q : List Value → Shared → Prop} (pos : Pos) : ∀ (ks : List (Str × Nat × Pos)) {s : Shared}, (∀ vs tk, StrsAre vs (ks.map (·.1)) → Q vs { s with toks := tk }) →
    wpAny (model prog w) A (spliced (backTo pos (starEach (ks.map fun k => Expr.Constant (.str k.1) k.2.1 k.2.2) env))) Q E s
  | [], s, h => spliced_none (h [] s.toks .nil)
  | k :: ks, s, h => spliced_more (Calls.Constant_str (wpAny_mono (splice_strs (Q := fun vs s₂ => Q (Value.str k.1 s.toks :: vs) s₂) pos ks (fun vs tk hv => h _ tk (.cons _ _ hv))) (fun _ _ q => q) fun _ _ q => q))

theorem strs_len {vs : List Value} {ys : List Str} (h : StrsAre vs ys) : vs.length = ys.length := by
  induction h with
  | nil => rfl
  | cons _ _ _ ih => simp [ih]
theorem in_names {px pl pos : Pos} {es : List Expr} {whole : Sem Value} {ks : List Str} {k : Str} {t : Tok} {Q : Bool → Shared → Prop} (F : Fm h₁ L m vR vD vC vW vM s.heap) (hm : m "method" = some (.str k t)) (hsz : ks.length ≤ 3)
    (hes : ∀ {s : Shared} {pos : Pos} {Q : List Value → Shared → Prop}, (∀ vs tk, StrsAre vs ks → Q vs { s with toks := tk }) → wpAny (model prog w) A (spliced (backTo pos (starEach es (dEnv L f cd)))) Q E s)
    (h : ∀ h' tk, (∀ b o, s.heap.get? b = some o → h'.get? b = some o) → Q (ks.any (· == k)) { s with heap := h', toks := tk })
    (hb : behindInMarks CmpOp.In (.List es pl) = false) :
    wpAny (model prog w) A (isTrue (.Compare (.Name "method" px) [.In] [.List es pl] pos) (dEnv L f cd) whole) Q E s := by
  refine wpAny_isTrue_Compare1 (nmL F hm (List_ (hes fun vs tk hvs => ?_))) hb
  have hl := strs_len hvs
  refine wpAny_newList ?_ (by rw [sizeLine_eq]; lia)
  exact in_list_strs ⟨_, Heap.get?_push_size _ rfl, rfl, _, rfl⟩ hvs (wpAny_truthy_bool (h _ _ fun b o e => Heap.get?_push_of_some _ e))
theorem in_names1 {px pl pos p1 : Pos} {x1 : Str} {n1 : Nat} {whole : Sem Value} {k : Str} {t : Tok} {Q : Bool → Shared → Prop} (F : Fm h₁ L m vR vD vC vW vM s.heap) (hm : m "method" = some (.str k t))
    (h : ∀ h' tk, (∀ b o, s.heap.get? b = some o → h'.get? b = some o) → Q ([x1].any (· == k)) { s with heap := h', toks := tk }) :
    wpAny (model prog w) A (isTrue (.Compare (.Name "method" px) [.In] [.List [.Constant (.str x1) n1 p1] pl] pos) (dEnv L f cd) whole) Q E s :=
  in_names (ks := [x1]) F hm (by simp) (fun hq => splice_strs _ [(x1, n1, p1)] hq) h rfl
theorem in_names2 {px pl pos p1 p2 : Pos} {x1 x2 : Str} {n1 n2 : Nat} {whole : Sem Value} {k : Str} {t : Tok} {Q : Bool → Shared → Prop} (F : Fm h₁ L m vR vD vC vW vM s.heap) (hm : m "method" = some (.str k t))
    (h : ∀ h' tk, (∀ b o, s.heap.get? b = some o → h'.get? b = some o) → Q ([x1, x2].any (· == k)) { s with heap := h', toks := tk }) :
    wpAny (model prog w) A (isTrue (.Compare (.Name "method" px) [.In] [.List [.Constant (.str x1) n1 p1, .Constant (.str x2) n2 p2] pl] pos) (dEnv L f cd) whole) Q E s :=
  in_names (ks := [x1, x2]) F hm (by simp) (fun hq => splice_strs _ [(x1, n1, p1), (x2, n2, p2)] hq) h rfl
theorem in_names3 {px pl pos p1 p2 p3 : Pos} {x1 x2 x3 : Str} {n1 n2 n3 : Nat} {whole : Sem Value} {k : Str} {t : Tok} {Q : Bool → Shared → Prop} (F : Fm h₁ L m vR vD vC vW vM s.heap) (hm : m "method" = some (.str k t))
    (h : ∀ h' tk, (∀ b o, s.heap.get? b = some o → h'.get? b = some o) → Q ([x1, x2, x3].any (· == k)) { s with heap := h', toks := tk }) :
    wpAny (model prog w) A (isTrue (.Compare (.Name "method" px) [.In] [.List [.Constant (.str x1) n1 p1, .Constant (.str x2) n2 p2, .Constant (.str x3) n3 p3] pl] pos) (dEnv L f cd) whole) Q E s :=
  in_names (ks := [x1, x2, x3]) F hm (by simp) (fun hq => splice_strs _ [(x1, n1, p1), (x2, n2, p2), (x3, n3, p3)] hq) h rfl
end
end Mine
end

-- part DG
section
open PySem PySem.W PyProof.Rows
set_option maxRecDepth 100000
namespace Mine

theorem apart5 (l j : Nat) (h : l + 1 + 1 + 1 + 1 + 1 < j) : l ≠ j ∧ l + 1 ≠ j ∧ l + 1 + 1 ≠ j ∧ l + 1 + 1 + 1 ≠ j ∧ l + 1 + 1 + 1 + 1 ≠ j ∧ l + 1 + 1 + 1 + 1 + 1 ≠ j ∧ ∀ b : Nat, b < l → b ≠ j := by
  refine ⟨by lia, by lia, by lia, by lia, by lia, by lia, fun b hb => by lia⟩
theorem Fm.upd {h₁ h h' : Heap} {L J : Addr} {m : Str → Option Value} {vR vD vC vW vM : Option Value} (F : Fm h₁ L m vR vD vC vW vM h) (hJ : L + 1 + 1 + 1 + 1 + 1 < J) (k : ∀ b o, b ≠ J → h.get? b = some o → h'.get? b = some o) : Fm h₁ L m vR vD vC vW vM h' := by
  obtain ⟨n0, n1, n2, n3, n4, n5, n6⟩ := apart5 L J hJ
  exact ⟨F.ns.at' fun o e => k _ o n0 e,
    let ⟨o, a, b⟩ := F.r; ⟨o, k _ o n1 a, b⟩,
    let ⟨o, a, b⟩ := F.d; ⟨o, k _ o n2 a, b⟩,
    let ⟨o, a, b⟩ := F.c; ⟨o, k _ o n3 a, b⟩,
    let ⟨o, a, b⟩ := F.w; ⟨o, k _ o n4 a, b⟩,
    let ⟨o, a, b⟩ := F.mw; ⟨o, k _ o n5 a, b⟩,
    fun b o l e => k b o (n6 b l) (F.kp b o l e)⟩
theorem SK.iter {h h' : Heap} {J l : Addr} {i : Nat} (hit : h.IsListIter J l i) (k : ∀ b o, b ≠ J → h.get? b = some o → h'.get? b = some o) : SK h h' := fun b o e q => by
  refine k b o (fun ea => ?_) e
  obtain ⟨o', ho, _, hd⟩ := hit
  rw [ea, ho] at e
  obtain ⟨vs, n, q⟩ := q
  rw [← Option.some.inj e, hd] at q
  cases q
theorem SK.riter {h h' : Heap} {J : Addr} {x left step : Int} (hit : IsRangeIter h J x left step) (k : ∀ b o, b ≠ J → h.get? b = some o → h'.get? b = some o) : SK h h' := fun b o e q => by
  refine k b o (fun ea => ?_) e
  rw [ea, hit] at e
  obtain ⟨vs, n, q⟩ := q
  rw [← Option.some.inj e] at q
  cases q

def prodL : List (Int × Int) → Int
  | [] => 1
  | p :: ps => p.1 * prodL ps
theorem prod_take (ps : List (Int × Int)) : ∀ (i : Nat) (p : Int × Int), ps[i]? = some p → prodL (ps.take (i + 1)) = prodL (ps.take i) * p.1 := by
  induction ps with
  | nil => intro i p h; simp at h
  | cons q qs ih =>
    intro i p h
    cases i with
    | zero => simp at h; subst h; simp [prodL]
    | succ i => simp only [List.take_succ_cons, prodL]; rw [ih i p (by simpa using h), Int.mul_assoc]

section
variable {prog : Program} {w : World} {A : Around} {E : Value → Shared → Prop} {s : Shared} {h₁ : Heap} {L f : Addr} {cd : Value} {m : Str → Option Value} {vR vD vC vW vM : Option Value}

theorem put_get (m : Str → Option Value) (x : Str) (v : Value) : put m x v x = some v := if_pos rfl
theorem put_ne (m : Str → Option Value) {x y : Str} (v : Value) (h : y ≠ x := by decide) : put m x v y = m y := if_neg h

/-- for d in divisors: common = common * d[0] -/
theorem st_common {p1 p2 p3 p4 p5 p6 p7 p8 p9 p10 : Pos} {k : Nat} {D : Addr} {ps : List (Int × Int)} {t : Tok} {Q : Flow → Shared → Prop} (hh : A.handled = none) (F : Fm h₁ L m vR (some (.ref D)) (some (.int 1 t)) vW vM s.heap) (hl : PLst s.heap D ps) (hsz : ps.length ≤ 100) (hps : ∀ p ∈ ps, Builtin.Int.intBits p.1 ≤ 64)
    (h : ∀ h' tk m' t', (∀ y, y ≠ ("d" : Str) → m' y = m y) → Fm h₁ L m' vR (some (.ref D)) (some (.int (prodL ps) t')) vW vM h' → SK s.heap h' → Q .next { s with heap := h', toks := tk }) :
    wpAny (model prog w) A (exec (.For (.Name "d" p1) (.Name "divisors" p2) [.Assign [.Name "common" p3] (.BinOp (.Name "common" p4) .Mult (.Subscript (.Name "d" p5) (.Constant (.int 0) k p6) p7) p8) p9] [] p10) (dEnv L f cd)) Q E s := by
  obtain ⟨refs, hD, hlen, helt⟩ := id hl
  refine wpAny_For (nmC F.d (wpAny_pyIter_list hD ?_))
  have hlt : L + 1 + 1 + 1 + 1 + 1 < s.heap.objs.size := by obtain ⟨o, e, _⟩ := F.mw; exact Heap.lt_size e
  have hDlt : D < s.heap.objs.size := by obtain ⟨o, e, _⟩ := hD; exact Heap.lt_size e
  refine codeAny_forLoop (fun n s' => ∃ (i : Nat) (h' : Heap) (tk : Nat) (m' : Str → Option Value) (t' : Tok), s' = { s with heap := h', toks := tk } ∧ (∀ y, y ≠ ("d" : Str) → m' y = m y) ∧ Fm h₁ L m' vR (some (.ref D)) (some (.int (prodL (ps.take i)) t')) vW vM h' ∧ SK s.heap h' ∧ h'.IsListIter s.heap.objs.size D i ∧ i ≤ ps.length ∧ n = ps.length - i) ?_ ps.length ⟨0, _, s.toks, m, t, rfl, fun _ _ => rfl, F.grow fun b o e => Heap.get?_push_of_some _ e, SK.grow fun b o e => Heap.get?_push_of_some _ e, ⟨_, Heap.get?_push_size _ rfl, rfl, rfl⟩, Nat.zero_le _, rfl⟩
  rintro n s' ⟨i, h', tk, m', t', rfl, hm', F', K', hit, hi, rfl⟩
  by_cases hlast : i < ps.length
  · obtain ⟨p, hp⟩ : ∃ p, ps[i]? = some p := ⟨_, List.getElem?_eq_getElem hlast⟩
    obtain ⟨T, u1, u2, hr, hT⟩ := helt i p hp
    refine wpAny_pyNext_list_item hit (K'.list hD) (by simpa using hr) fun h₂ hit₂ hs₂ => ?_
    have F2 := F'.upd hlt hs₂.extBut
    have K2 : SK s.heap h₂ := K'.trans (SK.iter hit hs₂.extBut)
    dsimp only
    refine wpAny_assign_Name (wpAny_storeName_local rfl F2.ns (fun h₃ hn₃ hs₃ => ?_) rfl)
    have F3 := F2.stL hn₃ hs₃
    have K3 : SK s.heap h₃ := K2.trans (SK.ns F2.ns hs₃)
    have hit₃ : h₃.IsListIter s.heap.objs.size D (i + 1) := hit₂.extBut hs₃.extBut (Ne.symm (apart5 L _ hlt).1)
    refine wpAny_execs_cons (asgC (wpAny_BinOp (nmC F3.c (Subscript_ (nmL F3 (by exact if_pos rfl) (wpAny_Constant_int ?_))))))
    refine item_tupleT (K3.tup hT) (by lia) (by lia) rfl rfl ?_
    refine P.mul_int ?_ (IntMulOk.of_right (hps p (List.mem_of_getElem? hp)))
    rw [← prod_take ps i p hp]
    refine ⟨_, _, _, _, _, _, _, F3, fun h₄ tk4 F4 K4 hs4 => wpAny_execs_nil ?_⟩
    refine ⟨ps.length - (i + 1), by lia, i + 1, h₄, tk4, _, _, rfl, fun y hy => (if_neg hy).trans (hm' y hy), F4, K3.trans K4, ?_, hlast, rfl⟩
    exact hit₃.extBut hs4.extBut (Ne.symm (apart5 L _ hlt).2.2.2.1)
  · refine wpAny_pyNext_list_end hh hit (K'.list hD) (by simp; lia) fun h₂ he₂ => ?_
    dsimp only
    refine wpAny_execs_nil ?_
    have F2 := F'.upd hlt he₂
    rw [List.take_of_length_le (by lia)] at F2
    exact h h₂ tk m' t' hm' F2 (K'.trans (SK.iter hit he₂))
end
end Mine
end

-- part DH
section
open PySem PySem.W PyProof.Rows
set_option maxRecDepth 100000
namespace Mine

structure ScO (sc : Scope) : Prop where
  kd : sc.kind = .function
  nm : sc.names = [(Str.ofString ".0", .local), (Str.ofString "p", .cell), (Str.ofString "common", .free), (Str.ofString "divisors", .free)]
def clO (L : Addr) : List (Str × Addr) := [(Str.ofString "divisors", L + 1 + 1), (Str.ofString "common", L + 1 + 1 + 1)]
abbrev oEnv (sc : Scope) (C L f : Addr) (cd : Value) : Env := compEnvC sc (cl1 true "p" C (clO L)) C (dEnv L f cd)
section
variable {sc : Scope} {L f C : Addr} {cd : Value}
theorem ScO.clos (h : ScO sc) : closureFor sc (dEnv L f cd) = pure (clO L) := by unfold closureFor; rw [h.nm]; rfl
theorem ScO.names (h : ScO sc) : ∀ y ∈ sc.names, y.2 = .local → sc.names.lookup y.1 = some .local := by rw [h.nm]; decide
theorem ScO.cells (h : ScO sc) : ∀ n cl (hp : Heap), cellsFrom n sc.names cl = (if true = true then (Str.ofString "p", n) :: cl else cl) ∧ pushCells hp sc.names = if true = true then hp.push cellO else hp := by rw [h.nm]; exact fun _ _ _ => ⟨rfl, rfl⟩
theorem ScO.at (h : ScO sc) : (relabel sc (dEnv L f cd)).names.lookup (Str.ofString "p") = some (if true = true then NameKind.cell else .local) := by
  have e : (relabel sc (dEnv L f cd)).names = sc.names.map _ := rfl
  rw [e, h.nm]; rfl
theorem ScO.fn (h : ScO sc) : (oEnv sc C L f cd).scope.kind = .function := by simp [oEnv, compEnvC, relabel, h.kd]
theorem ScO.lk (h : ScO sc) {x : Str} (hx : x = "p" ∨ x = "common" ∨ x = "divisors") : (oEnv sc C L f cd).kindOf x = some .cell := by
  have e : (oEnv sc C L f cd).kindOf x = (relabel sc (dEnv L f cd)).names.lookup x := rfl
  have e2 : (relabel sc (dEnv L f cd)).names = sc.names.map _ := rfl
  rw [e, e2, h.nm]
  rcases hx with rfl | rfl | rfl <;> rfl

structure ScN (sc : Scope) : Prop where
  kd : sc.kind = .function
  nm : sc.names = [(Str.ofString ".0", .local), (Str.ofString "d", .local), (Str.ofString "int", .globalImplicit), (Str.ofString "common", .free), (Str.ofString "p", .free)]
variable {si : Scope} {C' : Addr}
def clN (C L : Addr) : List (Str × Addr) := [(Str.ofString "p", C + 1), (Str.ofString "common", L + 1 + 1 + 1)]
abbrev iEnv (si : Scope) (C' : Addr) (sc : Scope) (C L f : Addr) (cd : Value) : Env := compEnvC si (cl1 false "d" C' (clN C L)) C' (oEnv sc C L f cd)
theorem ScN.clos (h : ScN si) : closureFor si (oEnv sc C L f cd) = pure (clN C L) := by unfold closureFor; rw [h.nm]; rfl
theorem ScN.names (h : ScN sc) : ∀ y ∈ sc.names, y.2 = .local → sc.names.lookup y.1 = some .local := by rw [h.nm]; decide
theorem ScN.cells (h : ScN sc) : ∀ n cl (hp : Heap), cellsFrom n sc.names cl = (if false = true then (Str.ofString "d", n) :: cl else cl) ∧ pushCells hp sc.names = if false = true then hp.push cellO else hp := by rw [h.nm]; exact fun _ _ _ => ⟨rfl, rfl⟩
theorem ScN.at (h : ScN si) (env : Env) : (relabel si env).names.lookup (Str.ofString "d") = some NameKind.local := by
  have e : (relabel si env).names = si.names.map _ := rfl
  rw [e, h.nm]; rfl
theorem ScN.fn (h : ScN si) : (iEnv si C' sc C L f cd).scope.kind = .function := by simp [iEnv, compEnvC, relabel, h.kd]
theorem ScN.lk (h : ScN si) (H : ScO sc) {x : Str} (hx : x = "p" ∨ x = "common") : (iEnv si C' sc C L f cd).kindOf x = some .cell := by
  have e : (iEnv si C' sc C L f cd).kindOf x = (relabel si (oEnv sc C L f cd)).names.lookup x := rfl
  have e2 : (relabel si (oEnv sc C L f cd)).names = si.names.map fun (n, k) => if (k == NameKind.free && (oEnv sc C L f cd).scope.kind == .function && (oEnv sc C L f cd).kindOf n == some .cell) then (n, NameKind.cell) else (n, k) := rfl
  rw [e, e2, h.nm, H.fn]
  simp only [List.map_cons, List.map_nil, H.lk (C := C) (L := L) (f := f) (cd := cd) (x := Str.ofString "p") (.inl rfl), H.lk (C := C) (L := L) (f := f) (cd := cd) (x := Str.ofString "common") (.inr (.inl rfl))]
  rcases hx with rfl | rfl <;> rfl
theorem ScN.lkg (h : ScN si) : (iEnv si C' sc C L f cd).kindOf "int" = some .globalImplicit := by
  have e : (iEnv si C' sc C L f cd).kindOf "int" = (relabel si (oEnv sc C L f cd)).names.lookup (Str.ofString "int") := rfl
  have e2 : (relabel si (oEnv sc C L f cd)).names = si.names.map _ := rfl
  rw [e, e2, h.nm]
  rfl
theorem ScN.lkd (h : ScN si) : (iEnv si C' sc C L f cd).kindOf "d" = some .local := h.at _
theorem ScN.ok (h : ScN si) : EnvOk (iEnv si C' sc C L f cd) := ⟨h.fn, rfl, rfl⟩
end

/-- a list object of these ints -/
def isRow (g : Nat → List Int) (i : Nat) (_ : Value) (_ : Value) (xo : Option Obj) : Prop := ∃ ys n, xo = some { cls := .type "list", data := .seq ys n } ∧ IntsAre ys.toList (g i)
theorem rlst_of {h : Heap} {D : Addr} {ys : Array Value} {n : Nat} {g : Nat → List Int} {P : Nat → Value → Prop} (hpl : h.PlainList D ys) (hys : ys.size = n)
    (hF : ∀ j : Nat, j < n → ∃ v y xo, P j v ∧ ys[j]? = some y ∧ isRow g j v y xo ∧ EltB h (fun a => a = D) y xo) : RLst h D ((List.range n).map g) := by
  have hex : ∀ j : Nat, j < n → ∃ T, ys[j]? = some (.ref T) ∧ ILst h T (g j) := fun j hj => by
    obtain ⟨v, y, xo, _, a2, ⟨zs, k, rfl, hz⟩, T, rfl, b2, _⟩ := hF j hj
    exact ⟨T, a2, zs.toList, by rw [Array.toArray_toList]; exact ⟨_, b2⟩, hz⟩
  have key : ∀ (l : List Value) (k : Nat), (∀ j : Nat, j < l.length → ∃ T, l[j]? = some (.ref T) ∧ ILst h T (g (k + j))) → ∃ as : List Addr, l = as.map Value.ref ∧ ∀ (j : Nat) a, as[j]? = some a → ILst h a (g (k + j)) := by
    intro l
    induction l with
    | nil => intro k _; exact ⟨[], rfl, fun j a e => by simp at e⟩
    | cons v l ih =>
      intro k hl
      obtain ⟨T, e, hT⟩ := hl 0 (by simp)
      simp at e; subst e
      obtain ⟨as, rfl, has⟩ := ih (k + 1) fun j hj => by
        obtain ⟨T', e', hT'⟩ := hl (j + 1) (by simpa using hj)
        exact ⟨T', by simpa using e', by rw [show k + 1 + j = k + (j + 1) by lia]; exact hT'⟩
      refine ⟨T :: as, rfl, fun j a ea => ?_⟩
      cases j with
      | zero => simp at ea; subst ea; exact hT
      | succ j => rw [show k + (j + 1) = k + 1 + j by lia]; exact has j a (by simpa using ea)
  obtain ⟨as, e, has⟩ := key ys.toList 0 fun j hj => by
    obtain ⟨T, e, hT⟩ := hex j (by simpa [hys] using hj)
    exact ⟨T, by simpa using e, by simpa using hT⟩
  have hlen : as.length = n := by rw [← hys, ← Array.length_toList, e, List.length_map]
  refine ⟨as, by rw [← e, Array.toArray_toList]; exact hpl.isList, by simp [hlen], fun j a row e1 e2 => ?_⟩
  have hj : j < n := by rw [← hlen]; exact (List.getElem?_eq_some_iff.mp e1).1
  have e3 : row = g j := by
    rw [List.getElem?_map, List.getElem?_range hj] at e2
    exact (Option.some.inj e2).symm
  rw [e3]
  simpa using has j a e1

section
variable {prog : Program} {w : World} {A : Around} {E : Value → Shared → Prop} {s : Shared} {h₁ : Heap} {L f : Addr} {cd : Value} {m : Str → Option Value} {vR vD vC vW vM : Option Value}
def wOf (c v : Int) (p : Int × Int) : Int := (v * p.2 * c).fdiv p.1
abbrev wElt (q1 q2 q3 q4 q5 q6 q7 q8 q9 q10 q11 q12 q13 : Pos) (k1 k2 : Nat) : Expr :=
  .BinOp (.BinOp (.BinOp (.Call (.Name "int" q1) [.Name "p" q2] [] q3) .Mult (.Subscript (.Name "d" q4) (.Constant (.int 1) k1 q5) q6) q7) .Mult (.Name "common" q8) q9) .FloorDiv (.Subscript (.Name "d" q10) (.Constant (.int 0) k2 q11) q12) q13

theorem ev_row {sc si : Scope} {C D : Addr} {q1 q2 q3 q4 q5 q6 q7 q8 q9 q10 q11 q12 q13 r1 r2 r3 : Pos} {k1 k2 : Nat} {ps : List (Int × Int)} {c v : Int} {t t' : Tok} {Q : Value → Shared → Prop} (H : ScO sc) (I : ScN si) (hh : A.handled = none)
    (F : Fm h₁ L m vR (some (.ref D)) (some (.int c t)) vW vM s.heap) (B : Base h₁ L) (hl : PLst s.heap D ps) (hp : s.heap.IsCell (C + 1) (some (.int v t')))
    (hsz : ps.length ≤ 100) (hps : ∀ p ∈ ps, 0 < p.1 ∧ p.1 < 1000 ∧ Builtin.Int.intBits p.2 ≤ 64) (hv : Builtin.Int.intBits v ≤ 2 ^ 21) (hc : Builtin.Int.intBits c ≤ 2 ^ 22)
    (h : ∀ h' tk T ys, s.heap.get? T = none → (∀ b o, s.heap.get? b = some o → h'.get? b = some o) → h'.PlainList T ys → IntsAre ys.toList (ps.map (wOf c v)) → Q (.ref T) { s with heap := h', toks := tk }) :
    wpAny (model prog w) A (eval (.ListComp (wElt q1 q2 q3 q4 q5 q6 q7 q8 q9 q10 q11 q12 q13 k1 k2) [⟨.Name "d" r1, .Name "divisors" r2, [], 0⟩] si r3) (oEnv sc C L f cd)) Q E s := by
  obtain ⟨refs, hD, hlen, helt⟩ := id hl
  refine comp_list false (isInt' fun i => wOf c v (ps.getD i (0, 0))) hh I.clos I.kd I.names I.cells (I.at _) ?_
  refine wpAny_Name (wpAny_loadName_cell H.fn (H.lk (.inr (.inr rfl))) (by rfl) F.d ⟨D, refs.toArray, rfl, hD, by rw [sizeLine_eq, List.size_toArray]; lia, fun C' i w' s₃ E' hC' hi hb hk => ?_, fun T h' tk ys hT hpl hys hF hk => ?_⟩) (by decide)
  · have hilt : i < ps.length := by rw [← hlen]; simpa using (Array.getElem?_eq_some_iff.mp hi).1
    obtain ⟨p, hpi⟩ : ∃ p, ps[i]? = some p := ⟨_, List.getElem?_eq_getElem hilt⟩
    have hgd : ps.getD i (0, 0) = p := by rw [List.getD_eq_getElem?_getD, hpi]; rfl
    obtain ⟨T, u1, u2, hr, hTp⟩ := helt i p hpi
    have hw : w' = .ref T := by
      have : refs[i]? = some w' := by simpa using hi
      rw [hr] at this
      exact (Option.some.inj this).symm
    subst hw
    obtain ⟨md, hnd, hmd⟩ := hb
    obtain ⟨b1, b2, b3⟩ := hps p (List.mem_of_getElem? hpi)
    have F3 := F.grow hk
    have ldD : ∀ {s' : Shared} {Q' : Value → Shared → Prop} {E' : Value → Shared → Prop} {q : Pos}, s'.heap = s₃.heap → Q' (.ref T) s' → wpAny (model prog w) A (eval (.Name "d" q) (iEnv si C' sc C L f cd)) Q' E' s' := fun e q => wpAny_Name (wpAny_loadName_local I.fn I.lkd (by rw [e]; exact hnd) hmd q) (by decide)
    refine wpAny_BinOp (wpAny_BinOp (wpAny_BinOp (callT1 (F3.gb B).int I.ok I.lkg ?_)))
    refine wpAny_Name (wpAny_loadName_cell I.fn (I.lk H (.inl rfl)) (by rfl) (hp.keeps hk) (call_int_int ?_)) (by decide)
    refine Subscript_ (ldD rfl (wpAny_Constant_int (item_tupleT (hTp.keeps hk) (by lia) (by lia) rfl rfl ?_)))
    refine P.mul_int ?_ (IntMulOk.of_right b3)
    refine wpAny_Name (wpAny_loadName_cell I.fn (I.lk H (.inr rfl)) (by rfl) F3.c (P.mul_int ?_ (mulOk_of (Nat.le_trans (bits_mul hv b3) (by decide)) hc))) (by decide)
    refine Subscript_ (ldD rfl (wpAny_Constant_int (item_tupleT (hTp.keeps hk) (by lia) (by lia) rfl rfl ?_)))
    refine floordiv_int (by lia) ?_ (Or.inl (PyProof.noPylong_small (by lia)))
    have e : (v * p.2 * c).fdiv p.1 = wOf c v (ps.getD i (0, 0)) := by rw [hgd]; rfl
    exact mk_val (s₃ := s₃) (h' := s₃.heap) ⟨_, congrArg (fun x => Value.int x _) e, rfl⟩ fun _ _ e => e
  · refine h h' tk T ys hT hk hpl ?_
    obtain ⟨zs, hz1, hz2⟩ := ILst.lst <| ilst_of (g := fun i => wOf c v (ps.getD i (0, 0))) (P := fun _ _ => True) (n := ps.length) hpl (by rw [hys, List.size_toArray]; lia) fun j hj => by
      obtain ⟨y, xo, a, b, _⟩ := hF j (refs[j]'(by lia)) (by simp [show j < refs.length from by lia])
      exact ⟨_, y, xo, trivial, a, b⟩
    have e1 : (List.range ps.length).map (fun i => wOf c v (ps.getD i (0, 0))) = ps.map (wOf c v) := by
      refine List.ext_getElem (by simp) fun i h1 h2 => ?_
      simp only [List.length_map] at h2
      simp [List.getD_eq_getElem?_getD, List.getElem?_eq_getElem h2]
    rw [e1] at hz2
    have e2 : ys.toList = zs := by
      obtain ⟨o1, g1, _, n1, d1⟩ := hz1
      obtain ⟨n2, g2⟩ := hpl
      rw [g2] at g1
      cases g1
      cases d1
      rfl
    rw [e2]; exact hz2
end
end Mine
end

-- part DI
section
open PySem PySem.W PyProof.Rows
set_option maxRecDepth 100000
namespace Mine

structure ScF (sc : Scope) : Prop where
  kd : sc.kind = .function
  nm : sc.names = [(Str.ofString ".0", .local), (Str.ofString "l", .local), (Str.ofString "w", .local)]
theorem ScF.clos {sc : Scope} (h : ScF sc) (env : Env) : closureFor sc env = pure [] := by unfold closureFor; rw [h.nm]; rfl
theorem ScF.names {sc : Scope} (h : ScF sc) : ∀ y ∈ sc.names, y.2 = .local → sc.names.lookup y.1 = some .local := by rw [h.nm]; decide
theorem ScF.cells {sc : Scope} (h : ScF sc) : ∀ n cl (hp : Heap), cellsFrom n sc.names cl = cl ∧ pushCells hp sc.names = hp := by rw [h.nm]; exact fun _ _ _ => ⟨rfl, rfl⟩
theorem ScF.at {sc : Scope} (h : ScF sc) (env : Env) : (relabel sc env).names.lookup (Str.ofString "l") = some NameKind.local ∧ (relabel sc env).names.lookup (Str.ofString "w") = some NameKind.local := by
  have e : (relabel sc env).names = sc.names.map _ := rfl
  rw [e, h.nm]; exact ⟨rfl, rfl⟩

theorem list_one {h : Heap} {a : Addr} {xs ys : Array Value} (p : h.IsList a xs) (q : h.IsList a ys) : xs = ys := by
  obtain ⟨o1, g1, _, n1, d1⟩ := p
  obtain ⟨o2, g2, _, n2, d2⟩ := q
  rw [g1] at g2; cases g2
  rw [d1] at d2; cases d2
  rfl

/-- the rows of a list of lists, as values -/
theorem RLst.vals {h : Heap} {W : Addr} {rows : List (List Int)} (x : RLst h W rows) : ∃ (as : List Addr) (vss : List (List Value)), h.IsList W (List.map Value.ref as).toArray ∧ as.length = vss.length ∧ (∀ (i : Nat) a vs, as[i]? = some a → vss[i]? = some vs → h.IsList a (List.toArray vs)) ∧ IntsAre vss.flatten rows.flatten := by
  obtain ⟨as, hW, hlen, hrows⟩ := x
  have key : ∀ (as : List Addr) (rows : List (List Int)), as.length = rows.length → (∀ (j : Nat) a row, as[j]? = some a → rows[j]? = some row → ILst h a row) → ∃ vss : List (List Value), as.length = vss.length ∧ (∀ (i : Nat) a vs, as[i]? = some a → vss[i]? = some vs → h.IsList a (List.toArray vs)) ∧ IntsAre vss.flatten rows.flatten := by
    intro as
    induction as with
    | nil => intro rows hl _; cases rows with
      | nil => exact ⟨[], rfl, fun i a vs e => by simp at e, .nil⟩
      | cons r rs => simp at hl
    | cons a as ih =>
      intro rows hl hr
      cases rows with
      | nil => simp at hl
      | cons r rs =>
        obtain ⟨vs, h1, h2⟩ := (hr 0 a r rfl rfl).lst
        obtain ⟨vss, a1, a2, a3⟩ := ih rs (by simpa using hl) fun j a row e1 e2 => hr (j + 1) a row (by simpa using e1) (by simpa using e2)
        refine ⟨vs :: vss, by simp [a1], fun i a' vs' e1 e2 => ?_, by simpa using h2.append a3⟩
        cases i with
        | zero => simp at e1 e2; subst e1 e2; exact h1
        | succ i => exact a2 i a' vs' (by simpa using e1) (by simpa using e2)
  obtain ⟨vss, a1, a2, a3⟩ := key as rows hlen hrows
  exact ⟨as, vss, hW, a1, a2, a3⟩

section
variable {prog : Program} {w : World} {A : Around} {E : Value → Shared → Prop} {s : Shared} {h₁ : Heap} {L f : Addr} {cd : Value} {m : Str → Option Value} {vR vD vC vW vM : Option Value}

abbrev rowsOf (c : Int) (ns : List Int) (ps : List (Int × Int)) : List (List Int) := ns.map fun v => ps.map (wOf c v)

theorem ev_weights {sc si : Scope} {D l : Addr} {q1 q2 q3 q4 q5 q6 q7 q8 q9 q10 q11 q12 q13 r1 r2 r3 r4 r5 r6 : Pos} {k1 k2 : Nat} {ps : List (Int × Int)} {ns : List Int} {c : Int} {t : Tok} {Q : Value → Shared → Prop} (H : ScO sc) (I : ScN si) (hh : A.handled = none)
    (F : Fm h₁ L m vR (some (.ref D)) (some (.int c t)) vW vM s.heap) (B : Base h₁ L) (hl : PLst s.heap D ps) (hvt : m "votes" = some (.ref l)) (hns : ILst s.heap l ns) (hn : ns.length ≤ 3)
    (hsz : ps.length ≤ 100) (hps : ∀ p ∈ ps, 0 < p.1 ∧ p.1 < 1000 ∧ Builtin.Int.intBits p.2 ≤ 64) (hv : ∀ v ∈ ns, Builtin.Int.intBits v ≤ 2 ^ 21) (hc : Builtin.Int.intBits c ≤ 2 ^ 22)
    (h : ∀ h' tk W, (∀ b o, s.heap.get? b = some o → h'.get? b = some o) → RLst h' W (rowsOf c ns ps) → Q (.ref W) { s with heap := h', toks := tk }) :
    wpAny (model prog w) A (eval (.ListComp (.ListComp (wElt q1 q2 q3 q4 q5 q6 q7 q8 q9 q10 q11 q12 q13 k1 k2) [⟨.Name "d" r1, .Name "divisors" r2, [], 0⟩] si r3) [⟨.Name "p" r4, .Name "votes" r5, [], 0⟩] sc r6) (dEnv L f cd)) Q E s := by
  obtain ⟨vs, hls, hI⟩ := hns.lst
  have hlen := hI.length
  refine comp_list true (isRow fun i => ps.map (wOf c (ns.getD i 0))) hh H.clos H.kd H.names H.cells H.at ?_
  refine nmL F hvt ⟨l, vs.toArray, rfl, hls, by rw [sizeLine_eq, List.size_toArray]; lia, fun C i v s₃ E' hC hi hb hk => ?_, fun D' h' tk ys hD hpl hys hF hk => ?_⟩
  · have hiv : vs[i]? = some v := by simpa using hi
    obtain ⟨x, tx, rfl, ex⟩ := hI.at i v hiv
    have hgd : ns.getD i 0 = x := by rw [List.getD_eq_getElem?_getD, ex]; rfl
    refine ev_row (t' := tx) H I hh (F.grow hk) B (hl.keep (SK.grow hk)) hb hsz hps (hv x (List.mem_of_getElem? ex)) hc fun h' tk T ys hT hk' hpl hys => ?_
    obtain ⟨n, g⟩ := hpl
    refine ⟨⟨_, ⟨ys, n, rfl, by dsimp only; rw [hgd]; exact hys⟩, fun o e => ⟨T, rfl, hT, by cases e; exact g⟩⟩, h', tk, rfl, hk'⟩
  · refine h h' tk D' hk ?_
    have := rlst_of (g := fun i => ps.map (wOf c (ns.getD i 0))) (P := fun _ _ => True) (n := ns.length) hpl (by rw [hys, List.size_toArray]; lia) fun j hj => by
      obtain ⟨y, xo, a, b, c⟩ := hF j (vs[j]'(by lia)) (by simp [show j < vs.length from by lia])
      exact ⟨_, y, xo, trivial, a, b, c⟩
    have e1 : (List.range ns.length).map (fun i => ps.map (wOf c (ns.getD i 0))) = rowsOf c ns ps := by
      refine List.ext_getElem (by simp) fun i h1 h2 => ?_
      simp only [List.length_map] at h2
      simp [List.getD_eq_getElem?_getD, List.getElem?_eq_getElem h2]
    rwa [e1] at this

theorem ev_flat {sc : Scope} {W : Addr} {q0 q1 q2 q3 q4 q5 q6 q7 : Pos} {rows : List (List Int)} {Q : Value → Shared → Prop} (H : ScF sc) (hh : A.handled = none)
    (F : Fm h₁ L m vR vD vC (some (.ref W)) vM s.heap) (B : Base h₁ L) (hl : RLst s.heap W rows) (hsz : rows.flatten.length < 128)
    (h : ∀ h' tk S so, (∀ b o, s.heap.get? b = some o → h'.get? b = some o) → ILst h' S so → so.Perm rows.flatten → so.Pairwise (· ≤ ·) → Q (.ref S) { s with heap := h', toks := tk }) :
    wpAny (model prog w) A (eval (.Call (.Name "sorted" q0) [.ListComp (.Name "w" q1) [⟨.Name "l" q2, .Name "weights" q3, [], 0⟩, ⟨.Name "w" q4, .Name "l" q5, [], 0⟩] sc q6] [] q7) (dEnv L f cd)) Q E s := by
  obtain ⟨as, vss, a1, a2, a3, a4⟩ := hl.vals
  have hlen := a4.length
  refine callB1 (F.gb B).sorted (dEnv_ok L f cd) rfl (comp_flat hh (H.clos _) H.kd H.names H.cells (H.at _).1 (H.at _).2 (by decide) (by decide) ?_)
  refine nmC F.w ⟨W, as, vss, rfl, a1, a2, a3, by rw [sizeLine_eq]; lia, fun D h' tk hD hpl hk => ?_⟩
  refine sorted_big hpl.isList a4 (by lia) fun out ns' b1 b2 b3 => ?_
  obtain ⟨e, g⟩ := sortedAll_at h' vss.flatten out
  refine h _ tk _ ns' (fun b o q => sortedAll_old (hk b o q)) ⟨out.toList, by rw [Array.toArray_toList]; exact ⟨_, g⟩, b1⟩ b2 b3

/-- minweight = flatweights[-seats + sum(representatives)] -/
theorem ev_min {S D : Addr} {q1 q2 q3 q4 q5 q6 q7 q8 : Pos} {so rs : List Int} {k sts : Nat} {tn : Tok} {Q : Value → Shared → Prop} (hh : A.handled = none)
    (F : Fm h₁ L m (some (.ref D)) vD vC vW vM s.heap) (B : Base h₁ L) (hf : m "flatweights" = some (.ref S)) (hse : m "seats" = some (.int (sts : Int) tn)) (hS : ILst s.heap S so) (hD : ILst s.heap D rs)
    (hk : (sts : Int) - rs.sum = (k : Int)) (h1 : 1 ≤ k) (h2 : k ≤ so.length) (hlt : so.length < 1000)
    (h : ∀ h' tk t', (∀ b o, s.heap.get? b = some o → h'.get? b = some o) → Q (.int (so.getD (so.length - k) 0) t') { s with heap := h', toks := tk }) :
    wpAny (model prog w) A (eval (.Subscript (.Name "flatweights" q1) (.BinOp (.UnaryOp .USub (.Name "seats" q2) q3) .Add (.Call (.Name "sum" q4) [.Name "representatives" q5] [] q6) q7) q8) (dEnv L f cd)) Q E s := by
  refine Subscript_ (nmL F hf (wpAny_BinOp (wpAny_UnaryOp (nmL F hse (P.neg_int (callB1 (F.gb B).sum (dEnv_ok L f cd) rfl (nmC F.r (sum_base hh hD fun h' tk t' hk' => P.add_int ?_))))))))
  obtain ⟨vs, hls, hI⟩ := hS.lst
  have hlen := hI.length
  have e1 : -(sts : Int) + rs.sum = -(k : Int) := by lia
  rw [e1]
  obtain ⟨t2, hx⟩ := ints_ex hI (show so.length - k < so.length by lia)
  have hl' : h'.IsList S vs.toArray := hls.at fun o e => hk' _ o e
  refine tail_any (ops := [.ref S, .int (-(k : Int)) tk]) (s := { s with heap := h', toks := tk + 1 }) hl'.typeIs slot_list_getitem.lookup (wpAny_getItem_list_neg hl' (by lia) (by rw [List.size_toArray]; lia) (by lia) (x := .int (so.getD (so.length - k) 0) t2) ?_ (h h' _ t2 hk')) (by with_unfolding_all rfl)
  have e2 : (-(k : Int) + (vs.toArray.size : Nat)).toNat = so.length - k := by rw [List.size_toArray]; lia
  rw [e2]; simpa using hx
end
end Mine
end

-- part DJ
section
open PySem PySem.W PyProof.Rows
set_option maxRecDepth 100000
namespace Mine

structure ScR (sc : Scope) : Prop where
  kd : sc.kind = .function
  nm : sc.names = [(Str.ofString ".0", .local), (Str.ofString "i", .local), (Str.ofString "len", .globalImplicit), (Str.ofString "minweight", .free), (Str.ofString "representatives", .free), (Str.ofString "weights", .free)]
def clR (L : Addr) : List (Str × Addr) := [(Str.ofString "weights", L + 1 + 1 + 1 + 1), (Str.ofString "representatives", L + 1), (Str.ofString "minweight", L + 1 + 1 + 1 + 1 + 1)]
abbrev rEnv (sc : Scope) (C L f : Addr) (cd : Value) : Env := compEnvC sc (cl1 false "i" C (clR L)) C (dEnv L f cd)
structure ScW (sc : Scope) : Prop where
  kd : sc.kind = .function
  nm : sc.names = [(Str.ofString ".0", .local), (Str.ofString "w", .local), (Str.ofString "minweight", .free)]
def clW (L : Addr) : List (Str × Addr) := [(Str.ofString "minweight", L + 1 + 1 + 1 + 1 + 1)]
section
variable {sc : Scope} {L f C : Addr} {cd : Value}
theorem ScR.clos (h : ScR sc) : closureFor sc (dEnv L f cd) = pure (clR L) := by unfold closureFor; rw [h.nm]; rfl
theorem ScR.names (h : ScR sc) : ∀ y ∈ sc.names, y.2 = .local → sc.names.lookup y.1 = some .local := by rw [h.nm]; decide
theorem ScR.cells (h : ScR sc) : ∀ n cl (hp : Heap), cellsFrom n sc.names cl = (if false = true then (Str.ofString "i", n) :: cl else cl) ∧ pushCells hp sc.names = if false = true then hp.push cellO else hp := by rw [h.nm]; exact fun _ _ _ => ⟨rfl, rfl⟩
theorem ScR.fn (h : ScR sc) : (rEnv sc C L f cd).scope.kind = .function := by simp [rEnv, compEnvC, relabel, h.kd]
theorem ScR.at (h : ScR sc) : (relabel sc (dEnv L f cd)).names.lookup (Str.ofString "i") = some NameKind.local := by
  have e : (relabel sc (dEnv L f cd)).names = sc.names.map _ := rfl
  rw [e, h.nm]; rfl
theorem ScR.lkg (h : ScR sc) : (rEnv sc C L f cd).kindOf "len" = some .globalImplicit := by
  have e : (rEnv sc C L f cd).kindOf "len" = (relabel sc (dEnv L f cd)).names.lookup (Str.ofString "len") := rfl
  have e2 : (relabel sc (dEnv L f cd)).names = sc.names.map _ := rfl
  rw [e, e2, h.nm]; rfl
theorem ScR.lk (h : ScR sc) {x : Str} (hx : x = "minweight" ∨ x = "representatives" ∨ x = "weights") : (rEnv sc C L f cd).kindOf x = some .cell := by
  have e : (rEnv sc C L f cd).kindOf x = (relabel sc (dEnv L f cd)).names.lookup x := rfl
  have e2 : (relabel sc (dEnv L f cd)).names = sc.names.map _ := rfl
  rw [e, e2, h.nm]
  rcases hx with rfl | rfl | rfl <;> rfl
theorem ScR.ok (h : ScR sc) : EnvOk (rEnv sc C L f cd) := ⟨h.fn, rfl, rfl⟩
theorem ScR.lki (h : ScR sc) : (rEnv sc C L f cd).kindOf "i" = some .local := h.at
variable {sw : Scope} {C' : Addr}
abbrev wEnv (sw : Scope) (C' : Addr) (sc : Scope) (C L f : Addr) (cd : Value) : Env := compEnvC sw (clW L) C' (rEnv sc C L f cd)
theorem ScW.clos (h : ScW sw) : closureFor sw (rEnv sc C L f cd) = pure (clW L) := by unfold closureFor; rw [h.nm]; rfl
theorem ScW.cell (h : ScW sw) : ∀ y ∈ sw.names, y.2 ≠ .cell := by rw [h.nm]; decide
theorem ScW.names (h : ScW sw) : ∀ y ∈ sw.names, y.2 = .local → sw.names.lookup y.1 = some .local := by rw [h.nm]; decide
theorem ScW.lw (h : ScW sw) : sw.names.lookup (Str.ofString "w") = some .local := by rw [h.nm]; rfl
theorem ScW.fn (h : ScW sw) : (wEnv sw C' sc C L f cd).scope.kind = .function := by simp [wEnv, compEnvC, relabel, h.kd]
theorem ScW.lkw (h : ScW sw) : (wEnv sw C' sc C L f cd).kindOf "w" = some .local := lookup_relabel_local h.lw
theorem ScW.lk (h : ScW sw) (H : ScR sc) : (wEnv sw C' sc C L f cd).kindOf "minweight" = some .cell := by
  have e : (wEnv sw C' sc C L f cd).kindOf "minweight" = (relabel sw (rEnv sc C L f cd)).names.lookup (Str.ofString "minweight") := rfl
  have e2 : (relabel sw (rEnv sc C L f cd)).names = sw.names.map fun (n, k) => if (k == NameKind.free && (rEnv sc C L f cd).scope.kind == .function && (rEnv sc C L f cd).kindOf n == some .cell) then (n, NameKind.cell) else (n, k) := rfl
  rw [e, e2, h.nm, H.fn]
  simp only [List.map_cons, List.map_nil, H.lk (C := C) (L := L) (f := f) (cd := cd) (x := Str.ofString "minweight") (.inl rfl)]
  rfl
end

def isOver (mw : Int) : Value → Bool
  | .int x _ => decide (x > mw)
  | _ => false
theorem over_count (mw : Int) : ∀ {vs : List Value} {ns : List Int}, IntsAre vs ns → (vs.filter (isOver mw)).length = ns.countP fun w => decide (w > mw)
  | _, _, .nil => rfl
  | _, _, .cons n t h => by
    have ih := over_count mw h
    by_cases hx : n > mw
    · rw [List.filter_cons_of_pos (show isOver mw (.int n t) = true from decide_eq_true hx), List.countP_cons_of_pos (by simpa using hx), List.length_cons, ih]
    · rw [List.filter_cons_of_neg (show ¬ isOver mw (.int n t) = true from fun e => hx (of_decide_eq_true e)), List.countP_cons_of_neg (by simpa using hx), ih]
theorem Paired.len {α β : Type} {F : α → β → Prop} : ∀ {l₁ : List α} {l₂ : List β}, Paired F l₁ l₂ → l₁.length = l₂.length
  | _, _, .nil => rfl
  | _, _, .cons _ h => by simp [Paired.len h]

section
variable {prog : Program} {w : World} {A : Around} {E : Value → Shared → Prop} {s : Shared} {h₁ : Heap} {L f : Addr} {cd : Value} {m : Str → Option Value} {vR vD vC vW vM : Option Value}

/-- len([w for w in row if w > minweight]), the row given by an expression -/
theorem ev_over {sc sw : Scope} {C a : Addr} {iter : Expr} {q1 q2 q3 q4 q5 q6 : Pos} {row : List Int} {mw : Int} {tm : Tok} {Q : Value → Shared → Prop} (H : ScR sc) (K : ScW sw) (hh : A.handled = none)
    (h : wpAny (model prog w) A (eval iter (rEnv sc C L f cd)) (fun xv s₁ => xv = .ref a ∧ Fm h₁ L m vR vD vC vW (some (.int mw tm)) s₁.heap ∧ ILst s₁.heap a row ∧ row.length ≤ 1000 ∧
      ∀ h' tk D ys, s₁.heap.get? D = none → (∀ b o, s₁.heap.get? b = some o → h'.get? b = some o) → h'.IsList D ys → ys.size = row.countP (fun w => decide (w > mw)) → Q (.ref D) { s₁ with heap := h', toks := tk }) E s)
    (hs : ∀ x, foldedSetIterable iter (rEnv sc C L f cd) x = pure x) :
    wpAny (model prog w) A (eval (.ListComp (.Name "w" q1) [⟨.Name "w" q2, iter, [.Compare (.Name "w" q3) [.Gt] [.Name "minweight" q4] q5], 0⟩] sw q6) (rEnv sc C L f cd)) Q E s := by
  refine wpAny_ListComp_free (isOver mw) (fun v y => y = v) K.clos K.cell K.kd K.names K.lw (wpAny_mono h (fun xv s₁ h₁ => ?_) fun _ _ e => e) hs
  obtain ⟨rfl, F, hrow, hsz, hQ⟩ := h₁
  obtain ⟨vs, hl, hI⟩ := hrow.lst
  have hlen := hI.length
  have hlt : a < s₁.heap.objs.size := by obtain ⟨_, e, _⟩ := hl; exact Heap.lt_size e
  have up : ∀ (h₃ : Heap), (∀ b o, b ∉ [s₁.heap.objs.size] → (s₁.heap.push { cls := .type "list_iterator", data := .fields #[.ref a, .int 0 0] }).get? b = some o → h₃.get? b = some o) → ∀ b o, s₁.heap.get? b = some o → h₃.get? b = some o :=
    fun h₃ hk b o e => hk b o (fun hm => Nat.lt_irrefl _ (List.mem_singleton.mp hm ▸ Heap.lt_size e)) (Heap.get?_push_of_some _ e)
  refine wpAny_pyIter_list hl ⟨s₁.heap.objs.size, [s₁.heap.objs.size, a], [s₁.heap.objs.size], vs.toArray.size, _, _, rfl, Walks.list hh _ _ (Nat.ne_of_lt hlt) vs.toArray, by rw [sizeLine_eq, List.size_toArray]; lia, ⟨⟨_, Heap.get?_push_size _ rfl, rfl, rfl⟩, hl.push _⟩, ?_, ⟨?_, ?_⟩, ?_⟩
  · intro b hb
    show b < (s₁.heap.push _).objs.size
    rw [Heap.size_push]
    rcases List.mem_cons.mp hb with rfl | hb
    · exact Nat.lt_succ_self _
    · rw [List.mem_singleton.mp hb]; exact Nat.lt_succ_of_lt hlt
  · intro C' i v s₃ m₃ E' hC hP hn hm hk _
    obtain ⟨x, t, rfl, _⟩ := hI.at i v (by simpa using hP)
    refine wpAny_tests_one (wpAny_isTrue_Compare1 (wpAny_Name (wpAny_loadName_local K.fn K.lkw hn hm ?_) (by decide)))
    refine wpAny_Name (wpAny_loadName_cell K.fn (K.lk H) (by rfl) (F.mw.keeps (up _ hk)) (P.gt_int (wpAny_truthy_bool ⟨rfl, _, _, rfl, fun _ _ e => e⟩))) (by decide)
  · intro C' i v s₃ m₃ E' hC hP hpv hn hm hk _
    exact wpAny_Name (wpAny_loadName_local K.fn K.lkw hn hm ⟨rfl, _, _, rfl, fun _ _ e => e⟩) (by decide)
  · intro D h' tk ys vs' hD hl' hpl hvl hP hF hk
    have hD' : s₁.heap.get? D = none := by
      cases e : s₁.heap.get? D with
      | none => rfl
      | some o' => rw [Heap.get?_push_of_some _ e] at hD; cases hD
    refine hQ h' tk D ys hD' (up _ hk) hl' ?_
    have e1 : vs' = vs := by
      refine List.ext_getElem (by simpa using hvl) fun j h1 h2 => ?_
      have := hP j vs'[j] (List.getElem?_eq_getElem h1)
      simpa [List.getElem?_eq_getElem h2] using this.symm
    rw [← over_count mw hI, ← e1, Paired.len hF, Array.length_toList]

theorem ev_reps {sc sw : Scope} {D W l : Addr} {q1 q2 q3 q4 q5 q6 q7 q8 q9 q10 q11 q12 q13 q14 q15 q16 q17 q18 q19 q20 q21 q22 : Pos} {rows : List (List Int)} {rs ns : List Int} {mw : Int} {tm : Tok} {Q : Value → Shared → Prop} (H : ScR sc) (K : ScW sw) (hh : A.handled = none)
    (F : Fm h₁ L m (some (.ref D)) vD vC (some (.ref W)) (some (.int mw tm)) s.heap) (B : Base h₁ L) (hvt : m "votes" = some (.ref l)) (hns : ILst s.heap l ns) (hR : ILst s.heap D rs) (hW : RLst s.heap W rows)
    (hn : ns.length ≤ 3) (hrs : rs.length = ns.length) (hrows : rows.length = ns.length) (hrl : ∀ r ∈ rows, r.length ≤ 1000)
    (h : ∀ h' tk D', (∀ b o, s.heap.get? b = some o → h'.get? b = some o) → s.heap.get? D' = none → ILst h' D' ((List.range ns.length).map fun i => rs.getD i 0 + (gOf rows mw i : Int)) → Q (.ref D') { s with heap := h', toks := tk }) :
    wpAny (model prog w) A (eval (.ListComp (.BinOp (.Subscript (.Name "representatives" q1) (.Name "i" q2) q3) .Add (.Call (.Name "len" q4) [.ListComp (.Name "w" q5) [⟨.Name "w" q6, .Subscript (.Name "weights" q7) (.Name "i" q8) q9, [.Compare (.Name "w" q10) [.Gt] [.Name "minweight" q11] q12], 0⟩] sw q13] [] q14) q15)
      [⟨.Name "i" q16, .Call (.Name "range" q17) [.Call (.Name "len" q18) [.Name "votes" q19] [] q20] [] q21, [], 0⟩] sc q22) (dEnv L f cd)) Q E s := by
  refine comp_range false (isInt' fun i => rs.getD i 0 + (gOf rows mw i : Int)) hh H.clos H.kd H.names H.cells H.at ?_
  refine callT1 (F.gb B).range (dEnv_ok L f cd) rfl (callB1 (F.gb B).len (dEnv_ok L f cd) rfl (nmL F hvt (len_base hns (by lia) (call_range_1 ?_))))
  refine ⟨_, 0, ns.length, _, _, _, ns.length, rfl, IsRange.new .., range_small (by lia) (by lia), range_size, by rw [sizeLine_eq]; lia, fun C i tk s₃ E' hC hi hb hk => ?_, fun D' h' tk ys hD hpl hys hF hk => ?_⟩
  · have k1 : ∀ b o, s.heap.get? b = some o → s₃.heap.get? b = some o := fun b o e => hk b o (Heap.get?_push_of_some _ e)
    obtain ⟨mi, hni, hmi⟩ := hb
    have F3 := F.grow k1
    obtain ⟨vr, hvr, hIr⟩ := (hR.keep (SK.grow k1)).lst
    obtain ⟨t2, hxr⟩ := ints_ex hIr (show i < rs.length by lia)
    obtain ⟨as, hWl, hWn, hWr⟩ := hW.keep (SK.grow k1)
    obtain ⟨a, ha⟩ : ∃ a, as[i]? = some a := ⟨_, List.getElem?_eq_getElem (show i < as.length by lia)⟩
    obtain ⟨row, hrow⟩ : ∃ r, rows[i]? = some r := ⟨_, List.getElem?_eq_getElem (show i < rows.length by lia)⟩
    have hgr : rows.getD i [] = row := by rw [List.getD_eq_getElem?_getD, hrow]; rfl
    have hra := hWr i a row ha hrow
    have e0 : (0 : Int) + (i : Int) = (i : Int) := Int.zero_add _
    rw [e0] at hmi
    refine wpAny_BinOp (Subscript_ (wpAny_Name (wpAny_loadName_cell H.fn (H.lk (.inr (.inl rfl))) (by rfl) F3.r ?_) (by decide)))
    refine wpAny_Name (wpAny_loadName_local H.fn H.lki hni hmi ?_) (by decide)
    refine item_listL hvr (x := .int (rs.getD i 0) t2) (by lia) (by lia) (by rw [Int.toNat_natCast]; exact hxr) ?_
    refine callB1 (F3.gb B).len H.ok H.lkg (ev_over (h₁ := h₁) (m := m) (vR := some (.ref D)) (vD := vD) (vC := vC) (vW := some (.ref W)) (mw := mw) (tm := tm) (row := row) (a := a) H K hh ?_ (by intro _; rfl))
    refine Subscript_ (wpAny_Name (wpAny_loadName_cell H.fn (H.lk (.inr (.inr rfl))) (by rfl) F3.w ?_) (by decide))
    refine wpAny_Name (wpAny_loadName_local H.fn H.lki hni hmi ?_) (by decide)
    refine item_listL hWl (x := .ref a) (by lia) (by lia) (by simp [ha]) ⟨rfl, F3, hra, hrl row (List.mem_of_getElem? hrow), fun h' tk' T ys hT hk' hl' hsz => ?_⟩
    have hcle : row.countP (fun w => decide (w > mw)) ≤ 1000 := Nat.le_trans List.countP_le_length (hrl row (List.mem_of_getElem? hrow))
    refine Calls.call_len_list hl' (by lia) (P.add_int ?_)
    have e : rs.getD i 0 + ((ys.size : Nat) : Int) = rs.getD i 0 + (gOf rows mw i : Int) := by rw [hsz, gOf, hgr]
    exact mk_val (s₃ := s₃) (h' := h') ⟨_, congrArg (fun x => Value.int x _) e, rfl⟩ hk'
  · dsimp only at hD
    refine h h' tk D' (fun b o e => hk b o (Heap.get?_push_of_some _ e)) ?_ (ilst_of (P := fun _ _ => True) hpl hys fun j hj => by
      obtain ⟨t, y, xo, a, b, _⟩ := hF j hj
      exact ⟨_, y, xo, trivial, a, b⟩)
    cases e : s.heap.get? D' with
    | none => rfl
    | some o' => rw [Heap.get?_push_of_some _ e] at hD; cases hD
end
end Mine
end

-- part DK
section
open PySem PySem.W PyProof.Rows
set_option maxRecDepth 100000
namespace Mine

theorem Fm.upd2 {h₁ h h' h0 : Heap} {L D : Addr} {m m0 : Str → Option Value} {vR vD vC vW vM uR uD uC uW uM : Option Value} (F : Fm h₁ L m vR vD vC vW vM h) (F0 : Fm h₁ L m0 uR uD uC uW uM h0) (hD : h0.get? D = none) (k : ∀ b o, b ≠ D → h.get? b = some o → h'.get? b = some o) : Fm h₁ L m vR vD vC vW vM h' := by
  have ne : ∀ b o, h0.get? b = some o → b ≠ D := fun b o e q => by subst q; rw [hD] at e; cases e
  exact ⟨F.ns.at' fun o e => k _ o (let ⟨o', _, _, a, _⟩ := F0.ns; ne _ o' a) e,
    let ⟨o, a, b⟩ := F.r; ⟨o, k _ o (let ⟨o', a', _⟩ := F0.r; ne _ o' a') a, b⟩,
    let ⟨o, a, b⟩ := F.d; ⟨o, k _ o (let ⟨o', a', _⟩ := F0.d; ne _ o' a') a, b⟩,
    let ⟨o, a, b⟩ := F.c; ⟨o, k _ o (let ⟨o', a', _⟩ := F0.c; ne _ o' a') a, b⟩,
    let ⟨o, a, b⟩ := F.w; ⟨o, k _ o (let ⟨o', a', _⟩ := F0.w; ne _ o' a') a, b⟩,
    let ⟨o, a, b⟩ := F.mw; ⟨o, k _ o (let ⟨o', a', _⟩ := F0.mw; ne _ o' a') a, b⟩,
    fun b o l e => k b o (ne b o (F0.kp b o l e)) (F.kp b o l e)⟩

theorem ints_set : ∀ {vs : List Value} {ns : List Int} (i : Nat) (x : Int) (t : Tok), IntsAre vs ns → IntsAre (vs.set i (.int x t)) (ns.set i x)
  | _, _, _, _, _, .nil => .nil
  | _, _, 0, x, t, .cons _ _ h => .cons x t h
  | _, _, i + 1, x, t, .cons n u h => .cons n u (ints_set i x t h)

section
variable {prog : Program} {w : World} {A : Around} {E : Value → Shared → Prop} {s : Shared} {h₁ : Heap} {L f : Addr} {cd : Value} {m : Str → Option Value} {vR vD vC vW vM : Option Value}

/-- minweight in weights[i] -/
theorem tst_in {W : Addr} {q1 q2 q3 q4 q5 : Pos} {whole : Sem Value} {rows : List (List Int)} {mw : Int} {tm ti : Tok} {i : Nat} {Q : Bool → Shared → Prop}
    (F : Fm h₁ L m vR vD vC (some (.ref W)) (some (.int mw tm)) s.heap) (hW : RLst s.heap W rows) (hi : i < rows.length) (hlt : rows.length ≤ 100) (hmi : m "i" = some (.int (i : Int) ti)) (h : Q (hOf rows mw i) s) :
    wpAny (model prog w) A (isTrue (.Compare (.Name "minweight" q1) [.In] [.Subscript (.Name "weights" q2) (.Name "i" q3) q4] q5) (dEnv L f cd) whole) Q E s := by
  obtain ⟨as, hWl, hWn, hWr⟩ := hW
  obtain ⟨a, ha⟩ : ∃ a, as[i]? = some a := ⟨_, List.getElem?_eq_getElem (show i < as.length by lia)⟩
  obtain ⟨row, hrow⟩ : ∃ r, rows[i]? = some r := ⟨_, List.getElem?_eq_getElem hi⟩
  have hgr : rows.getD i [] = row := by rw [List.getD_eq_getElem?_getD, hrow]; rfl
  obtain ⟨vs, hl, hI⟩ := (hWr i a row ha hrow).lst
  refine wpAny_isTrue_Compare1 (nmC F.mw (Subscript_ (nmC F.w (nmL F hmi ?_))))
  refine item_listL hWl (x := .ref a) (by lia) (by lia) (by simp [ha]) ?_
  refine in_list_ints hl hI (wpAny_truthy_bool ?_)
  have e : (row.any fun x => x == mw) = hOf rows mw i := by
    rw [hOf, hgr]
    rw [Bool.eq_iff_iff]
    simp [List.any_eq_true, List.contains_iff_mem]
  rwa [e]

/-- sum(representatives) against seats -/
theorem tst_sum {op : CmpOp} {D : Addr} {q1 q2 q3 q4 q5 : Pos} {whole : Sem Value} {rs : List Int} {st : Int} {ts : Tok} {Q : Bool → Shared → Prop} (hh : A.handled = none)
    (F : Fm h₁ L m (some (.ref D)) vD vC vW vM s.heap) (B : Base h₁ L) (hD : ILst s.heap D rs) (hse : m "seats" = some (.int st ts))
    (h : ∀ h' tk t, (∀ b o, s.heap.get? b = some o → h'.get? b = some o) → wpAny (model prog w) A (compareOp op (.int rs.sum t) (.int st ts)) (fun c s₃ => wpAny (model prog w) A (truthy c) Q E s₃) E { s with heap := h', toks := tk })
    (hm : behindInMarks op (.Name "seats" q4) = false := by with_unfolding_all rfl) :
    wpAny (model prog w) A (isTrue (.Compare (.Call (.Name "sum" q1) [.Name "representatives" q2] [] q3) [op] [.Name "seats" q4] q5) (dEnv L f cd) whole) Q E s := by
  refine wpAny_isTrue_Compare1 (callB1 (F.gb B).sum (dEnv_ok L f cd) rfl (nmC F.r (sum_base hh hD fun h' tk t hk => ?_))) hm
  exact nmL (s := { s with heap := h', toks := tk }) (F.grow hk) hse (h h' tk t hk)

variable {D W : Addr} {b : Int} {g : Nat → Nat} {rows : List (List Int)} {mw : Int} {tm : Tok} {q n : Nat} {st : Int}

/-- the loop's second half -/
theorem st_served {h0 : Heap} {m0 : Str → Option Value} {uR uD uC uW uM : Option Value} {i : Nat} {ts ti : Tok} {q1 q2 q3 q4 q5 q6 q7 q8 q9 q10 q11 q12 q13 q14 q15 q16 q17 : Pos} {k1 : Nat} {Q : Flow → Shared → Prop} (hh : A.handled = none) (B : Base h₁ L)
    (F : Fm h₁ L m (some (.ref D)) vD vC (some (.ref W)) (some (.int mw tm)) s.heap) (F0 : Fm h₁ L m0 uR uD uC uW uM h0) (hD0 : h0.get? D = none) (hW0 : RLst h0 W rows) (K0 : SK h0 s.heap) (hD : ILst s.heap D (repAt b g (hOf rows mw) q i n))
    (hrn : rows.length = n) (hi : i < n) (hn : n ≤ 3) (hst : st = b * n + sumN g n + q) (hse : m "seats" = some (.int st ts)) (hmi : m "i" = some (.int (i : Int) ti))
    (h : ∀ h' tk, (∀ b o, b ≠ D → s.heap.get? b = some o → h'.get? b = some o) → Fm h₁ L m (some (.ref D)) vD vC (some (.ref W)) (some (.int mw tm)) h' → SK h0 h' → ILst h' D (repAt b g (hOf rows mw) q (i + 1) n) → Q .next { s with heap := h', toks := tk }) :
    wpAny (model prog w) A (exec (.If (.BoolOp .And [.Compare (.Call (.Name "sum" q1) [.Name "representatives" q2] [] q3) [.Lt] [.Name "seats" q4] q5, .Compare (.Name "minweight" q6) [.In] [.Subscript (.Name "weights" q7) (.Name "i" q8) q9] q10] q11)
      [.AugAssign (.Subscript (.Name "representatives" q12) (.Name "i" q13) q14) .Add (.Constant (.int 1) k1 q15) q16] [] q17) (dEnv L f cd)) Q E s := by
  refine wpAny_If (wpAny_isTrue_BoolOp (wpAny_allTrue_And_cons (tst_sum hh F B hD hse fun h' tk t hk => P.lt_int (wpAny_truthy_bool ?_))))
  have F1 := F.grow hk
  have K1 : SK h0 h' := K0.trans (SK.grow hk)
  have hsum : ((repAt b g (hOf rows mw) q i n).sum < st) ↔ cntH (hOf rows mw) i < q := by
    rw [repAt_sum, hst, show min i n = i by lia]; lia
  by_cases hc : cntH (hOf rows mw) i < q
  · rw [if_pos (by simpa using hsum.mpr hc)]
    refine wpAny_allTrue_And_cons (tst_in (s := { s with heap := h', toks := tk }) F1 (hW0.keep K1) (by lia) (by lia) hmi ?_)
    by_cases hb : hOf rows mw i = true
    · rw [if_pos hb]
      refine wpAny_allTrue_And_nil ?_
      rw [if_pos rfl]
      obtain ⟨vs, ⟨nd, ho⟩, hI⟩ := hD.keep (SK.grow hk)
      have hl : h'.IsList D vs.toArray := ⟨_, ho, rfl, _, rfl⟩
      have hlen := hI.length
      rw [repAt_length] at hlen
      obtain ⟨t2, hx⟩ := ints_ex hI (show i < (repAt b g (hOf rows mw) q i n).length by rw [repAt_length]; exact hi)
      refine wpAny_execs_cons (wpAny_AugAssign_SubscriptAny (nmC F1.r (nmL F1 hmi ?_)))
      refine wpAny_getItem_list hl (x := .int ((repAt b g (hOf rows mw) q i n).getD i 0) t2) (by lia) (by lia) (by rw [Int.toNat_natCast]; simpa using hx) ?_
      refine wpAny_Constant_int (P.iadd_int ?_)
      refine ki_setAt ho (by lia) (by lia) (by rw [List.size_toArray]; lia) (wpAny_execs_nil ?_)
      have hs₂ : Heap.SameBut D h' (h'.update D (Obj.mapSeq (·.setIfInBounds (i : Int).toNat (.int ((repAt b g (hOf rows mw) q i n).getD i 0 + 1) (tk + 1))))) := Heap.SameBut.update ..
      refine h _ _ (fun b o ne e => hs₂.extBut b o ne (hk b o e)) (F1.upd2 F0 hD0 hs₂.extBut) (fun b o e p => hs₂.extBut b o (fun q => by subst q; rw [hD0] at e; cases e) (K1 b o e p)) ?_
      rw [← repAt_served hi hb hc]
      have hup := PySem.IsL.update ho (fun xs => xs.setIfInBounds (i : Int).toNat (.int ((repAt b g (hOf rows mw) q i n).getD i 0 + 1) (tk + 1)))
      rw [show vs.toArray.setIfInBounds (i : Int).toNat (Value.int ((repAt b g (hOf rows mw) q i n).getD i 0 + 1) (tk + 1)) = (vs.set i (Value.int ((repAt b g (hOf rows mw) q i n).getD i 0 + 1) (tk + 1))).toArray by rw [Int.toNat_natCast, List.setIfInBounds_toArray]] at hup
      exact ⟨_, ⟨_, hup⟩, ints_set i _ (tk + 1) hI⟩
    · rw [if_neg hb]
      rw [if_neg (by simp)]
      refine wpAny_execs_nil (h h' tk (fun b o _ e => hk b o e) F1 K1 ?_)
      rw [← repAt_passed (fun c => hb c.1)]
      exact hD.keep (SK.grow hk)
  · rw [if_neg (by simpa using fun x => hc (hsum.mp x))]
    rw [if_neg (by simpa using fun x => hc (hsum.mp x))]
    refine wpAny_execs_nil (h h' tk (fun b o _ e => hk b o e) F1 K1 ?_)
    rw [← repAt_passed (fun c => hc c.2)]
    exact hD.keep (SK.grow hk)
end
end Mine
end

-- part DL
section
open PySem PySem.W PyProof.Rows
set_option maxRecDepth 100000
namespace Mine
section
variable {prog : Program} {w : World} {A : Around} {E : Value → Shared → Prop} {s : Shared} {h₁ : Heap} {L f : Addr} {cd : Value} {m : Str → Option Value} {vR vD vC vW vM : Option Value}
variable {D W : Addr} {b : Int} {g : Nat → Nat} {rows : List (List Int)} {mw : Int} {tm : Tok} {q n : Nat} {st : Int}

/-- the loop's first half -/
theorem st_first {h0 : Heap} {i : Nat} {ts ti : Tok} {tt al : Bool} {q1 q2 q3 q4 q5 q6 q7 q8 q9 q10 q11 q12 q13 q14 q15 q16 q17 q18 q19 q20 q21 : Pos} {k1 : Nat} {raise : Stmt} {Q : Flow → Shared → Prop} (hh : A.handled = none) (B : Base h₁ L)
    (F : Fm h₁ L m (some (.ref D)) vD vC (some (.ref W)) (some (.int mw tm)) s.heap) (hW0 : RLst h0 W rows) (K0 : SK h0 s.heap) (hD : ILst s.heap D (repAt b g (hOf rows mw) q i n))
    (hrn : rows.length = n) (hi : i < n) (hn : n ≤ 3) (hst : st = b * n + sumN g n + q) (hse : m "seats" = some (.int st ts)) (hmi : m "i" = some (.int (i : Int) ti)) (htt : m "ties" = some (.bool tt)) (hal : m "tiesallowed" = some (.bool al))
    (hE : al = false → tt = false → q ≤ cntH (hOf rows mw) i → hOf rows mw i = true → ∀ h' tk, (∀ b o, s.heap.get? b = some o → h'.get? b = some o) → wpAny (model prog w) A (exec raise (dEnv L f cd)) (fun _ _ => False) E { s with heap := h', toks := tk })
    (h : ∀ h' tk m', (∀ y, y ≠ ("ties" : Str) → m' y = m y) → m' "ties" = some (.bool (tt || (hOf rows mw i && decide (q ≤ cntH (hOf rows mw) i)))) → (al = false → (hOf rows mw i && decide (q ≤ cntH (hOf rows mw) i)) = true → tt = true) →
      Fm h₁ L m' (some (.ref D)) vD vC (some (.ref W)) (some (.int mw tm)) h' → SK s.heap h' → (∀ b o, b ≠ L → s.heap.get? b = some o → h'.get? b = some o) → Q .next { s with heap := h', toks := tk }) :
    wpAny (model prog w) A (exec (.If (.BoolOp .And [.Compare (.Call (.Name "sum" q1) [.Name "representatives" q2] [] q3) [.Eq] [.Name "seats" q4] q5, .Compare (.Name "minweight" q6) [.In] [.Subscript (.Name "weights" q7) (.Name "i" q8) q9] q10] q11)
      [.If (.UnaryOp .Not (.Name "ties" q12) q13) [.If (.UnaryOp .Not (.Name "tiesallowed" q14) q15) [raise] [] q16, .Assign [.Name "ties" q17] (.Constant (.bool true) k1 q18) q19] [] q20] [] q21) (dEnv L f cd)) Q E s := by
  refine wpAny_If (wpAny_isTrue_BoolOp (wpAny_allTrue_And_cons (tst_sum hh F B hD hse fun h' tk t hk => P.eq_int (wpAny_truthy_bool ?_))))
  have F1 := F.grow hk
  have hsum : ((repAt b g (hOf rows mw) q i n).sum = st) ↔ q ≤ cntH (hOf rows mw) i := by
    rw [repAt_sum, hst, show min i n = i by lia]; lia
  by_cases hc : q ≤ cntH (hOf rows mw) i
  · rw [if_pos (by simpa using hsum.mpr hc)]
    refine wpAny_allTrue_And_cons (tst_in (s := { s with heap := h', toks := tk }) F1 (hW0.keep (K0.trans (SK.grow hk))) (by lia) (by lia) hmi ?_)
    by_cases hb : hOf rows mw i = true
    · rw [if_pos hb]
      refine wpAny_allTrue_And_nil ?_
      rw [if_pos rfl]
      have tie : (hOf rows mw i && decide (q ≤ cntH (hOf rows mw) i)) = true := by rw [hb]; simpa using hc
      refine wpAny_execs_cons (wpAny_If (wpAny_isTrue_Not (wpAny_isTrue_value (nmL (s := { s with heap := h', toks := tk }) F1 htt (wpAny_truthy_bool ?_)))))
      cases tt with
      | true =>
        refine wpAny_execs_nil (wpAny_execs_nil (h h' tk m (fun _ _ => rfl) (by rw [htt]; rfl) (fun _ _ => rfl) F1 (SK.grow hk) fun b o _ e => hk b o e))
      | false =>
        refine wpAny_execs_cons (wpAny_If (wpAny_isTrue_Not (wpAny_isTrue_value (nmL (s := { s with heap := h', toks := tk }) F1 hal (wpAny_truthy_bool ?_)))))
        cases al with
        | false =>
          show wpAny _ _ (execs [raise] _) _ _ _
          exact wpAny_execs_cons (wpAny_mono (hE rfl rfl hc hb h' tk hk) (fun fl s' hf => hf.elim) fun _ _ e => e)
        | true =>
          refine wpAny_execs_nil (wpAny_execs_cons (wpAny_Assign_Name (wpAny_Constant_bool (wpAny_storeName_local rfl F1.ns (fun h₂ hn₂ hs₂ => ?_) rfl))))
          refine wpAny_execs_nil (wpAny_execs_nil (h h₂ _ _ (fun y hy => if_neg hy) ?_ (fun e => by cases e) (F1.stL hn₂ hs₂) ((SK.grow hk).trans (SK.ns F1.ns hs₂)) fun b o ne e => hs₂.extBut b o ne (hk b o e)))
          rw [tie]; exact if_pos rfl
    · rw [if_neg hb]
      rw [if_neg (by simp)]
      refine wpAny_execs_nil (h h' tk m (fun _ _ => rfl) (by rw [htt]; simp [hb]) (by simp [hb]) F1 (SK.grow hk) fun b o _ e => hk b o e)
  · rw [if_neg (by simpa using fun x => hc (hsum.mp x))]
    rw [if_neg (by simpa using fun x => hc (hsum.mp x))]
    refine wpAny_execs_nil (h h' tk m (fun _ _ => rfl) (by rw [htt]; simp [hc]) (by simp [hc]) F1 (SK.grow hk) fun b o _ e => hk b o e)
end
end Mine
end

-- part DM
section
open PySem PySem.W PyProof.Rows
set_option maxRecDepth 100000
namespace Mine
section
variable {prog : Program} {w : World} {A : Around} {E : Value → Shared → Prop} {s : Shared} {h₁ : Heap} {L f : Addr} {cd : Value} {m : Str → Option Value} {vR vD vC vW vM : Option Value}
variable {D W : Addr} {b : Int} {g : Nat → Nat} {rows : List (List Int)} {mw : Int} {tm : Tok} {q n : Nat} {st : Int}

theorem tieF_le {h : Nat → Bool} {q i n : Nat} (hi : i ≤ n) (e : tieF h q i = true) : tieF h q n = true := by
  obtain ⟨j, a, b, c⟩ := (tieF_iff h q i).mp e
  exact (tieF_iff h q n).mpr ⟨j, by lia, b, c⟩

theorem st_ties {h0 : Heap} {m0 : Str → Option Value} {uR uD uC uW uM : Option Value} {l : Addr} {ns : List Int} {ts : Tok} {al : Bool} {q1 q2 q3 q4 q5 q6 q7 q8 q9 q10 q11 q12 q13 q14 q15 q16 q17 q18 q19 q20 q21 : Pos} {k1 k2 : Nat} {raise : Stmt}
    {p1 p2 p3 p4 p5 p6 p7 p8 p9 p10 p11 p12 p13 p14 p15 p16 p17 r1 r2 r3 r4 r5 r6 r7 : Pos} {Q : Flow → Shared → Prop} (hh : A.handled = none) (B : Base h₁ L)
    (F : Fm h₁ L m (some (.ref D)) vD vC (some (.ref W)) (some (.int mw tm)) s.heap) (F0 : Fm h₁ L m0 uR uD uC uW uM h0) (hD0 : h0.get? D = none) (hW0 : RLst h0 W rows) (K0 : SK h0 s.heap) (hD : ILst s.heap D (repAt b g (hOf rows mw) q 0 n))
    (hvt : m "votes" = some (.ref l)) (hns : ILst s.heap l ns) (hnn : ns.length = n)
    (hrn : rows.length = n) (hn : n ≤ 3) (hst : st = b * n + sumN g n + q) (hse : m "seats" = some (.int st ts)) (htt : m "ties" = some (.bool false)) (hal : m "tiesallowed" = some (.bool al))
    (hE : al = false → tieF (hOf rows mw) q n = true → ∀ h' tk m', Fm h₁ L m' (some (.ref D)) vD vC (some (.ref W)) (some (.int mw tm)) h' → wpAny (model prog w) A (exec raise (dEnv L f cd)) (fun _ _ => False) (notedBy (model prog w) A (dEnv L f cd) fun e s' => cameBackBy (model prog w) A (dEnv L f cd) E e s') { s with heap := h', toks := tk })
    (h : ∀ h' tk m', (∀ y, y ≠ ("ties" : Str) → y ≠ ("i" : Str) → m' y = m y) → m' "ties" = some (.bool (tieF (hOf rows mw) q n)) → (al = false → tieF (hOf rows mw) q n = false) →
      Fm h₁ L m' (some (.ref D)) vD vC (some (.ref W)) (some (.int mw tm)) h' → SK h0 h' → ILst h' D (repAt b g (hOf rows mw) q n n) → Q .next { s with heap := h', toks := tk }) :
    wpAny (model prog w) A (exec (.For (.Name "i" r1) (.Call (.Name "range" r2) [.Call (.Name "len" r3) [.Name "votes" r4] [] r5] [] r6)
      [.If (.BoolOp .And [.Compare (.Call (.Name "sum" q1) [.Name "representatives" q2] [] q3) [.Eq] [.Name "seats" q4] q5, .Compare (.Name "minweight" q6) [.In] [.Subscript (.Name "weights" q7) (.Name "i" q8) q9] q10] q11)
        [.If (.UnaryOp .Not (.Name "ties" q12) q13) [.If (.UnaryOp .Not (.Name "tiesallowed" q14) q15) [raise] [] q16, .Assign [.Name "ties" q17] (.Constant (.bool true) k1 q18) q19] [] q20] [] q21,
       .If (.BoolOp .And [.Compare (.Call (.Name "sum" p1) [.Name "representatives" p2] [] p3) [.Lt] [.Name "seats" p4] p5, .Compare (.Name "minweight" p6) [.In] [.Subscript (.Name "weights" p7) (.Name "i" p8) p9] p10] p11)
        [.AugAssign (.Subscript (.Name "representatives" p12) (.Name "i" p13) p14) .Add (.Constant (.int 1) k2 p15) p16] [] p17] [] r7) (dEnv L f cd)) Q E s := by
  refine wpAny_For (callT1 (F.gb B).range (dEnv_ok L f cd) rfl (callB1 (F.gb B).len (dEnv_ok L f cd) rfl (nmL F hvt (len_base hns (by lia) (call_range_1 ?_)))))
  refine wpAny_pyIter_range (IsRange.new ..) (range_small (by lia) (by lia)) ?_
  rw [range_size, hnn]
  dsimp only
  generalize hH1 : s.heap.push _ = H1
  generalize hH2 : H1.push { cls := .type "range_iterator", data := .fields #[rawInt 0, rawInt (n : Int), rawInt 1] } = H2
  have k1 : ∀ b o, s.heap.get? b = some o → H2.get? b = some o := fun b o e => hH2 ▸ Heap.get?_push_of_some _ (hH1 ▸ Heap.get?_push_of_some _ e)
  have hs1 : H1.objs.size = s.heap.objs.size + 1 := by rw [← hH1, Heap.size_push]
  have hlt : L + 1 + 1 + 1 + 1 + 1 < H1.objs.size := by rw [hs1]; obtain ⟨o, e, _⟩ := F.mw; exact Nat.lt_succ_of_lt (Heap.lt_size e)
  have hDJ : D ≠ H1.objs.size := by obtain ⟨vs, ⟨o, e⟩, _⟩ := hD; rw [hs1]; exact Nat.ne_of_lt (Nat.lt_succ_of_lt (Heap.lt_size e))
  have hit0 : IsRangeIter H2 H1.objs.size 0 (n : Int) 1 := by rw [← hH2]; exact Heap.get?_push_size _ rfl
  refine codeAny_forLoop (fun k s' => ∃ (i : Nat) (h' : Heap) (tk : Nat) (m' : Str → Option Value), s' = { s with heap := h', toks := tk } ∧ (∀ y, y ≠ ("ties" : Str) → y ≠ ("i" : Str) → m' y = m y) ∧ m' "ties" = some (.bool (tieF (hOf rows mw) q i)) ∧ (al = false → tieF (hOf rows mw) q i = false) ∧
    Fm h₁ L m' (some (.ref D)) vD vC (some (.ref W)) (some (.int mw tm)) h' ∧ SK h0 h' ∧ ILst h' D (repAt b g (hOf rows mw) q i n) ∧ IsRangeIter h' H1.objs.size (i : Int) ((n : Int) - i) 1 ∧ i ≤ n ∧ k = n - i) ?_ n
    ⟨0, H2, _, m, rfl, fun _ _ _ => rfl, htt, fun _ => rfl, F.grow k1, K0.trans (SK.grow k1), hD.keep (SK.grow k1), by simpa using hit0, Nat.zero_le _, rfl⟩
  rintro k s' ⟨i, h', tk, m', rfl, hm', htt', hal', F', K', hD', hit, hi, rfl⟩
  by_cases hlast : i < n
  · refine wpAny_pyNext_range_item hit (by lia) fun h₂ hit₂ hs₂ => ?_
    have F2 := F'.upd hlt hs₂.extBut
    have S2 : SK h' h₂ := SK.riter hit hs₂.extBut
    dsimp only
    refine wpAny_assign_Name (wpAny_storeName_local rfl F2.ns (fun h₃ hn₃ hs₃ => ?_) rfl)
    dsimp only at hs₃ ⊢
    have F3 := F2.stL hn₃ hs₃
    have S3 : SK h' h₃ := S2.trans (SK.ns F2.ns hs₃)
    have hit₃ : IsRangeIter h₃ H1.objs.size ((i : Int) + 1) ((n : Int) - i - 1) 1 := hs₃.extBut _ _ (Ne.symm (apart5 L _ hlt).1) hit₂
    have lk : ∀ y, y ≠ ("i" : Str) → (put m' "i" (.int (i : Int) tk)) y = m' y := fun y hy => if_neg hy
    have lk2 : ∀ y, y ≠ ("ties" : Str) → y ≠ ("i" : Str) → (put m' "i" (.int (i : Int) tk)) y = m y := fun y a c => (lk y c).trans (hm' y a c)
    refine wpAny_execs_cons (st_first (tt := tieF (hOf rows mw) q i) (al := al) hh B F3 hW0 (K'.trans S3) (hD'.keep S3) hrn hlast hn hst ((lk2 _ (by decide) (by decide)).trans hse) (if_pos rfl) ((lk _ (by decide)).trans htt') ((lk2 _ (by decide) (by decide)).trans hal) ?_ ?_)
    · intro a1 a2 a3 a4 h₄ tk₄ k4
      exact hE a1 ((tieF_iff _ _ _).mpr ⟨i, hlast, a4, a3⟩) h₄ tk₄ _ (F3.grow k4)
    · intro h₄ tk₄ m₄ hm₄ ht₄ ha₄ F4 S4 k4
      have hit₄ : IsRangeIter h₄ H1.objs.size ((i : Int) + 1) ((n : Int) - i - 1) 1 := k4 _ _ (Ne.symm (apart5 L _ hlt).1) hit₃
      refine wpAny_execs_cons (st_served (s := { s with heap := h₄, toks := tk₄ }) hh B F4 F0 hD0 hW0 ((K'.trans S3).trans S4) ((hD'.keep S3).keep S4) hrn hlast hn hst ((hm₄ _ (by decide)).trans ((lk2 _ (by decide) (by decide)).trans hse)) ((hm₄ _ (by decide)).trans (if_pos rfl)) ?_)
      intro h₅ tk₅ k5 F5 K5 hD5
      refine wpAny_execs_nil ⟨n - (i + 1), by lia, i + 1, h₅, tk₅, m₄, rfl, fun y a c => (hm₄ y a).trans (lk2 y a c), ht₄, fun e => ?_, F5, K5, hD5, ?_, hlast, rfl⟩
      · have x := hal' e
        cases hb : (hOf rows mw i && decide (q ≤ cntH (hOf rows mw) i)) with
        | false => simp only [tieF, x, hb, Bool.or_self]
        | true => rw [ha₄ e hb] at x; cases x
      · have := k5 _ _ (Ne.symm hDJ) hit₄
        have e1 : (n : Int) - ((i + 1 : Nat) : Int) = (n : Int) - i - 1 := by lia
        rw [e1]; exact this
  · have hin : i = n := by lia
    subst hin
    refine wpAny_pyNext_range_end hh hit (by lia) fun h₂ he₂ => ?_
    dsimp only
    refine wpAny_execs_nil (h h₂ tk m' hm' htt' hal' (F'.upd hlt he₂) (K'.trans (SK.riter hit he₂)) (hD'.keep (SK.riter hit he₂)))
end
end Mine
end

-- part DN
section
open PySem PySem.W PyProof.Rows
set_option maxRecDepth 100000
namespace Mine

inductive Fam | J | W | M | A
def tJ (k : Str) : Bool := (["dhondt", "jefferson", "greatestdivisors"] : List Str).any (· == k)
def tW (k : Str) : Bool := (["saintelague", "webster", "majorfractions"] : List Str).any (· == k)
def tM (k : Str) : Bool := (["modified_saintelague"] : List Str).any (· == k)
def tH (k : Str) : Bool := (["huntington", "hill", "equalproportions"] : List Str).any (· == k)
def tA (k : Str) : Bool := (["adams", "smallestdivisor"] : List Str).any (· == k)
def famIs (k : Str) : Fam → Prop
  | .J => tJ k = true ∧ tH k = false
  | .W => tJ k = false ∧ tW k = true ∧ tH k = false
  | .M => tJ k = false ∧ tW k = false ∧ tM k = true ∧ tH k = false
  | .A => tJ k = false ∧ tW k = false ∧ tM k = false ∧ tH k = false ∧ tA k = true
def baseOf : Fam → Nat
  | .A => 1
  | _ => 0
def divsOf : Fam → Nat → List (Int × Int)
  | .J, n => (List.range n).map fun i : Nat => ((i : Int) + 1, (1 : Int))
  | .A, n => (List.range n).map fun i : Nat => ((i : Int) + 1, (1 : Int))
  | .W, n => (List.range n).map fun i : Nat => (2 * (i : Int) + 1, (1 : Int))
  | .M, n => divsM n

section
variable {prog : Program} {w : World} {A : Around} {E : Value → Shared → Prop} {s : Shared} {h₁ : Heap} {L f : Addr} {cd : Value} {m : Str → Option Value} {vR vD vC vW vM : Option Value}

theorem Fm.at2 {h h' : Heap} (F : Fm h₁ L m vR vD vC vW vM h) (k : ∀ b o, h.get? b = some o → h'.get? b = some o) : Fm h₁ L m vR vD vC vW vM h' := F.grow k

/-- the first two statements -/
theorem part1 {fam : Fam} {k : Str} {tk0 ts : Tok} {l : Addr} {ns : List Int} {st : Nat} {Q : Flow → Shared → Prop} (hh : A.handled = none) (B : Base h₁ L)
    (F : Fm h₁ L m vR vD vC vW vM s.heap) (hv : m "votes" = some (.ref l)) (hl : ILst s.heap l ns) (hn : ns.length ≤ 3) (hpos : ∀ x ∈ ns, 0 < x)
    (hm : m "method" = some (.str k tk0)) (hse : m "seats" = some (.int (st : Int) ts)) (hst : st ≤ 40) (hfam : famIs k fam) (hA : baseOf fam * ns.length ≤ st)
    (h : ∀ h' tk D Dv, Fm h₁ L m (some (.ref D)) (some (.ref Dv)) vC vW vM h' → SK s.heap h' → ILst h' D (List.replicate ns.length (baseOf fam : Int)) → PLst h' Dv (divsOf fam st) → NewOf h₁ L D →
      wpAny (model prog w) A (execs (divBody.drop 2) (dEnv L f cd)) Q E { s with heap := h', toks := tk }) :
    wpAny (model prog w) A (execs divBody (dEnv L f cd)) Q E s := by
  refine wpAny_execs_cons (st_zeros F B hv hl hn fun h' tk D F1 S1 hD hN => ?_)
  dsimp only
  have hl1 := hl.keep S1
  cases fam with
  | J =>
    simp only [famIs, tJ, tW, tM, tH, tA] at hfam
    obtain ⟨e1, e2⟩ := hfam
    refine wpAny_execs_cons (wpAny_If (in_names3 (s := { s with heap := h', toks := tk }) F1 hm fun h₂ tk₂ k₂ => ?_))
    rw [if_pos e1]
    have F2 := F1.grow k₂
    refine wpAny_execs_cons (asgD (ev_divsJ ⟨rfl, rfl⟩ hh F2 B hse hst fun h₃ tk₃ Dv k₃ hP => ⟨_, _, _, _, _, _, _, F2.grow k₃, fun h₄ tk₄ F4 S4 => wpAny_execs_nil ?_⟩))
    exact h h₄ tk₄ D Dv F4 (S1.trans ((SK.grow k₂).trans ((SK.grow k₃).trans S4))) (hD.keep ((SK.grow k₂).trans ((SK.grow k₃).trans S4))) (hP.keep S4) hN
  | W =>
    simp only [famIs, tJ, tW, tM, tH, tA] at hfam
    obtain ⟨e1, e2, e3⟩ := hfam
    refine wpAny_execs_cons (wpAny_If (in_names3 (s := { s with heap := h', toks := tk }) F1 hm fun h₂ tk₂ k₂ => ?_))
    rw [if_neg (Bool.eq_false_iff.mp e1)]
    have F2 := F1.grow k₂
    refine wpAny_execs_cons (wpAny_If (in_names3 (s := { s with heap := h₂, toks := tk₂ }) F2 hm fun h₃ tk₃ k₃ => ?_))
    rw [if_pos e2]
    have F3 := F2.grow k₃
    refine wpAny_execs_cons (asgD (ev_divsW ⟨rfl, rfl⟩ hh F3 B hse hst fun h₄ tk₄ Dv k₄ hP => ⟨_, _, _, _, _, _, _, F3.grow k₄, fun h₅ tk₅ F5 S5 => wpAny_execs_nil (wpAny_execs_nil ?_)⟩))
    have S := (SK.grow k₂).trans ((SK.grow k₃).trans ((SK.grow k₄).trans S5))
    exact h h₅ tk₅ D Dv F5 (S1.trans S) (hD.keep S) (hP.keep S5) hN
  | M =>
    simp only [famIs, tJ, tW, tM, tH, tA] at hfam
    obtain ⟨e1, e2, e3, e4⟩ := hfam
    refine wpAny_execs_cons (wpAny_If (in_names3 (s := { s with heap := h', toks := tk }) F1 hm fun h₂ tk₂ k₂ => ?_))
    rw [if_neg (Bool.eq_false_iff.mp e1)]
    have F2 := F1.grow k₂
    refine wpAny_execs_cons (wpAny_If (in_names3 (s := { s with heap := h₂, toks := tk₂ }) F2 hm fun h₃ tk₃ k₃ => ?_))
    rw [if_neg (Bool.eq_false_iff.mp e2)]
    have F3 := F2.grow k₃
    refine wpAny_execs_cons (wpAny_If (in_names1 (s := { s with heap := h₃, toks := tk₃ }) F3 hm fun h₄ tk₄ k₄ => ?_))
    rw [if_pos e3]
    have F4 := F3.grow k₄
    refine wpAny_execs_cons (asgD (ev_divsM ⟨rfl, rfl⟩ hh F4 B hse hst fun h₅ tk₅ Dv k₅ hP => ⟨_, _, _, _, _, _, _, F4.grow k₅, fun h₆ tk₆ F6 S6 => wpAny_execs_nil (wpAny_execs_nil (wpAny_execs_nil ?_))⟩))
    have S := (SK.grow k₂).trans ((SK.grow k₃).trans ((SK.grow k₄).trans ((SK.grow k₅).trans S6)))
    exact h h₆ tk₆ D Dv F6 (S1.trans S) (hD.keep S) (hP.keep S6) hN
  | A =>
    simp only [famIs, tJ, tW, tM, tH, tA] at hfam
    obtain ⟨e1, e2, e3, e4, e5⟩ := hfam
    refine wpAny_execs_cons (wpAny_If (in_names3 (s := { s with heap := h', toks := tk }) F1 hm fun h₂ tk₂ k₂ => ?_))
    rw [if_neg (Bool.eq_false_iff.mp e1)]
    have F2 := F1.grow k₂
    refine wpAny_execs_cons (wpAny_If (in_names3 (s := { s with heap := h₂, toks := tk₂ }) F2 hm fun h₃ tk₃ k₃ => ?_))
    rw [if_neg (Bool.eq_false_iff.mp e2)]
    have F3 := F2.grow k₃
    refine wpAny_execs_cons (wpAny_If (in_names1 (s := { s with heap := h₃, toks := tk₃ }) F3 hm fun h₄ tk₄ k₄ => ?_))
    rw [if_neg (Bool.eq_false_iff.mp e3)]
    have F4 := F3.grow k₄
    refine wpAny_execs_cons (wpAny_If (in_names3 (s := { s with heap := h₄, toks := tk₄ }) F4 hm fun h₅ tk₅ k₅ => ?_))
    rw [if_neg (Bool.eq_false_iff.mp e4)]
    have F5 := F4.grow k₅
    refine wpAny_execs_cons (wpAny_If (in_names2 (s := { s with heap := h₅, toks := tk₅ }) F5 hm fun h₆ tk₆ k₆ => ?_))
    rw [if_pos e5]
    have F6 := F5.grow k₆
    have S6 := (SK.grow k₂).trans ((SK.grow k₃).trans ((SK.grow k₄).trans ((SK.grow k₅).trans (SK.grow k₆))))
    have hl6 := hl1.keep S6
    refine wpAny_execs_cons (wpAny_If (wpAny_isTrue_Compare1 (nmL (s := { s with heap := h₆, toks := tk₆ }) F6 hse (callB1 (F6.gb B).len (dEnv_ok L f cd) rfl (nmL (s := { s with heap := h₆, toks := tk₆ }) F6 hv (len_base hl6 (by lia) (P.lt_int (wpAny_truthy_bool ?_))))))))
    have hge : ns.length ≤ st := by simpa [baseOf] using hA
    rw [if_neg (by simpa using hge)]
    refine wpAny_execs_cons (asgR (ev_ones ⟨rfl, rfl⟩ hh F6 hv hl6 hn hpos fun h₇ tk₇ D7 k₇ hD7 hL7 => ⟨_, _, _, _, _, _, _, F6.grow k₇, fun h₈ tk₈ F8 S8 => ?_⟩))
    refine wpAny_execs_cons (asgD (ev_divsJ ⟨rfl, rfl⟩ hh F8 B hse hst fun h₉ tk₉ Dv k₉ hP => ⟨_, _, _, _, _, _, _, F8.grow k₉, fun h₁₀ tk₁₀ F10 S10 => wpAny_execs_nil (wpAny_execs_nil (wpAny_execs_nil (wpAny_execs_nil (wpAny_execs_nil (wpAny_execs_nil ?_)))))⟩))
    have S := (SK.grow k₇).trans (S8.trans ((SK.grow k₉).trans S10))
    exact h h₁₀ tk₁₀ D7 Dv F10 (S1.trans (S6.trans S)) (hL7.keep (S8.trans ((SK.grow k₉).trans S10))) (hP.keep S10) (F6.newOf hD7)
end
end Mine
end

-- part DO
section
open PySem PySem.W PyProof.Rows
set_option maxRecDepth 100000
namespace Mine

theorem divs_ok (fam : Fam) {n : Nat} (hn : n ≤ 40) : ∀ p ∈ divsOf fam n, 0 < p.1 ∧ p.1 < 100 ∧ (p.2 = 1 ∨ p.2 = 5) := by
  intro p hp
  cases fam with
  | J => simp only [divsOf, List.mem_map, List.mem_range] at hp; obtain ⟨i, hi, rfl⟩ := hp; exact ⟨by show 0 < (i : Int) + 1; lia, by show (i : Int) + 1 < 100; lia, .inl rfl⟩
  | A => simp only [divsOf, List.mem_map, List.mem_range] at hp; obtain ⟨i, hi, rfl⟩ := hp; exact ⟨by show 0 < (i : Int) + 1; lia, by show (i : Int) + 1 < 100; lia, .inl rfl⟩
  | W => simp only [divsOf, List.mem_map, List.mem_range] at hp; obtain ⟨i, hi, rfl⟩ := hp; exact ⟨by show 0 < 2 * (i : Int) + 1; lia, by show 2 * (i : Int) + 1 < 100; lia, .inl rfl⟩
  | M =>
    simp only [divsOf, divsM, List.mem_cons, List.mem_map, List.mem_range] at hp
    rcases hp with rfl | ⟨i, hi, rfl⟩
    · exact ⟨by decide, by decide, .inr rfl⟩
    · exact ⟨by show 0 < 2 * (1 + (i : Int)) + 1; lia, by show 2 * (1 + (i : Int)) + 1 < 100; lia, .inl rfl⟩
theorem divs_len (fam : Fam) {n : Nat} (hn : 1 ≤ n) : (divsOf fam n).length = n := by
  cases fam with
  | M => simp only [divsOf, divsM, List.length_cons, List.length_map, List.length_range]; lia
  | _ => simp [divsOf]
theorem divs_le (fam : Fam) {n : Nat} : (divsOf fam n).length ≤ n + 1 := by
  cases fam with
  | M => simp only [divsOf, divsM, List.length_cons, List.length_map, List.length_range]; lia
  | _ => simp [divsOf]
theorem bits_small {x : Int} (h0 : 0 < x) (h1 : x < 100) : Builtin.Int.intBits x ≤ 7 := by rw [bits_iff]; lia
theorem bits_prod : ∀ {ps : List (Int × Int)}, (∀ p ∈ ps, Builtin.Int.intBits p.1 ≤ 7) → Builtin.Int.intBits (prodL ps) ≤ 7 * ps.length + 1
  | [], _ => by simp only [prodL]; decide
  | p :: ps, h => by
    have a := bits_mul (h p (by simp)) (bits_prod fun q hq => h q (List.mem_cons_of_mem _ hq))
    simp only [prodL, List.length_cons]
    exact Nat.le_trans a (by lia)

theorem sum_gOf (rows : List (List Int)) (mw : Int) : sumN (gOf rows mw) rows.length = rows.flatten.countP fun w => decide (w > mw) := by
  rw [List.countP_flatten, sum_map_range (fun r => r.countP fun w => decide (w > mw)) rows rows.length rfl]
  rfl

def Outc (fam : Fam) (st : Nat) (ns : List Int) (res : List Int) (tie : Bool) : Prop :=
  (st = baseOf fam * ns.length ∧ res = List.replicate ns.length (baseOf fam : Int) ∧ tie = false) ∨
  ∃ (mw : Int) (k : Nat), st = baseOf fam * ns.length + k ∧ 1 ≤ k ∧
    ((rowsOf (prodL (divsOf fam st)) ns (divsOf fam st)).flatten.countP fun w => decide (w > mw)) < k ∧ (k ≤ (rowsOf (prodL (divsOf fam st)) ns (divsOf fam st)).flatten.countP fun w => decide (w ≥ mw)) ∧
    res = repAt (baseOf fam : Int) (gOf (rowsOf (prodL (divsOf fam st)) ns (divsOf fam st)) mw) (hOf (rowsOf (prodL (divsOf fam st)) ns (divsOf fam st)) mw) (k - sumN (gOf (rowsOf (prodL (divsOf fam st)) ns (divsOf fam st)) mw) ns.length) ns.length ns.length ∧
    tie = tieF (hOf (rowsOf (prodL (divsOf fam st)) ns (divsOf fam st)) mw) (k - sumN (gOf (rowsOf (prodL (divsOf fam st)) ns (divsOf fam st)) mw) ns.length) ns.length

def raiseP (p1 p2 p3 p4 : Pos) (k : Nat) : Stmt := .Raise (some (.Call (.Name "TiesException" p1) [.Constant (.str "Tie occurred") k p2] [] p3)) none p4

section
variable {prog : Program} {w : World} {A : Around} {E : Value → Shared → Prop} {s : Shared} {h₁ : Heap} {L f : Addr} {cd : Value} {m : Str → Option Value} {vR vD vC vW vM : Option Value}

theorem tst_gt {D : Addr} {q1 q2 q3 q4 q5 : Pos} {whole : Sem Value} {rs : List Int} {st : Int} {ts : Tok} {Q : Bool → Shared → Prop} (hh : A.handled = none)
    (F : Fm h₁ L m (some (.ref D)) vD vC vW vM s.heap) (B : Base h₁ L) (hD : ILst s.heap D rs) (hse : m "seats" = some (.int st ts))
    (h : ∀ h' tk, (∀ b o, s.heap.get? b = some o → h'.get? b = some o) → Q (decide (st > rs.sum)) { s with heap := h', toks := tk }) :
    wpAny (model prog w) A (isTrue (.Compare (.Name "seats" q1) [.Gt] [.Call (.Name "sum" q2) [.Name "representatives" q3] [] q4] q5) (dEnv L f cd) whole) Q E s := by
  refine wpAny_isTrue_Compare1 (nmL F hse (callB1 (F.gb B).sum (dEnv_ok L f cd) rfl (nmC F.r (sum_base hh hD fun h' tk t hk => P.gt_int (wpAny_truthy_bool (h h' tk hk))))))

/-- the last two statements -/
theorem part4 {D : Addr} {tie al : Bool} {res : List Int} {Q : Flow → Shared → Prop} 
    (F : Fm h₁ L m (some (.ref D)) vD vC vW vM s.heap) (hD : ILst s.heap D res) (htt : m "ties" = some (.bool tie)) (hal : m "tiesallowed" = some (.bool al)) (hok : al = false → tie = false)
    (h : Q (.ret (.ref D)) s) :
    wpAny (model prog w) A (execs (divBody.drop 5) (dEnv L f cd)) Q E s := by
  refine wpAny_execs_cons (wpAny_If (wpAny_isTrue_BoolOp (wpAny_allTrue_And_cons (wpAny_isTrue_value (nmL F htt (wpAny_truthy_bool ?_))))))
  cases tie with
  | false =>
    rw [if_neg (by simp), if_neg (by simp)]
    exact wpAny_execs_nil (wpAny_execs_cons (wpAny_Return_some (nmC F.r h)))
  | true =>
    have ha : al = true := by cases al with
      | true => rfl
      | false => exact absurd (hok rfl) (by simp)
    subst ha
    rw [if_pos rfl]
    refine wpAny_allTrue_And_cons (wpAny_isTrue_Not (wpAny_isTrue_value (nmL F hal (wpAny_truthy_bool ?_))))
    rw [if_neg (by simp), if_neg (by simp)]
    exact wpAny_execs_nil (wpAny_execs_cons (wpAny_Return_some (nmC F.r h)))
end
end Mine
end

-- part DP
section
open PySem PySem.W PyProof.Rows
set_option maxRecDepth 100000
namespace Mine
section
variable {prog : Program} {w : World} {A : Around} {E : Value → Shared → Prop} {s : Shared} {h₁ : Heap} {L f : Addr} {cd : Value} {m : Str → Option Value} {vR vD vC vW vM : Option Value}

theorem sum_repl (n : Nat) (b : Int) : (List.replicate n b).sum = b * n := by
  induction n with
  | zero => simp
  | succ n ih => rw [List.replicate_succ, List.sum_cons, ih]; rw [Int.natCast_succ, Int.mul_add]; lia

theorem Outc.big {fam : Fam} {st : Nat} {ns : List Int} {mw c : Int} {k : Nat} {tie : Bool} (hc : prodL (divsOf fam st) = c) (hk' : st = baseOf fam * ns.length + k) (hk1 : 1 ≤ k)
    (kA : ((rowsOf c ns (divsOf fam st)).flatten.countP fun w => decide (w > mw)) < k) (kB : k ≤ (rowsOf c ns (divsOf fam st)).flatten.countP fun w => decide (w ≥ mw))
    (ht : tieF (hOf (rowsOf c ns (divsOf fam st)) mw) (k - sumN (gOf (rowsOf c ns (divsOf fam st)) mw) ns.length) ns.length = tie) :
    Outc fam st ns (repAt (baseOf fam : Int) (gOf (rowsOf c ns (divsOf fam st)) mw) (hOf (rowsOf c ns (divsOf fam st)) mw) (k - sumN (gOf (rowsOf c ns (divsOf fam st)) mw) ns.length) ns.length ns.length) tie := by
  subst hc
  exact Or.inr ⟨mw, k, hk', hk1, kA, kB, rfl, ht.symm⟩

/-- the whole body -/
theorem body {fam : Fam} {k : Str} {tk0 ts : Tok} {l : Addr} {ns : List Int} {st : Nat} {al : Bool} {Q : Flow → Shared → Prop} (hh : A.handled = none) (B : Base h₁ L)
    (F : Fm h₁ L m vR vD vC vW vM s.heap) (hv : m "votes" = some (.ref l)) (hl : ILst s.heap l ns) (hn : ns.length ≤ 3) (hpos : ∀ x ∈ ns, 0 < x) (hbits : ∀ v ∈ ns, Builtin.Int.intBits v ≤ 2 ^ 21)
    (hm : m "method" = some (.str k tk0)) (hse : m "seats" = some (.int (st : Int) ts)) (hal : m "tiesallowed" = some (.bool al)) (hst : st ≤ 33) (hfam : famIs k fam) (hA : baseOf fam * ns.length ≤ st) (hn0 : 1 ≤ ns.length)
    (hE : al = false → ∀ res, Outc fam st ns res true → ∀ h' tk m' uR uD uC uW uM p1 p2 p3 p4 kk, Fm h₁ L m' uR uD uC uW uM h' →
      wpAny (model prog w) A (exec (raiseP p1 p2 p3 p4 kk) (dEnv L f cd)) (fun _ _ => False) (notedBy (model prog w) A (dEnv L f cd) fun e s' => cameBackBy (model prog w) A (dEnv L f cd) E e s') { s with heap := h', toks := tk })
    (h : ∀ res tie h' tk D, Outc fam st ns res tie → (al = false → tie = false) → ILst h' D res → NewOf h₁ L D → (∃ m' uR uD uC uW uM, Fm h₁ L m' uR uD uC uW uM h') → Q (.ret (.ref D)) { s with heap := h', toks := tk }) :
    wpAny (model prog w) A (execs divBody (dEnv L f cd)) Q E s := by
  refine part1 hh B F hv hl hn hpos hm hse (by lia) hfam hA fun h₂ tk₂ D Dv F2 S2 hD hDv hN => ?_
  have hl2 := hl.keep S2
  have hdl := divs_le fam (n := st)
  refine wpAny_execs_cons (wpAny_If (tst_gt (s := { s with heap := h₂, toks := tk₂ }) hh F2 B hD hse fun h₃ tk₃ k₃ => ?_))
  have F3 := F2.grow k₃
  rw [sum_repl]
  by_cases hk : st = baseOf fam * ns.length
  · have e0 : ¬ ((st : Int) > (baseOf fam : Int) * (ns.length : Int)) := by rw [hk]; simp
    rw [if_neg (by simpa using e0)]
    refine wpAny_execs_nil (wpAny_execs_cons (asgL (wpAny_Constant_bool ⟨_, _, _, _, _, _, _, F3, fun h₄ tk₄ F4 S4 => ?_⟩)))
    have hD4 := (hD.keep (SK.grow k₃)).keep S4
    refine wpAny_execs_cons (wpAny_If (tst_gt (s := { s with heap := h₄, toks := tk₄ }) hh F4 B hD4 ((if_neg (by decide)).trans hse) fun h₅ tk₅ k₅ => ?_))
    rw [sum_repl, if_neg (by simpa using e0)]
    refine wpAny_execs_nil (part4 (s := { s with heap := h₅, toks := tk₅ }) (tie := false) (al := al) (F4.grow k₅) (hD4.keep (SK.grow k₅)) (if_pos rfl) ((if_neg (by decide)).trans hal) (fun _ => rfl) ?_)
    exact h _ false h₅ tk₅ D (.inl ⟨hk, rfl, rfl⟩) (fun _ => rfl) (hD4.keep (SK.grow k₅)) hN ⟨_, _, _, _, _, _, F4.grow k₅⟩
  · obtain ⟨k', hk'⟩ : ∃ k', st = baseOf fam * ns.length + k' := ⟨st - baseOf fam * ns.length, by lia⟩
    have hk1 : 1 ≤ k' := by lia
    have e0 : (st : Int) > (baseOf fam : Int) * (ns.length : Int) := by
      have : ((baseOf fam * ns.length : Nat) : Int) = (baseOf fam : Int) * (ns.length : Int) := Int.natCast_mul ..
      lia
    rw [if_pos (by simpa using e0)]
    have hok := divs_ok fam (n := st) (by lia)
    have hps : ∀ p ∈ divsOf fam st, 0 < p.1 ∧ p.1 < 1000 ∧ Builtin.Int.intBits p.2 ≤ 64 := fun p hp => by
      obtain ⟨a, b, c⟩ := hok p hp
      refine ⟨a, by lia, ?_⟩
      rcases c with c | c <;> rw [c] <;> decide
    have hp7 : ∀ p ∈ divsOf fam st, Builtin.Int.intBits p.1 ≤ 7 := fun p hp => bits_small (hok p hp).1 (hok p hp).2.1
    have hc22 : Builtin.Int.intBits (prodL (divsOf fam st)) ≤ 2 ^ 22 := Nat.le_trans (bits_prod hp7) (by lia)
    have hdlen : (divsOf fam st).length = st := divs_len fam (by lia)
    refine wpAny_execs_cons (asgC (wpAny_Constant_int ⟨_, _, _, _, _, _, _, F3, fun h₄ tk₄ F4 S4 _ => ?_⟩))
    have S3 := SK.grow k₃
    refine wpAny_execs_cons (st_common (s := { s with heap := h₄, toks := tk₄ }) hh F4 ((hDv.keep S3).keep S4) (by lia) (fun p hp => Nat.le_trans (hp7 p hp) (by decide)) fun h₅ tk₅ m₅ tc hm₅ F5 S5 => ?_)
    have lk5 : ∀ {y : Str} {v : Value}, m y = some v → y ≠ ("d" : Str) → m₅ y = some v := fun e n => (hm₅ _ n).trans e
    have S15 := (S3.trans S4).trans S5
    refine wpAny_execs_cons (wpAny_If (in_names3 (s := { s with heap := h₅, toks := tk₅ }) F5 (lk5 hm (by decide)) fun h₆ tk₆ k₆ => ?_))
    have hH : (["huntington", "hill", "equalproportions"] : List Str).any (· == k) = false := by
      cases fam with
      | J => exact hfam.2
      | W => exact hfam.2.2
      | M => exact hfam.2.2.2
      | A => exact hfam.2.2.2.1
    rw [if_neg (Bool.eq_false_iff.mp hH)]
    have F6 := F5.grow k₆
    have S16 := S15.trans (SK.grow k₆)
    have hl6 := hl2.keep S16
    refine wpAny_execs_cons (asgW (ev_weights (s := { s with heap := h₆, toks := tk₆ }) ⟨rfl, rfl⟩ ⟨rfl, rfl⟩ hh F6 B (hDv.keep S16) (lk5 hv (by decide)) hl6 hn (by lia) hps hbits hc22 fun h₇ tk₇ W k₇ hW => ⟨_, _, _, _, _, _, _, F6.grow k₇, fun h₈ tk₈ F8 S8 => wpAny_execs_nil ?_⟩))
    generalize hc : prodL (divsOf fam st) = c at F8 hW
    have hW8 := hW.keep S8
    have hrl : (rowsOf c ns (divsOf fam st)).length = ns.length := by simp
    have hrr : ∀ r ∈ rowsOf c ns (divsOf fam st), r.length = st := fun r hr => by
      simp only [rowsOf, List.mem_map] at hr
      obtain ⟨v, _, rfl⟩ := hr
      rw [List.length_map, hdlen]
    have hflat : (rowsOf c ns (divsOf fam st)).flatten.length = ns.length * st := by
      rw [List.length_flatten]
      have : ∀ (rs : List (List Int)), (∀ r ∈ rs, r.length = st) → (rs.map List.length).sum = rs.length * st := by
        intro rs; induction rs with
        | nil => intro _; simp
        | cons r rs ih => intro hh; rw [List.map_cons, List.sum_cons, ih (fun x hx => hh x (List.mem_cons_of_mem _ hx)), hh r (by simp), List.length_cons, Nat.succ_mul]; lia
      rw [this _ hrr, hrl]
    have hflt : ns.length * st ≤ 3 * 33 := Nat.mul_le_mul hn hst
    have S18 := (S16.trans (SK.grow k₇)).trans S8
    refine wpAny_execs_cons (asgL (ev_flat (s := { s with heap := h₈, toks := tk₈ }) ⟨rfl, rfl⟩ hh F8 B hW8 (by rw [hflat]; lia) fun h₉ tk₉ Sf so k₉ hSo hperm hsort => ⟨_, _, _, _, _, _, _, F8.grow k₉, fun h₁₀ tk₁₀ F10 S10 => ?_⟩))
    have S110 := (S18.trans (SK.grow k₉)).trans S10
    have hsl : so.length = ns.length * st := hperm.length_eq.trans hflat
    have hstn : st ≤ ns.length * st := Nat.le_mul_of_pos_left _ hn0
    have hD10 := hD.keep S110
    refine wpAny_execs_cons (asgM (ev_min (s := { s with heap := h₁₀, toks := tk₁₀ }) (sts := st) (k := k') hh F10 B (if_pos rfl) ((if_neg (by decide)).trans (lk5 hse (by decide))) (hSo.keep S10) hD10 ?_ hk1 (by lia) (by lia) fun h₁₁ tk₁₁ tm k₁₁ => ⟨_, _, _, _, _, _, _, F10.grow k₁₁, fun h₁₂ tk₁₂ F12 S12 => ?_⟩))
    · rw [sum_repl]
      have : ((baseOf fam * ns.length : Nat) : Int) = (baseOf fam : Int) * (ns.length : Int) := Int.natCast_mul ..
      lia
    have S112 := (S110.trans (SK.grow k₁₁)).trans S12
    obtain ⟨kA, kB⟩ := kth hsort (k := k') hk1 (by lia)
    generalize hmw : so.getD (so.length - k') 0 = mw at F12 kA kB
    rw [hperm.countP_eq] at kA kB
    have hW12 := hW8.keep (((SK.grow k₉).trans S10).trans ((SK.grow k₁₁).trans S12))
    have hs12 : (put m₅ "flatweights" (.ref Sf)) "seats" = some (.int (st : Int) ts) := (if_neg (by decide)).trans (lk5 hse (by decide))
    have hv12 : (put m₅ "flatweights" (.ref Sf)) "votes" = some (.ref l) := (if_neg (by decide)).trans (lk5 hv (by decide))
    have ha12 : (put m₅ "flatweights" (.ref Sf)) "tiesallowed" = some (.bool al) := (if_neg (by decide)).trans (lk5 hal (by decide))
    have hrn : (rowsOf c ns (divsOf fam st)).length = ns.length := hrl
    have hsum : sumN (gOf (rowsOf c ns (divsOf fam st)) mw) ns.length < k' := by rw [← hrn, sum_gOf]; exact kA
    refine wpAny_execs_cons (asgR (ev_reps (s := { s with heap := h₁₂, toks := tk₁₂ }) ⟨rfl, rfl⟩ ⟨rfl, rfl⟩ hh F12 B hv12 (hl2.keep S112) (hD.keep S112) hW12 hn (by simp) hrn (fun r hr => by rw [hrr r hr]; lia) fun h₁₃ tk₁₃ D' k₁₃ hDn hD13 => ⟨_, _, _, _, _, _, _, F12.grow k₁₃, fun h₁₄ tk₁₄ F14 S14 => wpAny_execs_nil ?_⟩))
    dsimp only at hDn
    have eR : ∀ q, ((List.range ns.length).map fun i => (List.replicate ns.length (baseOf fam : Int)).getD i 0 + (gOf (rowsOf c ns (divsOf fam st)) mw i : Int)) = repAt (baseOf fam : Int) (gOf (rowsOf c ns (divsOf fam st)) mw) (hOf (rowsOf c ns (divsOf fam st)) mw) q 0 ns.length := fun q => by
      refine repAt_ext (by simp) fun i hi => ?_
      rw [List.getElem?_map, List.getElem?_range hi, if_neg (by lia)]
      simp [List.getD_eq_getElem?_getD, hi]
    have hD14 := hD13.keep S14
    rw [eR (k' - sumN (gOf (rowsOf c ns (divsOf fam st)) mw) ns.length)] at hD14
    have K14 : SK h₁₂ h₁₄ := (SK.grow k₁₃).trans S14
    refine wpAny_execs_cons (asgL (wpAny_Constant_bool ⟨_, _, _, _, _, _, _, F14, fun h₁₅ tk₁₅ F15 S15 => ?_⟩))
    have hD15 := hD14.keep S15
    have K15 := K14.trans S15
    have lk : ∀ {y : Str} {v : Value}, (put m₅ "flatweights" (.ref Sf)) y = some v → y ≠ ("ties" : Str) → (put (put m₅ "flatweights" (.ref Sf)) "ties" (.bool false)) y = some v := fun e n => (if_neg n).trans e
    refine wpAny_execs_cons (wpAny_If (tst_gt (s := { s with heap := h₁₅, toks := tk₁₅ }) hh F15 B hD15 (lk hs12 (by decide)) fun h₁₆ tk₁₆ k₁₆ => ?_))
    have hbn : ((baseOf fam * ns.length : Nat) : Int) = (baseOf fam : Int) * (ns.length : Int) := Int.natCast_mul ..
    have e1 : (st : Int) > (repAt (baseOf fam : Int) (gOf (rowsOf c ns (divsOf fam st)) mw) (hOf (rowsOf c ns (divsOf fam st)) mw) (k' - sumN (gOf (rowsOf c ns (divsOf fam st)) mw) ns.length) 0 ns.length).sum := by
      rw [repAt_sum, show min 0 ns.length = 0 by lia]
      simp only [cntH]
      lia
    rw [if_pos (by simpa using e1)]
    have F16 := F15.grow k₁₆
    have K16 := K15.trans (SK.grow k₁₆)
    refine wpAny_execs_cons (st_ties (s := { s with heap := h₁₆, toks := tk₁₆ }) (h0 := h₁₂) (rows := rowsOf c ns (divsOf fam st)) (mw := mw) (al := al) (q := k' - sumN (gOf (rowsOf c ns (divsOf fam st)) mw) ns.length) (n := ns.length) (b := (baseOf fam : Int)) (g := gOf (rowsOf c ns (divsOf fam st)) mw)
      hh B F16 F12 hDn hW12 K16 (hD15.keep (SK.grow k₁₆)) (lk hv12 (by decide)) (hl2.keep (S112.trans K16)) rfl hrn hn ?_ (lk hs12 (by decide)) (if_pos rfl) (lk ha12 (by decide)) ?_ ?_)
    · lia
    · intro a1 a2 h' tk m' F'
      exact hE a1 _ (Outc.big hc hk' hk1 kA kB a2) h' tk m' _ _ _ _ _ _ _ _ _ _ F'
    · intro h' tk m' hm' ht' ha' F' K' hD'
      refine wpAny_execs_nil (part4 (s := { s with heap := h', toks := tk }) (tie := _) (al := al) F' hD' ht' ((hm' _ (by decide) (by decide)).trans (lk ha12 (by decide))) ha' ?_)
      exact h _ _ h' tk D' (Outc.big hc hk' hk1 kA kB rfl) ha' hD' (F12.newOf hDn) ⟨_, _, _, _, _, _, F'⟩
end
end Mine
end

-- part DQ
section
open PySem PySem.W PyProof.Rows
set_option maxRecDepth 100000
namespace Mine

def dOf : Fam → Int → Int
  | .J, j => j
  | .A, j => j
  | .W, j => 2 * j - 1
  | .M, j => if j ≤ 1 then 7 else 5 * (2 * j - 1)
def cOf : Fam → Int
  | .M => 5
  | _ => 1

theorem dvd_prod : ∀ {ps : List (Int × Int)} {p : Int × Int}, p ∈ ps → p.1 ∣ prodL ps
  | q :: ps, p, h => by
    rcases List.mem_cons.mp h with rfl | h
    · exact ⟨_, rfl⟩
    · obtain ⟨x, e⟩ := dvd_prod h
      exact ⟨q.1 * x, by simp only [prodL]; rw [e, ← Int.mul_assoc, Int.mul_comm q.1 p.1, Int.mul_assoc]⟩
theorem prod_pos : ∀ {ps : List (Int × Int)}, (∀ p ∈ ps, 0 < p.1) → 0 < prodL ps
  | [], _ => by simp only [prodL]; decide
  | p :: ps, h => by simp only [prodL]; exact Int.mul_pos (h p (by simp)) (prod_pos fun q hq => h q (List.mem_cons_of_mem _ hq))

theorem wOf_mul {c v : Int} {p : Int × Int} (hp : 0 < p.1) (hd : p.1 ∣ c) : wOf c v p * p.1 = v * p.2 * c := by
  unfold wOf
  rw [Int.fdiv_eq_ediv_of_nonneg _ (Int.le_of_lt hp)]
  exact Int.ediv_mul_cancel (Int.dvd_trans hd ⟨v * p.2, Int.mul_comm ..⟩)

theorem divs_at (fam : Fam) {st t : Nat} (ht : t < st) : ∃ p, (divsOf fam st)[t]? = some p ∧ ∀ x y : Int, x * p.1 = y * p.2 → x * dOf fam ((t : Int) + 1) = y * cOf fam := by
  cases fam with
  | J => exact ⟨_, by rw [divsOf, List.getElem?_map, List.getElem?_range ht]; rfl, fun x y e => by simpa [dOf, cOf] using e⟩
  | A => exact ⟨_, by rw [divsOf, List.getElem?_map, List.getElem?_range ht]; rfl, fun x y e => by simpa [dOf, cOf] using e⟩
  | W => exact ⟨_, by rw [divsOf, List.getElem?_map, List.getElem?_range ht]; rfl, fun x y e => by
      have h : 2 * ((t : Int) + 1) - 1 = 2 * (t : Int) + 1 := by lia
      simp only [dOf, cOf]; rw [h]; exact e⟩
  | M =>
    cases t with
    | zero => exact ⟨(7, 5), rfl, fun x y e => by simpa [dOf, cOf] using e⟩
    | succ t =>
      refine ⟨(2 * (1 + (t : Int)) + 1, 1), ?_, fun x y e => ?_⟩
      · rw [divsOf, divsM, List.getElem?_cons_succ, List.getElem?_map, List.getElem?_range (by lia)]; rfl
      · have h : ¬ (((t + 1 : Nat) : Int) + 1 ≤ 1) := by lia
        have h2 : 2 * (((t + 1 : Nat) : Int) + 1) - 1 = 2 * (1 + (t : Int)) + 1 := by lia
        simp only [dOf, cOf]
        rw [if_neg h, h2, Int.mul_left_comm, e]
        lia

theorem dOf_pos (fam : Fam) : ∀ a, 1 ≤ a → 0 < dOf fam a := by
  intro a ha
  cases fam with
  | M => simp only [dOf]; split <;> lia
  | _ => simp only [dOf]; lia
theorem dOf_mono (fam : Fam) : ∀ a b, 1 ≤ a → a < b → dOf fam a < dOf fam b := by
  intro a b ha hb
  cases fam with
  | M => simp only [dOf]; split <;> split <;> lia
  | _ => simp only [dOf]; lia

theorem repAt_base (b : Int) (g : Nat → Nat) (h : Nat → Bool) (q x n : Nat) : repAt b g h q x n = (repAt 0 g h q x n).map (· + b) := by
  unfold repAt
  rw [List.map_map]
  refine List.map_congr_left fun i _ => ?_
  simp only [Function.comp]
  lia

/-- what divisor answers -/
theorem outc_told {fam : Fam} {st : Nat} {ns res : List Int} {tie : Bool} (hpos : ∀ x ∈ ns, 0 < x) (hst : st ≤ 40) (ho : Outc fam st ns res tie) :
    ∃ r, res = r.map (· + (baseOf fam : Int)) ∧ Told ns r (dOf fam) ((st : Int) - (baseOf fam : Int) * (ns.length : Int)) ∧ (tie = true ↔ Tie ns r (dOf fam)) := by
  have hbn : ((baseOf fam * ns.length : Nat) : Int) = (baseOf fam : Int) * (ns.length : Int) := Int.natCast_mul ..
  rcases ho with ⟨h1, h2, h3⟩ | ⟨mw, k, h1, h2, h3, h4, h5, h6⟩
  · have hz : ∀ i, (List.replicate ns.length (0 : Int)).getD i 0 = 0 := fun i => by
      rw [List.getD_eq_getElem?_getD, List.getElem?_replicate]; split <;> rfl
    refine ⟨List.replicate ns.length 0, by rw [h2]; simp, ⟨by simp, by rw [sum_repl]; lia, fun i _ => by rw [hz]; exact Int.le_refl _, fun i j _ _ _ hp => by rw [hz] at hp; lia⟩, by rw [h3]; simp, fun ⟨i, j, _, _, _, hp, _⟩ => by rw [hz] at hp; lia⟩
  · have hok := divs_ok fam (n := st) hst
    have hdlen : (divsOf fam st).length = st := divs_len fam (by lia)
    have hrow : ∀ i, i < ns.length → (rowsOf (prodL (divsOf fam st)) ns (divsOf fam st)).getD i [] = (divsOf fam st).map (wOf (prodL (divsOf fam st)) (ns.getD i 0)) := fun i hi => by
      simp [rowsOf, List.getD_eq_getElem?_getD, List.getElem?_map, List.getElem?_eq_getElem hi]
    obtain ⟨a, b, c⟩ := told_of (v := ns) (rows := rowsOf (prodL (divsOf fam st)) ns (divsOf fam st)) (D := dOf fam) (C := prodL (divsOf fam st) * cOf fam) (m := mw) (n := ns.length) (len := st) (k := k) hpos rfl (by simp)
      (fun i hi => by rw [hrow i hi, List.length_map, hdlen]) (fun i t hi ht => by
        obtain ⟨p, e1, e2⟩ := divs_at fam ht
        have hm := List.mem_of_getElem? e1
        rw [hrow i hi, List.getD_eq_getElem?_getD, List.getElem?_map, e1]
        simp only [Option.map_some, Option.getD_some]
        have := wOf_mul (v := ns.getD i 0) (hok p hm).1 (dvd_prod hm)
        rw [← Int.mul_assoc]
        refine e2 _ _ ?_
        rw [this, Int.mul_assoc, Int.mul_comm p.2, ← Int.mul_assoc])
      (Int.mul_pos (prod_pos fun p hp => (hok p hp).1) (by cases fam <;> decide)) (dOf_pos fam) (dOf_mono fam) h2 (by lia) h3 h4
    refine ⟨_, h5.trans (repAt_base _ _ _ _ _ _), ?_, by rw [h6]; exact c⟩
    have e : (st : Int) - (baseOf fam : Int) * (ns.length : Int) = (k : Int) := by lia
    rw [e]; exact b
end Mine
end

-- part TA
section
open PySem PySem.W PyProof.Rows PySem.Calls
set_option maxRecDepth 100000
namespace Mine

theorem mem_any {env : Env} {L b : Addr} {outer : List Env} (hf : env.frame = some L) (hm : b ∈ (env :: outer).filterMap (·.frame)) : b = L ∨ b ∈ outer.filterMap (·.frame) := by
  obtain ⟨e, he, hf'⟩ := List.mem_filterMap.mp hm
  rcases List.mem_cons.mp he with rfl | he
  · exact .inl (Option.some.inj (hf'.symm.trans hf))
  · exact .inr (List.mem_filterMap.mpr ⟨e, he, hf'⟩)

section
variable {prog : Program} {w : World} {A₀ A : Around} {s : Shared} {base h₀ : Heap} {L a : Addr} {m : Str → Option Value} {env : Env} {news : List (Addr × Obj)} {K : Frag} {p : Program} {loose : List Str} {mean : ExcName → Option Value} {mg mb : Str → Option Value}
    {R : Result → Shared → Prop} {name qual : Str} {params : Arguments} {body : List Stmt} {scope : Scope} {dV kV doc pm cdv ct oc : Value} {an od : Option Addr} {osl : Array (Option Value)} {f : Addr} {args : Args} {binds : List (Str × Value)}

theorem defS0_any (B : Below A₀ base [] h₀) (F : Fr h₀ L s.heap m) (X₀ : K.In h₀) (N : News h₀ L s.heap news) (T : Top p loose mean mg mb h₀) (hA : A.frames = some [env]) (hf : env.frame = some L) (hke : env.scope.kind = .function)
    (ho : K.lookup f = some ⟨oc, od, .func (fnOf name qual params body scope dV kV doc pm an cdv ct), osl⟩) (hcd : codeIn K cdv qual = true) (hroom : A.depth < recursionLimit)
    (hbind : BindsTo s (fnOf name qual params body scope dV kV doc pm an cdv ct) args binds) (hloc : ∀ y ∈ binds, scope.names.lookup y.1 = some .local)
    (h : ∀ g L' h₁, Fr h₀ L g m → Fr g L' h₁ (fun y => binds.reverse.lookup y) → News g L' h₁ news → Below A base [env] g → K.In g → Top p loose mean mg mb g → KtsDicts ([env].filterMap (·.frame)) g →
      wpAny (model prog w) (A.deeper (envOf qual scope L' f cdv)) (execs body (envOf qual scope L' f cdv))
        (fun fl s' => LeaveS0 ([env].filterMap (·.frame)) h₀ L m g R (match fl with | .ret v => v | _ => .none) s')
        (fun e s' => wpAny (model prog w) (A.deeper (envOf qual scope L' f cdv)) (leaving (envOf qual scope L' f cdv) e) (fun _ s'' => R (.error e) s'') (fun e' s'' => R (.error e') s'') s')
        { s with heap := h₁, toks := s.toks + binds.length })
    (hco : scope.isCoroutine = false) (hgen : scope.isGenerator = false) (hk : scope.kind = .function)
    (hcell : ∀ x ∈ scope.names, x.2 ≠ .cell) : codeAny (model prog w) A (.call (.ref f) args) R s := by
  have X := X₀.keeps F.keep
  refine codeAny_call_def (fd := fnOf name qual params body scope dV kV doc pm an cdv ct) (body := body) (binds := binds) hroom (X _ _ ho) rfl (T.nolimit.keeps F.keep) (codeRec_of X hcd) rfl hbind hcell hloc (fun h₁ hns hk₁ => ?_) hco hgen hk
  obtain ⟨FG, BG, st, _⟩ := groundX (R := R) B F N hA hf hke
  obtain ⟨oL, es, ep, hLg, hLd, hLk, hLf⟩ := id FG.ns
  refine wpAny_mono (h _ s.heap.objs.size h₁ FG ⟨hns, fun b o e => hk₁ b o (of_hideAll _ e), Nat.le_of_eq (hideAll_size _ _)⟩
    (fun p hp => ⟨hk₁ _ _ (N p hp).1, Nat.ne_of_lt (Heap.lt_size (N p hp).1), hideAll_none _ (List.mem_map_of_mem hp)⟩) BG (X₀.keeps st) (T.keeps st) (fun b hb => by
      rcases mem_any hf hb with rfl | z
      · exact ⟨oL, es, ep, hLg, hLd⟩
      · simp at z)) (fun fl s' hl => ?_) fun _ _ y => y
  obtain ⟨g', L', m', news', T', F', N', k⟩ := hl
  have nL₀ : h₀.get? L = none := kts_self F
  obtain ⟨sl, hs⟩ := T'.up hLg
  refine k ⟨⟨_, es, ep, F'.keep _ _ hs, hLd, hLk, hLf⟩, fun b o e => F'.keep b o (T'.other b o (st b o e) (fun q => by
    rcases mem_any hf q with z | z
    · rw [z, nL₀] at e
      cases e
    · simp at z)), F.above⟩ fun p hp => ⟨(N' p hp).1, fun q => ?_, ?_⟩
  · have := (N' p hp).2.2; rw [q, hs] at this; cases this
  · cases q : h₀.get? p.1 with
    | none => rfl
    | some o =>
      obtain ⟨sl', hs'⟩ := T'.up (st _ _ q)
      have := (N' p hp).2.2
      rw [hs'] at this
      cases this
end

section
variable {M : Model} {A : Around} {E : Value → Shared → Prop} {s' : Shared} {base g h : Heap} {outer : List Env} {L e : Addr} {m : Str → Option Value} {env : Env} {Q : Unit → Shared → Prop} {news : List (Addr × Obj)}
theorem leave_raise_any {cls : Value} {vs : List Value} (K : Below A base outer g) (hx : Heap.MadeExcOf h s'.heap e cls vs) (F : Fr g L h m) (N : News g L h news) (hf : env.frame = some L) (hk : env.scope.kind = .function)
    (hQ : ∀ h' t, RaisedS base g outer e cls t vs news h' → g.UpToSlots h' → Q () { s' with heap := h' }) :
    wpAny M (A.deeper env) (leaving env (.ref e)) Q E s' := by
  have K' := pushX K F hf hk
  have hin : ∀ env' ∈ (env :: outer), ∀ b, env'.frame = some b → b ∈ (env :: outer).filterMap (·.frame) := fun env' he b hb => List.mem_filterMap.mpr ⟨env', he, hb⟩
  have st : base.StaysIn (hideAll h ((env :: outer).filterMap (·.frame))) := fun b o q => hideAll_get _ (K'.stays b o q) fun hm => by
    rw [(K'.frames.mem hm).1] at q; cases q
  have sg : ∀ b o, g.get? b = some o → b ∉ outer.filterMap (·.frame) → (hideAll h ((env :: outer).filterMap (·.frame))).get? b = some o := fun b o q nm => hideAll_get _ (F.keep b o q) fun hm => by
    rcases mem_any hf hm with z | z
    · rw [z, kts_self F] at q
      cases q
    · exact nm z
  have hl : ∀ q ∈ news, (hideAll h ((env :: outer).filterMap (·.frame))).get? q.1 = some q.2 ∧ g.get? q.1 = none ∧ base.get? q.1 = none := fun q hq => by
    refine ⟨hideAll_get _ (N q hq).1 fun hm => ?_, (N q hq).2.2, fresh_of_stays K.stays (N q hq).2.2⟩
    rcases mem_any hf hm with z | z
    · exact (N q hq).2.1 z
    · obtain ⟨o, ho, _⟩ := (K.frames.mem z).2
      rw [(N q hq).2.2] at ho; cases ho
  exact wpAny_leaves_madeW K'.stack hf (fun b o q => of_hideAll _ q) (funFrames_hide K'.frames hin) hx fun h' t x1 x2 x3 x4 =>
    hQ h' t ⟨⟨_, st, sg, hl, x1, x3⟩, x2⟩ (((Heap.UpToSlots.of_keeps F.keep).trans (Heap.UpToSlots.of_keeps hx.keeps)).trans x4)
end
end Mine
end

-- part TB
section
open PySem PySem.W PyProof.Rows PySem.Calls
set_option maxRecDepth 100000
namespace Mine
section
variable {prog : Program} {w : World} {A : Around} {E : Value → Shared → Prop} {s : Shared} {h₀ : Heap} {mg : Str → Option Value} {env : Env} {C : Addr} {B newId initId : String} {bm : List Value}
theorem raise_any {x msg : Str} {np cpos pos p2 : Pos} {k : Nat} {Q : Flow → Shared → Prop} (keep : ∀ b o, h₀.get? b = some o → s.heap.get? b = some o) (hg : h₀.Ns mainGlobals mg) (O : OwnCls x C bm newId mg h₀) (FB : ExcBaseFacts B newId initId bm) (hh : A.handled = none)
    (hfn : env.scope.kind = .function) (hgl : env.globals = mainGlobals) (hx : env.kindOf x = some .globalImplicit) (hd : (x == ("__debug__" : Str)) = false)
    (h : ∀ h' e, Heap.MadeExcOf s.heap h' e (.ref C) [.str msg s.toks] → E (.ref e) { s with heap := h', toks := s.toks + 1 })
    (he : starEach [.Constant (.str msg) k p2] env = (false, eval (.Constant (.str msg) k p2) env) :: starEach [] env := by rfl) :
    wpAny (model prog w) A (exec (.Raise (some (.Call (.Name x np) [.Constant (.str msg) k p2] [] cpos)) none pos) env) Q E s := by
  obtain ⟨tl, N, nm, q, bs, hdct, sn, sub, ab, col, dd, k0, k1, k2, k3, k5, mN, hC, hN, hni, T⟩ := O.obj
  refine wpAny_Raise_call_subT (C := C) (nm := nm) (q := q) (N := N) (bs := bs) (bm := tl) (hdct := hdct) (sn := sn) (sub := sub) (ab := ab) (col := col) (dd := dd) (k0 := k0) (k1 := k1) (k2 := k2) (k3 := k3) (k5 := k5)
    FB (mN := mN) (T.hasType FB.hasBase) hh (by rw [he]; rfl) hni (Calls.Name_function_global hfn hx (Calls.loadGlobal_global (by rw [hgl]; exact hg.keeps keep) O.bound ⟨rfl, ?_⟩) hd)
  rw [he]
  exact Calls.evalArgs_plain (spliced_more (Calls.Constant_str (spliced_none ⟨rfl, by rw [sizeLine_eq]; show 1 ≤ 16777216; lia, keep _ _ hC, hN.keeps keep, T.keeps keep, h⟩)) he)
end
end Mine
end

-- part TC
section
open PySem PySem.W PyProof.Rows PySem.Calls
set_option maxRecDepth 100000
set_option maxHeartbeats 8000000
namespace Mine
theorem cells_at {cm : Str → Option Value} {g h : Heap} {L : Addr} {news : List (Addr × Obj)} : ∀ {cs : List (Str × Addr)} {cells : List (Addr × Obj)}, CellsAre cm cs cells → News g L h (cells ++ news) → ∀ {n : Str} {c : Addr}, (n, c) ∈ cs → h.IsCell c (cm n)
  | _, _, .nil, _, _, _, hm => by cases hm
  | _, _, .cons d r, N, n, c, hm => by
    rcases List.mem_cons.mp hm with e | hm
    · cases e
      exact ⟨_, (N _ (List.mem_append.mpr (.inl (.head _)))).1, d⟩
    · exact cells_at r (fun p hp => N p (List.mem_append.mpr (by
        rcases List.mem_append.mp hp with q | q
        · exact .inl (.tail _ q)
        · exact .inr q))) hm
theorem gb_of {K : Frag} {p : Program} {loose : List Str} {mean : ExcName → Option Value} {mg mb : Str → Option Value} {g : Heap} (X : K.In g) (T : Top p loose mean mg mb g)
    (e1 : nsIn K mainGlobals "len" = some none) (e2 : nsIn K mainGlobals "sum" = some none) (e3 : nsIn K mainGlobals "sorted" = some none) (e4 : nsIn K mainGlobals "range" = some none) (e5 : nsIn K mainGlobals "int" = some none) : GB g := by
  have key : ∀ (x : Str) v, nsIn K mainGlobals x = some none → bootBuiltins x = some v → x ≠ "__name__" → GBx g x v := fun x v a b c => ⟨mg, mb, T.g, T.b, mg_none_of X T.g a, (T.builtins x c).trans b⟩
  exact ⟨key _ _ e1 (by boot_by_name) (by decide), key _ _ e2 (by boot_by_name) (by decide), key _ _ e3 (by boot_by_name) (by decide), key _ _ e4 (by boot_by_name) (by decide), key _ _ e5 (by boot_by_name) (by decide)⟩
theorem Ns_lt {h : Heap} {a : Addr} {m : Str → Option Value} (x : h.Ns a m) : a < h.objs.size := by
  obtain ⟨o, _, _, e, _⟩ := x
  exact Heap.lt_size e

theorem told_call {w : World} {loose : List Str} {mean : ExcName → Option Value} {mg mb : Str → Option Value} (dp un : Nat) (gd : Option (List Code)) (cn : Str) (cs : Scope) (a : Addr) (ccd : Value) (cl : List (Str × Addr)) (A₀ : Around) (h₀ : Heap) (L : Addr) (m : Str → Option Value) (news : List (Addr × Obj)) (s : Shared)
    (Q E : Value → Shared → Prop) (name : Str) (tn : Tok) (l : Addr) (vs : List Value) (ns : List Int) (nn : Nat) (st : Nat) (tk : Tok) (b : Bool) (fam : Fam)
    (B : Below A₀ h₀ [] h₀) (F : Fr h₀ L s.heap m) (X : (Mine.hd.heap_39 w.params).In h₀) (N : News h₀ L s.heap news) (T : Top Mine.hd.view_39 loose mean mg mb h₀) (hk : cs.kind = .function)
    (hl : (l, W.listOf vs.toArray nn) ∈ news) (hi : IntsAre vs ns) (hd : dp + 5 < recursionLimit) (hu : un + 40 < cLine)
    (hn : ns.length ≤ 3) (hn0 : 1 ≤ ns.length) (hpos : ∀ x ∈ ns, 0 < x) (hbits : ∀ v ∈ ns, Builtin.Int.intBits v ≤ 2 ^ 21) (hst : st ≤ 33) (hfam : famIs name fam) (hA : baseOf fam * ns.length ≤ st)
    (hlist : ∀ res tie h' tk' D out nn', Outc fam st ns res tie → (b = false → tie = false) → Fr h₀ L h' m → News h₀ L h' ((D, W.listOf (List.toArray out) nn') :: news) → IntsAre out res → Q (.ref D) { s with heap := h', toks := tk' })
    (hnone : b = false → ∀ res h' tk', Outc fam st ns res true → Fr h₀ L h' m → News h₀ L h' news → Q .none { s with heap := h', toks := tk' }) :
    wpAny (model PySem.Challenge.rw_af0001_01.row.prog w) (ktrTop dp un gd cn cs L a ccd cl []) (call (.ref 61) [.str name tn, .ref l, .int (st : Int) tk, .bool b]) Q E s := by
  revert X; k_fill; intro X
  refine wpAny_call ?_
  refine' defS0_any ?k1 ?k2 ?k3 ?k4 ?k5 ?kA ?kF ?kK ?k6 ?k7 ?k8 ?k9 ?kB ?_ ?c2 ?c3 ?c4 ?c5
  case kA => exact rfl
  case kF => exact rfl
  case kK => exact hk
  case k1 => exact B
  case k2 => exact F
  case k3 => exact X
  case k4 => exact N
  case k5 => exact T
  case k6 => k_is
  case k7 => k_is
  case k8 => ktr_room
  case k9 => exact BindsTo.of_eq rfl
  case kB => exact locs rfl
  case c2 => exact rfl
  case c3 => exact rfl
  case c4 => exact rfl
  case c5 => decide
  k_whole
  intro g1 L1 h1 FG1 F1 N1 B1 X1 T1 D1
  try dsimp only
  try k_fold
  iterate 30 (try any_goals first | (k_unfold; (try dsimp only)) | walk1 | (dsimp only; walk1))
  refine wpAny_call ?_
  refine' code_defC ?k1 ?k2 ?k3 ?k4 ?k5 ?kA ?kF ?kK ?k6 ?k7 ?k8 ?k9 ?kB ?kD ?_ ?c2 ?c3 ?c4
  case kA => exact rfl
  case kF => exact rfl
  case kK => exact rfl
  case k1 => k_asm
  case k2 => k_asm
  case k3 => k_asm
  case k4 => k_asm
  case k5 => k_asm
  case k6 => k_is
  case k7 => k_is
  case k8 => ktr_room
  case k9 => exact binds_K (by k_in) rfl (by k_is) rfl rfl rfl
  case kB => exact rfl
  case kD => decide +kernel
  case c2 => exact rfl
  case c3 => exact rfl
  case c4 => exact rfl
  k_whole
  intro g2 L2 h2 tk2 cells2 FG2 F2 N2 Y2 B2 X2 T2 l2
  have G2 : GB g2 := gb_of X2 T2 (by k_is) (by k_is) (by k_is) (by k_is) (by k_is)
  have B9 : Base h2 L2 := ⟨G2.at (fun o e => F2.keep _ o e) (fun o e => F2.keep _ o e), Nat.lt_of_lt_of_le (Ns_lt T2.g) F2.above, Nat.lt_of_lt_of_le (Ns_lt T2.b) F2.above⟩
  have c1 := cells_at Y2 N2 (n := "representatives") (c := L2 + 1) (List.mem_of_getElem? (i := 4) (by rfl))
  have c2 := cells_at Y2 N2 (n := "divisors") (c := L2 + 1 + 1) (List.mem_of_getElem? (i := 3) (by rfl))
  have c3 := cells_at Y2 N2 (n := "common") (c := L2 + 1 + 1 + 1) (List.mem_of_getElem? (i := 2) (by rfl))
  have c4 := cells_at Y2 N2 (n := "weights") (c := L2 + 1 + 1 + 1 + 1) (List.mem_of_getElem? (i := 1) (by rfl))
  have c5 := cells_at Y2 N2 (n := "minweight") (c := L2 + 1 + 1 + 1 + 1 + 1) (List.mem_of_getElem? (i := 0) (by rfl))
  have Fm2 : Fm h2 L2 _ _ _ _ _ _ h2 := ⟨F2.ns, c1, c2, c3, c4, c5, fun b o _ e => e⟩
  have hlN : (l, W.listOf vs.toArray nn) ∈ cells2 ++ news := List.mem_append.mpr (.inr hl)
  have hvL : ILst h2 l ns := ⟨vs, ⟨nn, (N2 _ hlN).1⟩, hi⟩
  have hout : ∀ h9 m9 uR uD uC uW uM, Fm h2 L2 m9 uR uD uC uW uM h9 → Fr g2 L2 h9 m9 ∧ News g2 L2 h9 news := fun h9 m9 uR uD uC uW uM F9 =>
    ⟨⟨F9.ns, fun b o e => F9.kp b o (Nat.lt_of_lt_of_le (Heap.lt_size e) F2.above) (F2.keep b o e), F2.above⟩, fun p hp => by
      obtain ⟨a1, a2, a3⟩ := N2 p (List.mem_append.mpr (.inr hp))
      exact ⟨F9.kp _ _ (l2 p hp) a1, a2, a3⟩⟩
  refine body (fam := fam) (k := name) (st := st) (al := b) rfl B9 Fm2 (by rfl) hvL hn hpos hbits (by rfl) (by rfl) (by rfl) hst hfam hA hn0 ?_ ?_
  · intro hb res ho h9 tk9 m9 uR uD uC uW uM p1 p2 p3 p4 kk F9
    obtain ⟨F8, N8⟩ := hout _ _ _ _ _ _ _ F9
    refine wpAny_passesOwn PassesOwn.leaving ?_
    have O2 := own_of_in X2 (topRead_of T2) (x := "TiesException") (C := 24) (bmB := [.type "Exception", .type "BaseException", .type "object"]) (newId := "Exception.__new__") (by k_is) (by k_exc)
    refine raise_any F8.keep T2.g O2 PySem.F.excBase_Exception rfl rfl rfl (by rfl) (by decide) fun h7 e7 x7 => ?_
    refine leave_raise_any B2 x7 F8 N8 rfl rfl fun h6 t6 R6 U6 => ?_
    refine caught_SO0 R6 FG2 B1 U6 X T D1 KtsTurn.refl (by k_is) (by kts_isx) (fun h5 g5 news5 t5 F5 _ _ N5 _ _ _ _ => ?_)
    refine wpAny_execs_cons (wpAny_Return_some (wpAny_Constant_none ?_))
    exact ⟨_, _, _, _, t5, F5, N5, fun F4 N4 => hnone hb res h5 _ ho F4 N4⟩
  · intro res tie h9 tk9 D ho htie hD hN ⟨m9, uR, uD, uC, uW, uM, F9⟩
    obtain ⟨F8, N8'⟩ := hout _ _ _ _ _ _ _ F9
    obtain ⟨out, ⟨nn', hDo⟩, hout⟩ := hD
    have N8 : News g2 L2 h9 ((D, W.listOf out.toArray nn') :: news) := fun p hp => by
      rcases List.mem_cons.mp hp with rfl | hp
      · refine ⟨hDo, fun e => ?_, ?_⟩
        · obtain ⟨o, _, _, e1, e2, _⟩ := F9.ns
          have e : D = L2 := e
          rw [← e, hDo] at e1
          rw [← Option.some.inj e1] at e2
          cases e2
        · show g2.get? D = none
          cases e1 : g2.get? D with
          | none => rfl
          | some o => exact absurd rfl (hN D o (Nat.lt_of_lt_of_le (Heap.lt_size e1) F2.above) (F2.keep _ _ e1))
      · exact N8' p hp
    exact ⟨_, _, _, F8, N8, fun F7 N7 => ⟨_, _, _, _, KtsTurn.refl, F7, N7, fun F6 N6 => hlist res tie h9 tk9 D out nn' ho htie F6 N6 hout⟩⟩
end Mine
end

-- part LA
section
open PySem PySem.W PyProof.Rows PySem.Calls
set_option maxRecDepth 100000
namespace Mine
def lawParts : Option (List Stmt × Scope) := match PySem.Challenge.pw_af0001_01.main.body with
  | _ :: _ :: _ :: _ :: _ :: _ :: _ :: _ :: .FunctionDef _ _ body _ _ _ scope _ _ _ :: _ => some (body, scope)
  | _ => none
def lawBody : List Stmt := match lawParts with | some p => p.1 | none => []
def lawScope : Scope := match lawParts with | some p => p.2 | none => { kind := .function, names := [], isGenerator := false, isCoroutine := false, more := [] }
abbrev lEnv (L f : Addr) (cd : Value) : Env := envOfC "law" lawScope L f cd
theorem lEnv_ok (L f : Addr) (cd : Value) : EnvOk (lEnv L f cd) := ⟨rfl, rfl, rfl⟩

structure Lm (h₀ : Heap) (L : Addr) (m : Str → Option Value) (oC : Obj) (news : List (Addr × Obj)) (h : Heap) : Prop where
  F : Fr h₀ L h m
  N : News h₀ L h ((L + 1, oC) :: news)

/-- a list of ints among the made things -/
def IL (news : List (Addr × Obj)) (D : Addr) (ns : List Int) : Prop := ∃ vs nn, (D, W.listOf (List.toArray vs) nn) ∈ news ∧ IntsAre vs ns
theorem IL.tail {news : List (Addr × Obj)} {D : Addr} {ns : List Int} (p : Addr × Obj) (x : IL news D ns) : IL (p :: news) D ns := let ⟨vs, nn, a, b⟩ := x; ⟨vs, nn, .tail _ a, b⟩

section
variable {h₀ h h' : Heap} {L : Addr} {m m' : Str → Option Value} {oC : Obj} {news : List (Addr × Obj)}
theorem Lm.grow (x : Lm h₀ L m oC news h) (k : ∀ b o, h.get? b = some o → h'.get? b = some o) : Lm h₀ L m oC news h' :=
  ⟨⟨x.F.ns.keeps k, fun b o e => k b o (x.F.keep b o e), x.F.above⟩, fun p hp => ⟨k _ _ (x.N p hp).1, (x.N p hp).2⟩⟩
theorem Lm.add {D : Addr} {o : Obj} (x : Lm h₀ L m oC news h) (k : ∀ b o, h.get? b = some o → h'.get? b = some o) (hD : h.get? D = none) (hD' : h'.get? D = some o) : Lm h₀ L m oC ((D, o) :: news) h' := by
  have g := x.grow k
  refine ⟨g.F, fun p hp => ?_⟩
  rcases List.mem_cons.mp hp with rfl | hp
  · exact g.N _ (.head _)
  · rcases List.mem_cons.mp hp with rfl | hp
    · refine ⟨hD', fun e => ?_, ?_⟩
      · obtain ⟨oL, _, _, e1, _⟩ := x.F.ns
        rw [show D = L from e] at hD
        rw [hD] at e1; cases e1
      · show h₀.get? D = none
        cases q : h₀.get? D with
        | none => rfl
        | some o' => rw [x.F.keep _ _ q] at hD; cases hD
    · exact g.N p (.tail _ hp)
theorem Lm.stL (x : Lm h₀ L m oC news h) (hn : h'.Ns L m') (hs : Heap.SameBut L h h') : Lm h₀ L m' oC news h' :=
  ⟨x.F.set hn hs, fun p hp => ⟨hs.extBut p.1 p.2 (x.N p hp).2.1 (x.N p hp).1, (x.N p hp).2⟩⟩
theorem Lm.get (x : Lm h₀ L m oC news h) {p : Addr × Obj} (hp : p ∈ news) : h.get? p.1 = some p.2 := (x.N p (.tail _ hp)).1
theorem Lm.il {D : Addr} {ns : List Int} (x : Lm h₀ L m oC news h) (i : IL news D ns) : ILst h D ns := let ⟨vs, nn, a, b⟩ := i; ⟨vs, ⟨nn, x.get a⟩, b⟩
theorem Lm.cell {v : Option Value} (x : Lm h₀ L m oC news h) (hc : oC.data = .cell v) : h.IsCell (L + 1) v := ⟨oC, (x.N _ (.head _)).1, hc⟩
end

/-- what the law finds written -/
structure LB (h₀ : Heap) : Prop where
  gb : GB h₀
  ab : GBx h₀ "abs" (.builtin "abs")
  top : ∃ mg, h₀.Ns mainGlobals mg ∧ mg "_law_told" = some (.ref 61) ∧ mg "_law_jefferson" = some (.ref 47) ∧ mg "_law_webster" = some (.ref 54)
theorem Lm.gb {h₀ h : Heap} {L : Addr} {m : Str → Option Value} {oC : Obj} {news : List (Addr × Obj)} (x : Lm h₀ L m oC news h) (B : LB h₀) : GB h := B.gb.at (fun o e => x.F.keep _ o e) fun o e => x.F.keep _ o e

section
variable {prog : Program} {w : World} {A : Around} {E : Value → Shared → Prop} {s : Shared} {h₀ : Heap} {L f : Addr} {cd : Value} {m : Str → Option Value} {oC : Obj} {news : List (Addr × Obj)}
theorem lnm {x : Str} {pos : Pos} {v : Value} {Q : Value → Shared → Prop} (F : Lm h₀ L m oC news s.heap) (hv : m x = some v) (h : Q v s) (hx : (lEnv L f cd).kindOf x = some .local := by rfl) (hd : (x == ("__debug__" : Str)) = false := by decide) :
    wpAny (model prog w) A (eval (.Name x pos) (lEnv L f cd)) Q E s := wpAny_Name (wpAny_loadName_local rfl hx F.F.ns hv h) hd
theorem ldef {x : Str} {pos : Pos} {v : Value} {mg : Str → Option Value} {Q : Value → Shared → Prop} (F : Lm h₀ L m oC news s.heap) (hg : h₀.Ns mainGlobals mg) (hv : mg x = some v) (h : Q v s) (hx : (lEnv L f cd).kindOf x = some .globalImplicit := by rfl) (hd : (x == ("__debug__" : Str)) = false := by decide) :
    wpAny (model prog w) A (eval (.Name x pos) (lEnv L f cd)) Q E s :=
  Calls.Name_function_global rfl hx (Calls.loadGlobal_global (env := lEnv L f cd) (hg.keeps F.F.keep) hv h) hd
theorem lasg {x : Str} {px pos : Pos} {e : Expr} {Q : Flow → Shared → Prop}
    (h : wpAny (model prog w) A (eval e (lEnv L f cd)) (fun v s₁ => ∃ m oC news, Lm h₀ L m oC news s₁.heap ∧ ∀ h' tk, Lm h₀ L (put m x v) oC news h' → Q .next { s₁ with heap := h', toks := tk }) E s)
    (hx : (lEnv L f cd).kindOf x = some .local := by rfl) (hsw : swapsWith e (some (.Name x px)) pos.line (lEnv L f cd) = pure false := by rfl) :
    wpAny (model prog w) A (exec (.Assign [.Name x px] e pos) (lEnv L f cd)) Q E s := by
  refine wpAny_Assign_Name (wpAny_mono h (fun v s₁ h₁ => ?_) fun _ _ q => q) hsw
  obtain ⟨_, _, _, F, k⟩ := h₁
  exact wpAny_storeName_local hx F.F.ns (fun h' hn hs => k h' _ (F.stL hn hs)) rfl

def headZ (ns : List Int) : Int := if 0 < ns.length then ns.getD 0 0 else 5
/-- head = script[0] if script else 5 -/
theorem ev_head {q1 q2 q3 q4 q5 q6 : Pos} {k1 k2 : Nat} {l : Addr} {vs : List Value} {ns : List Int} {Q : Value → Shared → Prop} (F : Lm h₀ L m oC news s.heap) (hs : m "script" = some (.ref l)) (hl : h₀.IsList l vs.toArray) (hi : IntsAre vs ns) (hlay : PyData.layable0 (.list (ns.map .int)) = true)
    (h : ∀ tk t, Q (.int (headZ ns) t) { s with toks := tk }) :
    wpAny (model prog w) A (eval (.IfExp (.Name "script" q1) (.Subscript (.Name "script" q2) (.Constant (.int 0) k1 q3) q4) (.Constant (.int 5) k2 q5) q6) (lEnv L f cd)) Q E s := by
  have hl' : s.heap.IsList l vs.toArray := hl.at fun o e => F.F.keep _ o e
  refine wpAny_IfExp (wpAny_isTrue_value (lnm F hs (truthy_list_ints hl' hi hlay ?_)))
  by_cases hn : 0 < ns.length
  · rw [if_pos (by simpa using hn)]
    refine Subscript_ (lnm (s := { s with toks := s.toks + 1 + 1 }) F hs (wpAny_Constant_int ?_))
    refine item_list_ints hl' hi (by lia) (by lia) (by lia) fun t => ?_
    have := h (s.toks + 1 + 1 + 1) t
    simpa [headZ, hn] using this
  · rw [if_neg (by simpa using hn)]
    refine wpAny_Constant_int ?_
    have := h (s.toks + 1 + 1 + 1) (s.toks + 1 + 1)
    simpa [headZ, hn] using this
end
end Mine
end

-- part LC
section
open PySem PySem.W PyProof.Rows PySem.Calls
set_option maxRecDepth 100000
namespace Mine

structure ScA (sc : Scope) : Prop where
  kd : sc.kind = .function
  nm : sc.names = [(Str.ofString ".0", .local), (Str.ofString "number", .local), (Str.ofString "abs", .globalImplicit)]
theorem ScA.clos {sc : Scope} (h : ScA sc) (env : Env) : closureFor sc env = pure [] := by unfold closureFor; rw [h.nm]; rfl
theorem ScA.names {sc : Scope} (h : ScA sc) : ∀ y ∈ sc.names, y.2 = .local → sc.names.lookup y.1 = some .local := by rw [h.nm]; decide
theorem ScA.cells {sc : Scope} (h : ScA sc) (x : Str) : ∀ n cl (hp : Heap), cellsFrom n sc.names cl = (if false = true then (x, n) :: cl else cl) ∧ pushCells hp sc.names = if false = true then hp.push cellO else hp := by rw [h.nm]; exact fun _ _ _ => ⟨rfl, rfl⟩
theorem ScA.at {sc : Scope} (h : ScA sc) (env : Env) : (relabel sc env).names.lookup (Str.ofString "number") = some NameKind.local := by
  have e : (relabel sc env).names = sc.names.map _ := rfl
  rw [e, h.nm]; rfl
theorem ScA.atg {sc : Scope} (h : ScA sc) (env : Env) : (relabel sc env).names.lookup (Str.ofString "abs") = some NameKind.globalImplicit := by
  have e : (relabel sc env).names = sc.names.map _ := rfl
  rw [e, h.nm]; rfl

theorem bits_abs {x : Int} {n : Nat} (h : Builtin.Int.intBits x ≤ n) : Builtin.Int.intBits ((if x < 0 then -x else x) + 1) ≤ n + 1 := by
  rw [bits_iff] at h ⊢
  have e : ((if x < 0 then -x else x) + 1).natAbs = x.natAbs + 1 := by split <;> lia
  rw [e, Nat.pow_succ]
  lia

section
variable {prog : Program} {w : World} {A : Around} {E : Value → Shared → Prop} {s : Shared} {h₀ : Heap} {L f : Addr} {cd : Value} {m : Str → Option Value} {oC : Obj} {news : List (Addr × Obj)}

theorem ev_votes {sc : Scope} {q1 q2 q3 q4 q5 q6 q7 q8 q9 q10 q11 q12 q13 q14 q15 : Pos} {k1 k2 k3 k4 : Nat} {l : Addr} {vs : List Value} {ns : List Int} {Q : Value → Shared → Prop} (H : ScA sc) (hh : A.handled = none) (B : LB h₀) (F : Lm h₀ L m oC news s.heap) (hs : m "script" = some (.ref l)) (hl : h₀.IsList l vs.toArray) (hi : IntsAre vs ns) (hlay : PyData.layable0 (.list (ns.map .int)) = true)
    (h : ∀ h' tk D out vts nn, Lm h₀ L m oC ((D, W.listOf (List.toArray out) nn) :: news) h' → IntsAre out vts → vts.length ≤ 3 → 1 ≤ vts.length → (∀ x ∈ vts, 0 < x) → (∀ x ∈ vts, Builtin.Int.intBits x ≤ 2 ^ 21) → Q (.ref D) { s with heap := h', toks := tk }) :
    wpAny (model prog w) A (eval (.BoolOp .Or [.ListComp (.BinOp (.Call (.Name "abs" q1) [.Name "number" q2] [] q3) .Add (.Constant (.int 1) k1 q4) q5) [⟨.Name "number" q6, .Subscript (.Name "script" q7) (.Slice (some (.Constant (.int 1) k2 q8)) (some (.Constant (.int 4) k3 q9)) none q10) q11, [], 0⟩] sc q12, .List [.Constant (.int 1) k4 q13] q14] q15) (lEnv L f cd)) Q E s := by
  have hl' : s.heap.IsList l vs.toArray := hl.at fun o e => F.F.keep _ o e
  have hlen := hi.length
  have h20 := len_ints_list hlay
  refine wpAny_Or2 (comp_list false (isInt' fun i => (fun x : Int => (if x < 0 then -x else x) + 1) (((ns.drop (clipAt ns.length 1)).take (clipAt ns.length 4 - clipAt ns.length 1)).getD i 0)) hh (H.clos _) H.kd H.names (H.cells _) (H.at _) ?_)
  refine Subscript_ (lnm F hs (wpAny_Slice (wpAny_Constant_int (k := k2) (pos := q8) (wpAny_Constant_int (k := k3) (pos := q9) (wpAny_pure ?_)))))
  dsimp only
  generalize hH1 : s.heap.push { cls := .type "slice", data := .fields #[.int 1 s.toks, .int 4 (s.toks + 1), .none] } = H1
  have k1 : ∀ b o, s.heap.get? b = some o → H1.get? b = some o := fun b o e => hH1 ▸ Heap.get?_push_of_some _ e
  have hsl : H1.IsSliceOf s.heap.objs.size (.int 1 s.toks) (.int 4 (s.toks + 1)) .none := ⟨_, hH1 ▸ Heap.get?_push_size _ rfl, rfl, rfl⟩
  have hl1 : H1.IsList l vs.toArray := hl'.at fun o e => k1 _ o e
  have hpick := slice_ints_plain hi 1 4
  generalize hsl2 : (ns.drop (clipAt ns.length 1)).take (clipAt ns.length 4 - clipAt ns.length 1) = sl at hpick
  have hsub : ∀ x ∈ sl, x ∈ ns := fun x hx => by rw [← hsl2] at hx; exact List.mem_of_mem_drop (List.mem_of_mem_take hx)
  have hsl3 : sl.length ≤ 3 := by
    rw [← hsl2, List.length_take, List.length_drop]
    have a := clipAt_in (n := ns.length) (x := 1)
    have b := clipAt_min (n := ns.length) (y := 4) (by lia)
    have c := clipAt_min (n := ns.length) (y := 1) (by lia)
    split at b <;> split at c <;> lia
  refine tail_any (ops := [.ref s.heap.objs.size, .ref l]) (s := { s with heap := H1, toks := s.toks + 1 + 1 }) hl1.typeIs slot_list_getitem.lookup (wpAny_getItem_list_slice hl1 hsl (.int 1 _) (.int 4 _) .none (by simp) ?_ (by rw [sizeLine_eq, List.size_toArray]; lia)) (by with_unfolding_all rfl)
  dsimp only
  generalize hH2 : H1.push { cls := .type "list", data := .seq (slicePick vs.toArray (some 1) (some 4) none) } = H2
  have k2 : ∀ b o, s.heap.get? b = some o → H2.get? b = some o := fun b o e => hH2 ▸ Heap.get?_push_of_some _ (k1 b o e)
  have hL2 : H2.IsList H1.objs.size (slicePick vs.toArray (some 1) (some 4) none) := ⟨_, hH2 ▸ Heap.get?_push_size _ rfl, rfl, _, rfl⟩
  have hsz : (slicePick vs.toArray (some 1) (some 4) none).size = sl.length := by rw [← Array.length_toList]; exact hpick.length
  refine ⟨_, _, rfl, hL2, by rw [sizeLine_eq, hsz]; lia, fun C i v s₃ E' hC hiv hb hk => ?_, fun D h' tk ys hD hpl hys hF hk => ?_⟩
  · obtain ⟨m', hn', hm'⟩ := hb
    obtain ⟨x, t, rfl, ex⟩ := hpick.at i v (by rw [Array.getElem?_toList]; exact hiv)
    have G3 : GBx s₃.heap "abs" (.builtin "abs") := B.ab.at (fun o e => hk _ o (k2 _ o (F.F.keep _ o e))) fun o e => hk _ o (k2 _ o (F.F.keep _ o e))
    refine wpAny_BinOp (callB1 G3 ⟨by simp [compEnvC, relabel, H.kd], rfl, rfl⟩ (H.atg _) (wpAny_Name (wpAny_loadName_local (by simp [compEnvC, relabel, H.kd]) (H.at _) hn' hm' (call_abs_int fun u tk => wpAny_Constant_int (P.add_int ?_))) (by decide)))
    have e : (if x < 0 then -x else x) + 1 = (fun x : Int => (if x < 0 then -x else x) + 1) (sl.getD i 0) := by rw [List.getD_eq_getElem?_getD, ex]; rfl
    exact mk_val (s₃ := s₃) (h' := s₃.heap) ⟨_, congrArg (fun x => Value.int x _) e, rfl⟩ fun _ _ e => e
  · have k3 : ∀ b o, s.heap.get? b = some o → h'.get? b = some o := fun b o e => hk b o (k2 b o e)
    have hIL := ilst_of (g := fun i => (fun x : Int => (if x < 0 then -x else x) + 1) (sl.getD i 0)) (P := fun _ _ => True) (n := sl.length) hpl (by rw [hys, hsz]) fun j hj => by
      obtain ⟨y, xo, a, b, _⟩ := hF j ((slicePick vs.toArray (some 1) (some 4) none)[j]'(by rw [hsz]; exact hj)) (by simp [hsz, hj])
      exact ⟨_, y, xo, trivial, a, b⟩
    have e1 : (List.range sl.length).map (fun i => (fun x : Int => (if x < 0 then -x else x) + 1) (sl.getD i 0)) = sl.map (fun x : Int => (if x < 0 then -x else x) + 1) := by
      refine List.ext_getElem (by simp) fun i h1 h2 => ?_
      simp only [List.length_map] at h2
      simp [List.getD_eq_getElem?_getD, List.getElem?_eq_getElem h2]
    rw [e1] at hIL
    obtain ⟨out, ⟨nn, hout⟩, hI⟩ := hIL
    have hlen2 := hI.length
    rw [List.length_map] at hlen2
    have hlD : h'.IsList D out.toArray := ⟨_, hout, rfl, _, rfl⟩
    refine wpAny_truthy_list hlD (by rw [List.size_toArray]; lia) ?_
    by_cases h0 : sl.length = 0
    · have e0 : out = [] := List.eq_nil_of_length_eq_zero (by lia)
      subst e0
      rw [if_neg (by simp)]
      refine List_ (spliced_more (wpAny_Constant_int (spliced_none (wpAny_newList ?_ (by size_fits)))))
      dsimp only
      refine h _ _ _ [.int 1 (tk + 1 + 1)] [1] 0 ((F.grow k3).add (fun b o e => Heap.get?_push_of_some _ e) (get_size _) (Heap.get?_push_size _ rfl)) (.cons 1 _ .nil) (by simp) (by simp) (by simp) (by simp; decide)
    · rw [if_pos (by
        cases out with
        | nil => exact absurd hlen2.symm h0
        | cons a b => simp)]
      refine h h' _ D out _ nn (F.add k3 ?_ hout) hI (by rw [List.length_map]; exact hsl3) (by rw [List.length_map]; lia) ?_ ?_
      · cases e : s.heap.get? D with
        | none => rfl
        | some o => rw [k2 _ _ e] at hD; cases hD
      · intro x hx
        obtain ⟨y, _, rfl⟩ := List.mem_map.mp hx
        show 0 < (if y < 0 then -y else y) + 1
        split <;> lia
      · intro x hx
        obtain ⟨y, hy, rfl⟩ := List.mem_map.mp hx
        exact Nat.le_trans (bits_abs (PyData.bits_item_of_ints hlay (hsub y hy))) (by decide)
end
end Mine
end

-- part LD
section
open PySem PySem.W PyProof.Rows PySem.Calls
set_option maxRecDepth 100000
set_option maxHeartbeats 8000000
namespace Mine
theorem jeff_call {w : World} {loose : List Str} {mean : ExcName → Option Value} {mg mb : Str → Option Value} (dp un : Nat) (gd : Option (List Code)) (cn : Str) (cs : Scope) (a : Addr) (ccd : Value) (cl : List (Str × Addr)) (outer : List Env) (A₀ : Around) (base h₀ : Heap) (L : Addr) (m : Str → Option Value) (news : List (Addr × Obj)) (s : Shared)
    (Q E : Value → Shared → Prop)
    (B : Below A₀ base outer h₀) (F : Fr h₀ L s.heap m) (X : (Mine.hd.heap_39 w.params).In h₀) (N : News h₀ L s.heap news) (T : Top Mine.hd.view_39 loose mean mg mb h₀) (hk : cs.kind = .function)
    (hd : dp + 5 < recursionLimit) (hu : un + 40 < cLine)
    (hQ : ∀ h' tk' D vs nn, Fr h₀ L h' m → News h₀ L h' ((D, W.listOf (List.toArray vs) nn) :: news) → StrsAre vs ["dhondt", "jefferson", "greatestdivisors"] → Q (.ref D) { s with heap := h', toks := tk' }) :
    wpAny (model PySem.Challenge.rw_af0001_01.row.prog w) (ktrTop dp un gd cn cs L a ccd cl outer) (call (.ref 47) []) Q E s := by
  revert X; k_fill; intro X
  refine wpAny_call ?_
  ktr_enter
  iterate 20 (try any_goals first | (k_unfold; (try dsimp only)) | walk1 | (dsimp only; walk1))
  exact hQ _ _ _ [_, _, _] _ (by assumption) (by assumption) (.cons _ _ (.cons _ _ (.cons _ _ .nil)))
theorem webs_call {w : World} {loose : List Str} {mean : ExcName → Option Value} {mg mb : Str → Option Value} (dp un : Nat) (gd : Option (List Code)) (cn : Str) (cs : Scope) (a : Addr) (ccd : Value) (cl : List (Str × Addr)) (outer : List Env) (A₀ : Around) (base h₀ : Heap) (L : Addr) (m : Str → Option Value) (news : List (Addr × Obj)) (s : Shared)
    (Q E : Value → Shared → Prop)
    (B : Below A₀ base outer h₀) (F : Fr h₀ L s.heap m) (X : (Mine.hd.heap_39 w.params).In h₀) (N : News h₀ L s.heap news) (T : Top Mine.hd.view_39 loose mean mg mb h₀) (hk : cs.kind = .function)
    (hd : dp + 5 < recursionLimit) (hu : un + 40 < cLine)
    (hQ : ∀ h' tk' D vs nn, Fr h₀ L h' m → News h₀ L h' ((D, W.listOf (List.toArray vs) nn) :: news) → StrsAre vs ["saintelague", "webster", "majorfractions"] → Q (.ref D) { s with heap := h', toks := tk' }) :
    wpAny (model PySem.Challenge.rw_af0001_01.row.prog w) (ktrTop dp un gd cn cs L a ccd cl outer) (call (.ref 54) []) Q E s := by
  revert X; k_fill; intro X
  refine wpAny_call ?_
  ktr_enter
  iterate 20 (try any_goals first | (k_unfold; (try dsimp only)) | walk1 | (dsimp only; walk1))
  exact hQ _ _ _ [_, _, _] _ (by assumption) (by assumption) (.cons _ _ (.cons _ _ (.cons _ _ .nil)))

theorem keepT {w : World} {h : Heap} (X : (Mine.hd.heap_39 w.params).In h) : keepIn (Mine.hd.heap_39 w.params) (.ref 61) = true := by
  revert X; k_fill; intro X; k_is
theorem keepJ {w : World} {h : Heap} (X : (Mine.hd.heap_39 w.params).In h) : keepIn (Mine.hd.heap_39 w.params) (.ref 47) = true := by
  revert X; k_fill; intro X; k_is
theorem keepW {w : World} {h : Heap} (X : (Mine.hd.heap_39 w.params).In h) : keepIn (Mine.hd.heap_39 w.params) (.ref 54) = true := by
  revert X; k_fill; intro X; k_is
theorem lb_of {w : World} {loose : List Str} {mean : ExcName → Option Value} {mg mb : Str → Option Value} {h : Heap} (X : (Mine.hd.heap_39 w.params).In h) (T : Top Mine.hd.view_39 loose mean mg mb h) : LB h := by
  revert X; k_fill; intro X
  refine ⟨gb_of X T (by k_is) (by k_is) (by k_is) (by k_is) (by k_is), ⟨mg, mb, T.g, T.b, mg_none_of X T.g (by k_is), (T.builtins _ (by decide)).trans (by boot_by_name)⟩, mg, T.g, mg_of X T.g (by k_is), mg_of X T.g (by k_is), mg_of X T.g (by k_is)⟩
end Mine
end

-- part LE
section
open PySem PySem.W PyProof.Rows PySem.Calls
set_option maxRecDepth 100000
namespace Mine

abbrev lP (w : World) : Program := PySem.Challenge.rw_af0001_01.row.prog
abbrev lA (dp un : Nat) (gd : Option (List Code)) (L f : Addr) (cd : Value) : Around := ktrTop dp un gd "law" lawScope L f cd (cellsFrom (L + 1) lawScope.names []) []

/-- what stands while the law runs -/
structure Ctx0 (w : World) (loose : List Str) (mean : ExcName → Option Value) (mg mb : Str → Option Value) (A₀ : Around) (h₀ : Heap) (dp un : Nat) : Prop where
  B : Below A₀ h₀ [] h₀
  X : (Mine.hd.heap_39 w.params).In h₀
  T : Top Mine.hd.view_39 loose mean mg mb h₀
  hd : dp + 5 < recursionLimit
  hu : un + 100 < cLine

section
variable {w : World} {loose : List Str} {mean : ExcName → Option Value} {mg mb : Str → Option Value} {A₀ : Around} {dp un : Nat} {gd : Option (List Code)} {E : Value → Shared → Prop} {s : Shared} {h₀ : Heap} {L f : Addr} {cd : Value} {m : Str → Option Value} {oC : Obj} {news : List (Addr × Obj)}

theorem Lm.of {D : Addr} {o : Obj} {h : Heap} (F : Fr h₀ L h m) (N : News h₀ L h ((D, o) :: (L + 1, oC) :: news)) : Lm h₀ L m oC ((D, o) :: news) h :=
  ⟨F, fun p hp => N p (by
    rcases List.mem_cons.mp hp with rfl | hp
    · exact .tail _ (.head _)
    · rcases List.mem_cons.mp hp with rfl | hp
      · exact .head _
      · exact .tail _ (.tail _ hp))⟩

theorem told_ev {name : Str} {tn tk : Tok} {l : Addr} {vts : List Int} {st : Nat} {b : Bool} {fam : Fam} {Q : Value → Shared → Prop} (C : Ctx0 w loose mean mg mb A₀ h₀ dp un) (F : Lm h₀ L m oC news s.heap) (hl : IL news l vts)
    (hn : vts.length ≤ 3) (hn0 : 1 ≤ vts.length) (hpos : ∀ x ∈ vts, 0 < x) (hbits : ∀ v ∈ vts, Builtin.Int.intBits v ≤ 2 ^ 21) (hst : st ≤ 33) (hfam : famIs name fam) (hA : baseOf fam * vts.length ≤ st)
    (hlist : ∀ res tie h' tk' D o, Outc fam st vts res tie → (b = false → tie = false) → Lm h₀ L m oC ((D, o) :: news) h' → IL ((D, o) :: news) D res → Q (.ref D) { s with heap := h', toks := tk' })
    (hnone : b = false → ∀ res h' tk', Outc fam st vts res true → Lm h₀ L m oC news h' → Q .none { s with heap := h', toks := tk' }) :
    wpAny (model (lP w) w) (lA dp un gd L f cd) (call (.ref 61) [.str name tn, .ref l, .int (st : Int) tk, .bool b]) Q E s := by
  obtain ⟨vs, nn, hm, hi⟩ := hl
  refine told_call dp un gd "law" lawScope f cd _ A₀ h₀ L m ((L + 1, oC) :: news) s Q E name tn l vs vts nn st tk b fam C.B F.F C.X F.N C.T rfl (.tail _ hm) hi C.hd (by have := C.hu; lia) hn hn0 hpos hbits hst hfam hA ?_ ?_
  · intro res tie h' tk' D out nn' ho ht hF hN hI
    exact hlist res tie h' tk' D _ ho ht (Lm.of hF hN) ⟨out, nn', .head _, hI⟩
  · intro hb res h' tk' ho hF hN
    exact hnone hb res h' tk' ho ⟨hF, hN⟩

theorem strs_get : ∀ {vs : List Value} {ys : List Str}, StrsAre vs ys → ∀ (j : Nat) (y : Str), ys[j]? = some y → ∃ t, vs[j]? = some (.str y t)
  | _, _, .cons z t h, 0, y, e => by simp at e; subst e; exact ⟨t, rfl⟩
  | _, _, .cons z t h, j + 1, y, e => by simpa using strs_get h j y (by simpa using e)

/-- _law_jefferson()[way] -/
theorem ev_jeff {q1 q2 q3 q4 : Pos} {way : Nat} {tw : Tok} {y : Str} {Q : Value → Shared → Prop} (C : Ctx0 w loose mean mg mb A₀ h₀ dp un) (F : Lm h₀ L m oC news s.heap) (hway : m "way" = some (.int (way : Int) tw)) (hy : (["dhondt", "jefferson", "greatestdivisors"] : List Str)[way]? = some y)
    (h : ∀ h' tk p t, Lm h₀ L m oC (p :: news) h' → Q (.str y t) { s with heap := h', toks := tk }) :
    wpAny (model (lP w) w) (lA dp un gd L f cd) (eval (.Subscript (.Call (.Name "_law_jefferson" q1) [] [] q2) (.Name "way" q3) q4) (lEnv L f cd)) Q E s := by
  obtain ⟨mg', a0, a1, a2, a3⟩ := (lb_of C.X C.T).top
  refine Subscript_ (wpAny_Call_NameR (ldef F a0 a2 ?_))
  refine callWith_K0 (C.X.keeps F.F.keep) (keepJ C.X) ?_
  refine jeff_call dp un gd "law" lawScope f cd _ [] A₀ h₀ h₀ L m ((L + 1, oC) :: news) s _ E C.B F.F C.X F.N C.T rfl C.hd (by have := C.hu; lia) fun h' tk' D vs nn hF hN hS => ?_
  have F1 : Lm h₀ L m oC ((D, W.listOf vs.toArray nn) :: news) h' := Lm.of hF hN
  refine lnm (s := { s with heap := h', toks := tk' }) F1 hway ?_
  obtain ⟨t, hx⟩ := strs_get hS way y hy
  have hlt : way < 3 := by have := (List.getElem?_eq_some_iff.mp hy).1; simpa using this
  exact tail_any (ops := [.ref D, .int (way : Int) tw]) (s := { s with heap := h', toks := tk' }) (T := "list") (IsL.isList (F1.get (.head _))).typeIs slot_list_getitem.lookup (wpAny_getItem_list (IsL.isList (F1.get (.head _))) (by lia) (by lia) (x := .str y t) (by rw [Int.toNat_natCast]; simpa using hx) (h h' tk' _ t F1)) (by with_unfolding_all rfl)
theorem ev_webs {q1 q2 q3 q4 : Pos} {way : Nat} {tw : Tok} {y : Str} {Q : Value → Shared → Prop} (C : Ctx0 w loose mean mg mb A₀ h₀ dp un) (F : Lm h₀ L m oC news s.heap) (hway : m "way" = some (.int (way : Int) tw)) (hy : (["saintelague", "webster", "majorfractions"] : List Str)[way]? = some y)
    (h : ∀ h' tk p t, Lm h₀ L m oC (p :: news) h' → Q (.str y t) { s with heap := h', toks := tk }) :
    wpAny (model (lP w) w) (lA dp un gd L f cd) (eval (.Subscript (.Call (.Name "_law_webster" q1) [] [] q2) (.Name "way" q3) q4) (lEnv L f cd)) Q E s := by
  obtain ⟨mg', a0, a1, a2, a3⟩ := (lb_of C.X C.T).top
  refine Subscript_ (wpAny_Call_NameR (ldef F a0 a3 ?_))
  refine callWith_K0 (C.X.keeps F.F.keep) (keepW C.X) ?_
  refine webs_call dp un gd "law" lawScope f cd _ [] A₀ h₀ h₀ L m ((L + 1, oC) :: news) s _ E C.B F.F C.X F.N C.T rfl C.hd (by have := C.hu; lia) fun h' tk' D vs nn hF hN hS => ?_
  have F1 : Lm h₀ L m oC ((D, W.listOf vs.toArray nn) :: news) h' := Lm.of hF hN
  refine lnm (s := { s with heap := h', toks := tk' }) F1 hway ?_
  obtain ⟨t, hx⟩ := strs_get hS way y hy
  have hlt : way < 3 := by have := (List.getElem?_eq_some_iff.mp hy).1; simpa using this
  exact tail_any (ops := [.ref D, .int (way : Int) tw]) (s := { s with heap := h', toks := tk' }) (T := "list") (IsL.isList (F1.get (.head _))).typeIs slot_list_getitem.lookup (wpAny_getItem_list (IsL.isList (F1.get (.head _))) (by lia) (by lia) (x := .str y t) (by rw [Int.toNat_natCast]; simpa using hx) (h h' tk' _ t F1)) (by with_unfolding_all rfl)

/-- _law_told(e1, e2, e3, e4) -/
theorem call4 {q1 q2 : Pos} {e1 e2 e3 e4 : Expr} {Q : Value → Shared → Prop} (C : Ctx0 w loose mean mg mb A₀ h₀ dp un) (F : Lm h₀ L m oC news s.heap)
    (h : wpAny (model (lP w) w) (lA dp un gd L f cd) (eval e1 (lEnv L f cd)) (fun v1 s1 => wpAny (model (lP w) w) (lA dp un gd L f cd) (eval e2 (lEnv L f cd)) (fun v2 s2 => wpAny (model (lP w) w) (lA dp un gd L f cd) (eval e3 (lEnv L f cd)) (fun v3 s3 => wpAny (model (lP w) w) (lA dp un gd L f cd) (eval e4 (lEnv L f cd)) (fun v4 s4 =>
      (Mine.hd.heap_39 w.params).In s4.heap ∧ wpAny (model (lP w) w) (lA dp un gd L f cd) (call (.ref 61) [v1, v2, v3, v4]) Q E s4) E s3) E s2) E s1) E s)
    (h1 : starEach [e1, e2, e3, e4] (lEnv L f cd) = (false, eval e1 (lEnv L f cd)) :: starEach [e2, e3, e4] (lEnv L f cd) := by rfl) (h2 : starEach [e2, e3, e4] (lEnv L f cd) = (false, eval e2 (lEnv L f cd)) :: starEach [e3, e4] (lEnv L f cd) := by rfl)
    (h3 : starEach [e3, e4] (lEnv L f cd) = (false, eval e3 (lEnv L f cd)) :: starEach [e4] (lEnv L f cd) := by rfl) (h4 : starEach [e4] (lEnv L f cd) = (false, eval e4 (lEnv L f cd)) :: starEach [] (lEnv L f cd) := by rfl)
    (hp : ∀ pos, (backTo pos (starEach [e2, e3, e4] (lEnv L f cd))).any (·.1) = false := by intro _; rfl) :
    wpAny (model (lP w) w) (lA dp un gd L f cd) (eval (.Call (.Name "_law_told" q1) [e1, e2, e3, e4] [] q2) (lEnv L f cd)) Q E s := by
  obtain ⟨mg', a0, a1, a2, a3⟩ := (lb_of C.X C.T).top
  refine wpAny_Call_NameR (ldef F a0 a1 ?_)
  refine callWith_K C.X (keepT C.X) ?_ h1 (hp _)
  refine spliced_more (wpAny_mono h (fun v1 s1 x1 => spliced_more (wpAny_mono x1 (fun v2 s2 x2 => spliced_more (wpAny_mono x2 (fun v3 s3 x3 => spliced_more (wpAny_mono x3 (fun v4 s4 x4 => spliced_none x4) fun _ _ q => q) h4) fun _ _ q => q) h3) fun _ _ q => q) h2) fun _ _ q => q) h1
end
end Mine
end

-- part LF
section
open PySem PySem.W PyProof.Rows PySem.Calls
set_option maxRecDepth 100000
namespace Mine
section
variable {prog : Program} {w : World} {A : Around} {E : Value → Shared → Prop} {s : Shared} {h₀ : Heap} {L f : Addr} {cd : Value} {m : Str → Option Value} {oC : Obj} {news : List (Addr × Obj)}

/-- part = .. -/
theorem lasgP {px pos : Pos} {e : Expr} {Q : Flow → Shared → Prop}
    (h : wpAny (model prog w) A (eval e (lEnv L f cd)) (fun v s₁ => ∃ m oC news, Lm h₀ L m oC news s₁.heap ∧ (∃ u, oC.data = .cell u) ∧ (∀ p ∈ news, p.1 ≠ L + 1) ∧ ∀ h' tk oC', oC'.data = .cell (some v) → Lm h₀ L m oC' news h' → Q .next { s₁ with heap := h', toks := tk }) E s)
    (hsw : swapsWith e (some (.Name "part" px)) pos.line (lEnv L f cd) = pure false := by rfl) :
    wpAny (model prog w) A (exec (.Assign [.Name "part" px] e pos) (lEnv L f cd)) Q E s := by
  refine wpAny_Assign_Name (wpAny_mono h (fun v s₁ h₁ => ?_) fun _ _ q => q) hsw
  obtain ⟨m, oC, news, F, ⟨u, hu⟩, hne, k⟩ := h₁
  refine wpAny_storeName_cell rfl rfl rfl (F.cell hu) fun h' hv hs => ?_
  obtain ⟨o', ho', hd'⟩ := hv
  have hc := F.N _ (.head _)
  refine k h' _ o' hd' ⟨⟨F.F.ns.sameBut hs (Ne.symm hc.2.1), fun b o e => (hs.2 b (fun q => ?_)).trans (F.F.keep b o e), F.F.above⟩, fun p hp => ?_⟩
  · rw [q, hc.2.2] at e; cases e
  · rcases List.mem_cons.mp hp with rfl | hp
    · exact ⟨ho', hc.2⟩
    · exact ⟨hs.extBut _ _ (hne p hp) (F.N p (.tail _ hp)).1, (F.N p (.tail _ hp)).2⟩

theorem fmod_bounds (a : Int) {b : Int} (hb : 0 < b) : 0 ≤ a.fmod b ∧ a.fmod b < b := by
  rw [Int.fmod_eq_emod_of_nonneg _ (Int.le_of_lt hb)]
  exact ⟨Int.emod_nonneg _ (Int.ne_of_gt hb), Int.emod_lt_of_pos _ hb⟩

theorem law1 {l0 : Addr} {vs : List Value} {ns : List Int} {u : Option Value} {Q : Flow → Shared → Prop} (hh : A.handled = none) (B : LB h₀) (F : Lm h₀ L m oC [] s.heap) (hs : m "script" = some (.ref l0)) (hl : h₀.IsList l0 vs.toArray) (hi : IntsAre vs ns) (hlay : PyData.layable0 (.list (ns.map .int)) = true)
    (hu : oC.data = .cell u)
    (h : ∀ h' tk m' oC' news' l vts (st way : Nat) (part : Int) ts tw tp, Lm h₀ L m' oC' news' h' → m' "votes" = some (.ref l) → IL news' l vts → vts.length ≤ 3 → 1 ≤ vts.length → (∀ x ∈ vts, 0 < x) → (∀ x ∈ vts, Builtin.Int.intBits x ≤ 2 ^ 21) →
      m' "seats" = some (.int (st : Int) ts) → st ≤ 30 → m' "way" = some (.int (way : Int) tw) → way < 3 → oC'.data = .cell (some (.int part tp)) → 2 ≤ part → part ≤ 4 → wpAny (model prog w) A (execs (lawBody.drop 5) (lEnv L f cd)) Q E { s with heap := h', toks := tk }) :
    wpAny (model prog w) A (execs lawBody (lEnv L f cd)) Q E s := by
  refine wpAny_execs_cons (lasg (ev_head F hs hl hi hlay fun tk1 t1 => ⟨_, _, _, F, fun h2 tk2 F2 => ?_⟩))
  refine wpAny_execs_cons (lasg (ev_votes (s := { s with heap := h2, toks := tk2 }) ⟨rfl, rfl⟩ hh B F2 ((if_neg (by decide)).trans hs) hl hi hlay fun h3 tk3 D out vts nn F3 hI v1 v2 v3 v4 => ⟨_, _, _, F3, fun h4 tk4 F4 => ?_⟩))
  obtain ⟨a1, a2⟩ := fmod_bounds (headZ ns) (b := 31) (by decide)
  obtain ⟨st, est⟩ : ∃ st : Nat, (headZ ns).fmod 31 = (st : Int) := ⟨_, (Int.toNat_of_nonneg a1).symm⟩
  refine wpAny_execs_cons (lasg (wpAny_BinOp (lnm (s := { s with heap := h4, toks := tk4 }) F4 ((if_neg (by decide)).trans (if_pos rfl)) (wpAny_Constant_int (mod_int (by decide) ⟨_, _, _, F4, fun h5 tk5 F5 => ?_⟩)))))
  rw [est] at F5 a1 a2
  obtain ⟨b1, b2⟩ := fmod_bounds ((headZ ns).fdiv 31) (b := 3) (by decide)
  obtain ⟨way, eway⟩ : ∃ way : Nat, ((headZ ns).fdiv 31).fmod 3 = (way : Int) := ⟨_, (Int.toNat_of_nonneg b1).symm⟩
  refine wpAny_execs_cons (lasg (wpAny_BinOp (wpAny_BinOp (lnm (s := { s with heap := h5, toks := tk5 }) F5 ((if_neg (by decide)).trans ((if_neg (by decide)).trans (if_pos rfl))) (wpAny_Constant_int (floordiv_int (by decide) (wpAny_Constant_int (mod_int (by decide) ⟨_, _, _, F5, fun h6 tk6 F6 => ?_⟩)) (Or.inl (PyProof.noPylong_small (by decide)))))))))
  rw [eway] at F6 b1 b2
  obtain ⟨c1, c2⟩ := fmod_bounds ((headZ ns).fdiv 93) (b := 3) (by decide)
  refine wpAny_execs_cons (lasgP (wpAny_BinOp (wpAny_BinOp (wpAny_BinOp (lnm (s := { s with heap := h6, toks := tk6 }) F6 ((if_neg (by decide)).trans ((if_neg (by decide)).trans ((if_neg (by decide)).trans (if_pos rfl)))) (wpAny_Constant_int (floordiv_int (by decide) (wpAny_Constant_int (mod_int (by decide) (wpAny_Constant_int (P.add_int ⟨_, _, _, F6, ⟨u, hu⟩, ?_, fun h7 tk7 oC' hC' F7 => ?_⟩)))) (Or.inl (PyProof.noPylong_small (by decide))))))))))
  · intro p hp
    rcases List.mem_cons.mp hp with rfl | hp
    · intro e
      have x1 := F6.get (.head _)
      have x2 := (F6.N _ (.head _)).1
      dsimp only at e x1 x2
      rw [e, x2] at x1
      rw [Option.some.inj x1] at hu
      cases hu
    · cases hp
  · exact h h7 tk7 _ oC' _ D vts st way _ _ _ _ F7 ((if_neg (by decide)).trans ((if_neg (by decide)).trans (if_pos rfl))) ⟨out, nn, .head _, hI⟩ v1 v2 v3 v4 ((if_neg (by decide)).trans (if_pos rfl)) (by omega) (if_pos rfl) (by omega) hC' (by omega) (by omega)
end
end Mine
end

-- part LG
section
open PySem PySem.W PyProof.Rows PySem.Calls
set_option maxRecDepth 100000
namespace Mine
section
variable {prog : Program} {w : World} {A : Around} {E : Value → Shared → Prop} {s : Shared} {h₀ : Heap} {L f : Addr} {cd : Value} {m : Str → Option Value} {oC : Obj} {news : List (Addr × Obj)}

theorem bindName_st {x : Str} {v : Value} {Q : Unit → Shared → Prop} (F : Lm h₀ L m oC news s.heap) (hx : (lEnv L f cd).kindOf x = some .local)
    (h : ∀ h' tk, Lm h₀ L (put m x v) oC news h' → Q () { s with heap := h', toks := tk }) : wpAny (model prog w) A (bindName (lEnv L f cd) x v) Q E s :=
  wpAny_bindName (wpAny_storeName_local hx F.F.ns (fun h' hn hs => h h' _ (F.stL hn hs)) rfl)

/-- (x, y) = (e1, e2) -/
theorem lpair {x y : Str} {px py p1 p2 pos : Pos} {k1 k2 : Nat} {e1 e2 : Expr} {Q : Flow → Shared → Prop} (hh : A.handled = none)
    (h : wpAny (model prog w) A (eval e1 (lEnv L f cd)) (fun v1 s₁ => wpAny (model prog w) A (eval e2 (lEnv L f cd)) (fun v2 s₂ => ∃ m oC news, Lm h₀ L m oC news s₂.heap ∧ ∀ h' tk, Lm h₀ L (put (put m y v2) x v1) oC news h' → Q .next { s₂ with heap := h', toks := tk }) E s₁) E s)
    (hx : (lEnv L f cd).kindOf x = some .local := by rfl) (hy : (lEnv L f cd).kindOf y = some .local := by rfl)
    (hs : swapsWithSole [.Tuple [.Name x px, .Name y py] k1 p1] (.Tuple [e1, e2] k2 p2) pos.line (lEnv L f cd) = pure false := by rfl)
    (hw : swappedStores [.Tuple [.Name x px, .Name y py] k1 p1] (.Tuple [e1, e2] k2 p2) (lEnv L f cd) = pure (some [x, y]) := by rfl)
    (h1 : starEach [e1, e2] (lEnv L f cd) = (false, eval e1 (lEnv L f cd)) :: starEach [e2] (lEnv L f cd) := by rfl) (h2 : starEach [e2] (lEnv L f cd) = (false, eval e2 (lEnv L f cd)) :: starEach [] (lEnv L f cd) := by rfl) :
    wpAny (model prog w) A (exec (.Assign [.Tuple [.Name x px, .Name y py] k1 p1] (.Tuple [e1, e2] k2 p2) pos) (lEnv L f cd)) Q E s := by
  refine Assign_Tuple_swapped ?_ hs hw
  refine Tuple_ (spliced_more (wpAny_mono h (fun v1 s₁ x1 => spliced_more (wpAny_mono x1 (fun v2 s₂ x2 => spliced_none ?_) fun _ _ q => q) h2) fun _ _ q => q) h1)
  obtain ⟨m, oC, news, F, hq⟩ := x2
  refine wpAny_newTuple ?_ (by size_fits)
  have F1 : Lm h₀ L m oC news (s₂.heap.push { cls := .type "tuple", data := .seq [v1, v2].toArray }) := F.grow fun b o e => Heap.get?_push_of_some _ e
  refine unpackItems_tuple (items := [v1, v2].toArray) hh ⟨_, Heap.get?_push_size _ rfl, rfl, _, rfl⟩ fun h' hk => ?_
  have F2 : Lm h₀ L m oC news h' := F1.grow fun b o e => hk b o (Nat.ne_of_lt (Heap.lt_size e)) e
  refine assignInOrder_cons (bindName_st (s := { s₂ with heap := h' }) F2 hy fun h3 tk3 F3 => assignInOrder_cons (bindName_st (s := { s₂ with heap := h3, toks := tk3 }) F3 hx fun h4 tk4 F4 => assignInOrder_nil (hq h4 tk4 F4)))

theorem eqv_ints : ∀ xs ys : List Int, PyData.eqvAll (xs.map PyData.int) (ys.map PyData.int) = decide (xs = ys)
  | [], [] => by simp [PyData.eqvAll]
  | [], _ :: _ => by simp [PyData.eqvAll]
  | _ :: _, [] => by simp [PyData.eqvAll]
  | x :: xs, y :: ys => by
    simp only [List.map_cons, PyData.eqvAll, PyData.eqv, eqv_ints xs ys]
    by_cases h : x = y <;> by_cases h2 : xs = ys <;> simp [h, h2]
theorem readsAll_ints {h : Heap} : ∀ {vs : List Value} {ns : List Int}, IntsAre vs ns → ReadsAll h vs (ns.map .int) []
  | _, _, .nil => .nil
  | _, _, .cons n t x => .cons (.int n t) (readsAll_ints x)
theorem ILst.reads {h : Heap} {D : Addr} {ns : List Int} (x : ILst h D ns) : Reads h (.ref D) (.list (ns.map .int)) [D] := by
  obtain ⟨vs, ⟨n, e⟩, hI⟩ := x
  exact reads_list_at e rfl rfl (readsAll_ints hI)
theorem shaped_ints (ns : List Int) : SeqAt.shaped (.list (ns.map .int)) = true := by
  have c : ∀ ns : List Int, PyData.canLayAll0 (ns.map PyData.int) = true := by
    intro ns; induction ns with
    | nil => simp [PyData.canLayAll0]
    | cons x xs ih => simp [PyData.canLayAll0, PyData.canLay0, ih]
  have d : ∀ ns : List Int, PyData.depthAll (ns.map PyData.int) ≤ 1 := by
    intro ns; induction ns with
    | nil => simp [PyData.depthAll]
    | cons x xs ih => simp [PyData.depthAll, PyData.depth, ih]
  unfold SeqAt.shaped
  simp only [PyData.canLay0, PyData.depth, c, Bool.true_and]
  exact decide_eq_true (by have := d ns; lia)
theorem ne_lists {D D' : Addr} {xs ys : List Int} {Q : Value → Shared → Prop} (hu : A.units + 64 < cLine) (h1 : ILst s.heap D xs) (h2 : ILst s.heap D' ys) (h : Q (.bool (!decide (xs = ys))) s) : wpAny (model prog w) A (compareOp .NotEq (.ref D) (.ref D')) Q E s :=
  ne_dataH h1.reads h2.reads (shaped_ints xs) (shaped_ints ys) hu (by rw [PyData.eqv, eqv_ints]; exact h)
theorem eq_lists {D D' : Addr} {xs ys : List Int} {Q : Value → Shared → Prop} (hu : A.units + 64 < cLine) (h1 : ILst s.heap D xs) (h2 : ILst s.heap D' ys) (h : Q (.bool (decide (xs = ys))) s) : wpAny (model prog w) A (compareOp .Eq (.ref D) (.ref D')) Q E s :=
  eq_dataH h1.reads h2.reads (shaped_ints xs) (shaped_ints ys) hu (by rw [PyData.eqv, eqv_ints]; exact h)
end
end Mine
end

-- part LH
section
open PySem PySem.W PyProof.Rows PySem.Calls
set_option maxRecDepth 100000
namespace Mine

theorem famJ {way : Nat} {y : Str} (hy : (["dhondt", "jefferson", "greatestdivisors"] : List Str)[way]? = some y) : famIs y .J := by
  match way with
  | 0 => cases hy; exact ⟨by decide, by decide⟩
  | 1 => cases hy; exact ⟨by decide, by decide⟩
  | 2 => cases hy; exact ⟨by decide, by decide⟩
  | n + 3 => simp at hy
theorem famW {way : Nat} {y : Str} (hy : (["saintelague", "webster", "majorfractions"] : List Str)[way]? = some y) : famIs y .W := by
  match way with
  | 0 => cases hy; exact ⟨by decide, by decide, by decide⟩
  | 1 => cases hy; exact ⟨by decide, by decide, by decide⟩
  | 2 => cases hy; exact ⟨by decide, by decide, by decide⟩
  | n + 3 => simp at hy
theorem strs3 (a b c : Str) {way : Nat} (h : way < 3) : ∃ y, ([a, b, c] : List Str)[way]? = some y := ⟨_, List.getElem?_eq_getElem (by simpa using h)⟩

/-- a Told answer of the first family -/
theorem outJ {st : Nat} {vts res : List Int} {tie : Bool} (hpos : ∀ x ∈ vts, 0 < x) (hst : st ≤ 40) (ho : Outc .J st vts res tie) : Told vts res (fun j => j) (st : Int) ∧ (tie = true ↔ Tie vts res fun j => j) := by
  obtain ⟨r, e, a, b⟩ := outc_told hpos hst ho
  have e0 : r.map (· + ((baseOf .J : Nat) : Int)) = r := by
    refine List.ext_getElem (by simp) fun i h1 h2 => ?_
    simp [baseOf]
  rw [e0] at e
  subst e
  refine ⟨?_, b⟩
  have e1 : (st : Int) - ((baseOf .J : Nat) : Int) * (vts.length : Int) = (st : Int) := by simp [baseOf]
  rw [e1] at a
  exact a

theorem mono_id : ∀ a b : Int, 1 ≤ a → a ≤ b → (fun j : Int => j) a ≤ (fun j : Int => j) b := fun _ _ _ h => h

section
variable {w : World} {loose : List Str} {mean : ExcName → Option Value} {mg mb : Str → Option Value} {A₀ : Around} {dp un : Nat} {gd : Option (List Code)} {E : Value → Shared → Prop} {s : Shared} {h₀ : Heap} {L f : Addr} {cd : Value} {m : Str → Option Value} {oC : Obj} {news : List (Addr × Obj)}

theorem lvI {q : Pos} {l : Addr} {x : Str} {Q : Value → Shared → Prop} (F : Lm h₀ L m oC news s.heap) (hv : m x = some (.ref l)) (h : Q (.ref l) s) (hx : (lEnv L f cd).kindOf x = some .local := by rfl) (hd : (x == ("__debug__" : Str)) = false := by decide) :
    wpAny (model (lP w) w) (lA dp un gd L f cd) (eval (.Name x q) (lEnv L f cd)) Q E s := lnm F hv h hx hd

theorem law2 {l : Addr} {vts : List Int} {st way : Nat} {ts tw : Tok} {Q : Flow → Shared → Prop} (C : Ctx0 w loose mean mg mb A₀ h₀ dp un) (F : Lm h₀ L m oC news s.heap) (hv : m "votes" = some (.ref l)) (hl : IL news l vts)
    (v1 : vts.length ≤ 3) (v2 : 1 ≤ vts.length) (v3 : ∀ x ∈ vts, 0 < x) (v4 : ∀ x ∈ vts, Builtin.Int.intBits x ≤ 2 ^ 21) (hse : m "seats" = some (.int (st : Int) ts)) (hst : st ≤ 30) (hway : m "way" = some (.int (way : Int) tw)) (hw3 : way < 3)
    (h : ∀ h' tk m' news' D res tied, Lm h₀ L m' oC news' h' → (∀ y, y ≠ ("told" : Str) → y ≠ ("clear" : Str) → y ≠ ("tied" : Str) → y ≠ ("even" : Str) → m' y = m y) → IL news' l vts → m' "told" = some (.ref D) → IL news' D res → Told vts res (fun j => j) (st : Int) →
      m' "tied" = some (.bool tied) → m' "even" = some (.bool false) → (tied = true ↔ Tie vts res fun j => j) → wpAny (model (lP w) w) (lA dp un gd L f cd) (execs (lawBody.drop 10) (lEnv L f cd)) Q E { s with heap := h', toks := tk }) :
    wpAny (model (lP w) w) (lA dp un gd L f cd) (execs (lawBody.drop 5) (lEnv L f cd)) Q E s := by
  obtain ⟨y, hy⟩ := strs3 "dhondt" "jefferson" "greatestdivisors" hw3
  have hB := lb_of C.X C.T
  have hu64 : (lA dp un gd L f cd).units + 64 < cLine := by have := C.hu; show un + 64 < cLine; lia
  -- told
  refine wpAny_execs_cons (lasg (h₀ := h₀) (call4 C F (ev_jeff C F hway hy fun h1 tk1 p1 t1 F1 => ?_)))
  refine lnm (s := { s with heap := h1, toks := tk1 }) F1 hv (lnm (s := { s with heap := h1, toks := tk1 }) F1 hse (wpAny_Constant_bool ⟨C.X.keeps F1.F.keep, ?_⟩))
  refine told_ev (s := { s with heap := h1, toks := tk1 }) C F1 (hl.tail p1) v1 v2 v3 v4 (by lia) (famJ hy) (by simp [baseOf]) (fun res tie h2 tk2 D o ho _ F2 hD => ?_) (fun e => by cases e)
  refine ⟨_, _, _, F2, fun h3 tk3 F3 => ?_⟩
  obtain ⟨T1, ti1⟩ := outJ v3 (by lia) ho
  have hl3 : IL ((D, o) :: p1 :: news) l vts := (hl.tail p1).tail _
  have lk3 : ∀ {y : Str} {v : Value}, m y = some v → y ≠ ("told" : Str) → (put m "told" (.ref D)) y = some v := fun e n => (if_neg n).trans e
  have htold3 : (put m "told" (.ref D)) "told" = some (.ref D) := if_pos rfl
  -- the two ways on
  have rest : ∀ (cv : Value) (m4 : Str → Option Value) news4 h4 tk4, Lm h₀ L m4 oC news4 h4 → (∀ y, y ≠ ("told" : Str) → y ≠ ("clear" : Str) → m4 y = m y) → m4 "told" = some (.ref D) → m4 "clear" = some cv → IL news4 l vts → IL news4 D res →
      ((cv = .none ∧ Tie vts res fun j => j) ∨ ∃ D', cv = .ref D' ∧ IL news4 D' res ∧ ¬ Tie vts res fun j => j) →
      wpAny (model (lP w) w) (lA dp un gd L f cd) (execs (lawBody.drop 7) (lEnv L f cd)) Q E { s with heap := h4, toks := tk4 } := by
    intro cv m4 news4 h4 tk4 F4 hm4 ht4 hc4 hl4 hD4 hcv
    have hv4 : m4 "votes" = some (.ref l) := (hm4 _ (by decide) (by decide)).trans hv
    have hs4 : m4 "seats" = some (.int (st : Int) ts) := (hm4 _ (by decide) (by decide)).trans hse
    have hlenD : (res.length : Int) < 2 ^ 63 := by rw [T1.len]; lia
    -- 8
    refine wpAny_execs_cons (wpAny_If (wpAny_isTrue_BoolOp (wpAny_allTrue_Or_cons (wpAny_isTrue_Compare1 (lnm (s := { s with heap := h4, toks := tk4 }) F4 ht4 (wpAny_Constant_none (is_ref_none (wpAny_truthy_bool ?_))))))))
    rw [if_neg (by decide)]
    refine wpAny_allTrue_Or_cons (wpAny_isTrue_Compare1 (callB1 (F4.gb hB).len (lEnv_ok L f cd) rfl (lnm (s := { s with heap := h4, toks := tk4 }) F4 ht4 (len_base (F4.il hD4) hlenD ?_))))
    refine callB1 (F4.gb hB).len (lEnv_ok L f cd) rfl (lnm (s := { s with heap := h4, toks := _ }) F4 hv4 (len_base (F4.il hl4) (by lia) (P.ne_int (wpAny_truthy_bool ?_))))
    rw [T1.len, if_neg (by simp)]
    refine wpAny_allTrue_Or_cons (wpAny_isTrue_Compare1 (callB1 (F4.gb hB).sum (lEnv_ok L f cd) rfl (lnm (s := { s with heap := h4, toks := _ }) F4 ht4 (sum_base rfl (F4.il hD4) fun h5 tk5 t5 k5 => ?_))))
    have F5 := F4.grow k5
    refine lnm (s := { s with heap := h5, toks := tk5 }) F5 hs4 (P.ne_int (wpAny_truthy_bool ?_))
    rw [T1.sum, if_neg (by simp)]
    refine wpAny_allTrue_Or_nil ?_
    rw [if_neg (by decide)]
    refine wpAny_execs_nil ?_
    -- 9, 10
    rcases hcv with ⟨rfl, hT⟩ | ⟨D', rfl, hD', hT⟩
    · refine wpAny_execs_cons (wpAny_If (wpAny_isTrue_BoolOp (wpAny_allTrue_And_cons (wpAny_isTrue_Compare1 (lnm (s := { s with heap := h5, toks := tk5 }) F5 hc4 (wpAny_Constant_none (wpAny_isNot_self (by rfl) (wpAny_truthy_bool ?_))))))))
      rw [if_neg (by decide), if_neg (by decide)]
      refine wpAny_execs_nil (wpAny_execs_cons (lpair rfl (wpAny_Compare1 (lnm (s := { s with heap := h5, toks := tk5 }) F5 hc4 (wpAny_Constant_none (wpAny_is_self (by rfl) (wpAny_Constant_bool ⟨_, _, _, F5, fun h6 tk6 F6 => ?_⟩)))))))
      exact h h6 tk6 _ news4 D res true F6 (fun y a b c d => (if_neg c).trans ((if_neg d).trans (hm4 y a b))) hl4 ((if_neg (by decide)).trans ((if_neg (by decide)).trans ht4)) hD4 T1 (if_pos rfl) ((if_neg (by decide)).trans (if_pos rfl)) ⟨fun _ => hT, fun _ => rfl⟩
    · refine wpAny_execs_cons (wpAny_If (wpAny_isTrue_BoolOp (wpAny_allTrue_And_cons (wpAny_isTrue_Compare1 (lnm (s := { s with heap := h5, toks := tk5 }) F5 hc4 (wpAny_Constant_none (isnot_ref_none (wpAny_truthy_bool ?_))))))))
      rw [if_pos rfl]
      refine wpAny_allTrue_And_cons (wpAny_isTrue_Compare1 (lnm (s := { s with heap := h5, toks := tk5 }) F5 hc4 (lnm (s := { s with heap := h5, toks := tk5 }) F5 ht4 (ne_lists hu64 (F5.il hD') (F5.il hD4) (wpAny_truthy_bool ?_)))))
      rw [if_neg (by simp), if_neg (by decide)]
      refine wpAny_execs_nil (wpAny_execs_cons (lpair rfl (wpAny_Compare1 (lnm (s := { s with heap := h5, toks := tk5 }) F5 hc4 (wpAny_Constant_none (is_ref_none (wpAny_Constant_bool ⟨_, _, _, F5, fun h6 tk6 F6 => ?_⟩)))))))
      exact h h6 tk6 _ news4 D res false F6 (fun y a b c d => (if_neg c).trans ((if_neg d).trans (hm4 y a b))) hl4 ((if_neg (by decide)).trans ((if_neg (by decide)).trans ht4)) hD4 T1 (if_pos rfl) ((if_neg (by decide)).trans (if_pos rfl)) ⟨fun e => (by cases e), fun e => absurd e hT⟩
  -- clear
  refine wpAny_execs_cons (lasg (h₀ := h₀) (call4 (s := { s with heap := h3, toks := tk3 }) C F3 (ev_jeff (s := { s with heap := h3, toks := tk3 }) C F3 (lk3 hway (by decide)) hy fun h4 tk4 p4 t4 F4 => ?_)))
  refine lnm (s := { s with heap := h4, toks := tk4 }) F4 (lk3 hv (by decide)) (lnm (s := { s with heap := h4, toks := tk4 }) F4 (lk3 hse (by decide)) (wpAny_Constant_bool ⟨C.X.keeps F4.F.keep, ?_⟩))
  refine told_ev (s := { s with heap := h4, toks := tk4 }) C F4 (hl3.tail p4) v1 v2 v3 v4 (by lia) (famJ hy) (by simp [baseOf]) (fun res' tie' h5 tk5 D' o' ho' hb' F5 hD' => ?_) (fun _ res' h5 tk5 ho' F5 => ?_)
  · refine ⟨_, _, _, F5, fun h6 tk6 F6 => ?_⟩
    obtain ⟨T2, ti2⟩ := outJ v3 (by lia) ho'
    have e : res' = res := Told.unique v3 mono_id T2 T1
    subst e
    exact rest (.ref D') _ _ h6 tk6 F6 (fun y a b => (if_neg b).trans (if_neg a)) ((if_neg (by decide)).trans htold3) (if_pos rfl) ((hl3.tail p4).tail _) ((hD.tail p4).tail _) (.inr ⟨D', rfl, hD', fun hT => by have := ti2.mpr hT; rw [hb' rfl] at this; cases this⟩)
  · refine ⟨_, _, _, F5, fun h6 tk6 F6 => ?_⟩
    obtain ⟨T2, ti2⟩ := outJ v3 (by lia) ho'
    have e : res' = res := Told.unique v3 mono_id T2 T1
    subst e
    exact rest .none _ _ h6 tk6 F6 (fun y a b => (if_neg b).trans (if_neg a)) ((if_neg (by decide)).trans htold3) (if_pos rfl) (hl3.tail p4) (hD.tail p4) (.inl ⟨rfl, ti2.mp rfl⟩)
end
end Mine
end

-- part LI
section
open PySem PySem.W PyProof.Rows PySem.Calls
set_option maxRecDepth 100000
namespace Mine
section
variable {h₀ h h' h0 : Heap} {L : Addr} {m m0 : Str → Option Value} {oC : Obj} {news : List (Addr × Obj)}
theorem Lm.updN {J : Addr} (x : Lm h₀ L m oC news h) (x0 : Lm h₀ L m0 oC news h0) (hJ : h0.get? J = none) (k : ∀ b o, b ≠ J → h.get? b = some o → h'.get? b = some o) : Lm h₀ L m oC news h' := by
  have ne : ∀ b o, h0.get? b = some o → b ≠ J := fun b o e q => by subst q; rw [hJ] at e; cases e
  exact ⟨⟨x.F.ns.at' fun o e => k _ o (let ⟨o', _, _, a, _⟩ := x0.F.ns; ne _ o' a) e, fun b o e => k b o (ne b o (x0.F.keep b o e)) (x.F.keep b o e), x.F.above⟩,
    fun p hp => ⟨k _ _ (ne _ _ (x0.N p hp).1) (x.N p hp).1, (x.N p hp).2⟩⟩
theorem Lm.withJ {J : Addr} {o : Obj} (x : Lm h₀ L m oC news h) (x0 : Lm h₀ L m0 oC news h0) (hJ : h0.get? J = none) (hJ' : h.get? J = some o) : Lm h₀ L m oC ((J, o) :: news) h := by
  refine ⟨x.F, fun p hp => ?_⟩
  rcases List.mem_cons.mp hp with rfl | hp
  · exact x.N _ (.head _)
  · rcases List.mem_cons.mp hp with rfl | hp
    · refine ⟨hJ', fun e => ?_, ?_⟩
      · obtain ⟨oL, _, _, e1, _⟩ := x0.F.ns
        rw [show J = L from e] at hJ
        rw [hJ] at e1; cases e1
      · show h₀.get? J = none
        cases q : h₀.get? J with
        | none => rfl
        | some o' => rw [x0.F.keep _ _ q] at hJ; cases hJ
    · exact x.N p (.tail _ hp)
theorem Lm.drop {p : Addr × Obj} (x : Lm h₀ L m oC (p :: news) h) : Lm h₀ L m oC news h :=
  ⟨x.F, fun q hq => x.N q (by
    rcases List.mem_cons.mp hq with rfl | hq
    · exact .head _
    · exact .tail _ (.tail _ hq))⟩
end

section
variable {prog : Program} {w : World} {A : Around} {E : Value → Shared → Prop} {s : Shared} {h₀ : Heap} {L f : Addr} {cd : Value} {m : Str → Option Value} {oC : Obj} {news : List (Addr × Obj)}

theorem for_range {x : Str} {r1 r2 r3 r4 r5 r6 r7 : Pos} {body : List Stmt} {l : Addr} {vts : List Int} {Q : Flow → Shared → Prop} (hh : A.handled = none) (B : LB h₀) (F : Lm h₀ L m oC news s.heap) (hv : m "votes" = some (.ref l)) (hl : IL news l vts) (hn : vts.length ≤ 3)
    (I : Nat → (Str → Option Value) → Prop) (h0 : I 0 m)
    (step : ∀ i m' h' tk news' t E', i < vts.length → I i m' → Lm h₀ L (put m' x (.int (i : Int) t)) oC news' h' → (∀ p ∈ news, p ∈ news') →
      wpAny (model prog w) A (execs body (lEnv L f cd)) (fun fl s' => fl = .next ∧ ∃ h'' tk'' m'', s' = { s with heap := h'', toks := tk'' } ∧ Lm h₀ L m'' oC news' h'' ∧ I (i + 1) m'') E' { s with heap := h', toks := tk })
    (hQ : ∀ m' h' tk, I vts.length m' → Lm h₀ L m' oC news h' → Q .next { s with heap := h', toks := tk })
    (hx : (lEnv L f cd).kindOf x = some .local := by rfl) :
    wpAny (model prog w) A (exec (.For (.Name x r1) (.Call (.Name "range" r2) [.Call (.Name "len" r3) [.Name "votes" r4] [] r5] [] r6) body [] r7) (lEnv L f cd)) Q E s := by
  refine wpAny_For (callT1 (F.gb B).range (lEnv_ok L f cd) rfl (callB1 (F.gb B).len (lEnv_ok L f cd) rfl (lnm F hv (len_base (F.il hl) (by lia) (call_range_1 ?_)))))
  refine wpAny_pyIter_range (IsRange.new ..) (range_small (by lia) (by lia)) ?_
  rw [range_size]
  dsimp only
  generalize hH1 : s.heap.push _ = H1
  generalize hH2 : H1.push { cls := .type "range_iterator", data := .fields #[rawInt 0, rawInt (vts.length : Int), rawInt 1] } = H2
  have k1 : ∀ b o, s.heap.get? b = some o → H1.get? b = some o := fun b o e => hH1 ▸ Heap.get?_push_of_some _ e
  have F1 : Lm h₀ L m oC news H1 := F.grow k1
  have hJ : H1.get? H1.objs.size = none := get_size _
  have hit0 : IsRangeIter H2 H1.objs.size 0 (vts.length : Int) 1 := by rw [← hH2]; exact Heap.get?_push_size _ rfl
  refine codeAny_forLoop (fun k s' => ∃ (i : Nat) (h' : Heap) (tk : Nat) (m' : Str → Option Value), s' = { s with heap := h', toks := tk } ∧ Lm h₀ L m' oC news h' ∧ I i m' ∧ IsRangeIter h' H1.objs.size (i : Int) ((vts.length : Int) - i) 1 ∧ i ≤ vts.length ∧ k = vts.length - i) ?_ vts.length
    ⟨0, H2, _, m, rfl, F1.grow fun b o e => hH2 ▸ Heap.get?_push_of_some _ e, h0, by simpa using hit0, Nat.zero_le _, rfl⟩
  rintro k s' ⟨i, h', tk, m', rfl, F', hI, hit, hi, rfl⟩
  by_cases hlast : i < vts.length
  · refine wpAny_pyNext_range_item hit (by lia) fun h₂ hit₂ hs₂ => ?_
    have F2 := (F'.updN F1 hJ hs₂.extBut).withJ F1 hJ hit₂
    dsimp only
    refine wpAny_assign_Name (wpAny_storeName_local hx F2.F.ns (fun h₃ hn₃ hs₃ => ?_) rfl)
    dsimp only at hs₃ ⊢
    refine wpAny_mono (step i m' h₃ _ _ _ _ hlast hI (F2.stL hn₃ hs₃) fun p hp => .tail _ hp) (fun fl s4 hfl => ?_) fun _ _ e => e
    obtain ⟨rfl, h4, tk4, m4, rfl, F4, I4⟩ := hfl
    refine ⟨vts.length - (i + 1), by lia, i + 1, h4, tk4, m4, rfl, F4.drop, I4, ?_, hlast, rfl⟩
    have := F4.get (.head _)
    have e1 : (vts.length : Int) - ((i + 1 : Nat) : Int) = (vts.length : Int) - i - 1 := by lia
    rw [e1]; exact this
  · have hin : i = vts.length := by lia
    refine wpAny_pyNext_range_end hh hit (by lia) fun h₂ he₂ => ?_
    dsimp only
    exact wpAny_execs_nil (hQ m' h₂ tk (hin ▸ hI) (F'.updN F1 hJ he₂))
end

/-- the claim of i equals what k was served by -/
def Hit (v r : List Int) (i k : Nat) : Prop := i ≠ k ∧ 0 < r.getD k 0 ∧ v.getD i 0 * r.getD k 0 = v.getD k 0 * (r.getD i 0 + 1)
theorem tie_hit {v r : List Int} : (Tie v r fun j => j) ↔ ∃ i, i < v.length ∧ ∃ k, k < v.length ∧ Hit v r i k :=
  ⟨fun ⟨i, j, a, b, c, d, e⟩ => ⟨i, a, j, b, c, d, e⟩, fun ⟨i, a, j, b, c, d, e⟩ => ⟨i, j, a, b, c, d, e⟩⟩
end Mine
end

-- part LJ
section
open PySem PySem.W PyProof.Rows PySem.Calls
set_option maxRecDepth 100000
namespace Mine
def Agree5 (m' m : Str → Option Value) : Prop := ∀ y, y ≠ ("i" : Str) → y ≠ ("k" : Str) → y ≠ ("claim" : Str) → y ≠ ("served" : Str) → y ≠ ("even" : Str) → m' y = m y

section
variable {prog : Program} {w : World} {A : Around} {E : Value → Shared → Prop} {s : Shared} {h₀ : Heap} {L f : Addr} {cd : Value} {m : Str → Option Value} {oC : Obj} {news : List (Addr × Obj)}

theorem ev_item {x y : Str} {p1 p2 p3 : Pos} {l : Addr} {ns : List Int} {i : Nat} {t : Tok} {Q : Value → Shared → Prop} (F : Lm h₀ L m oC news s.heap) (hl : IL news l ns) (hx : m x = some (.ref l)) (hy : m y = some (.int (i : Int) t)) (hi : i < ns.length) (hn : ns.length ≤ 100)
    (h : ∀ u, Q (.int (ns.getD i 0) u) s) (kx : (lEnv L f cd).kindOf x = some .local := by rfl) (ky : (lEnv L f cd).kindOf y = some .local := by rfl) (dx : (x == ("__debug__" : Str)) = false := by decide) (dy : (y == ("__debug__" : Str)) = false := by decide) :
    wpAny (model prog w) A (eval (.Subscript (.Name x p1) (.Name y p2) p3) (lEnv L f cd)) Q E s := by
  obtain ⟨vs, hls, hI⟩ := (F.il hl).lst
  obtain ⟨u, hu⟩ := ints_ex hI hi
  refine Subscript_ (lnm F hx (lnm F hy ?_ ky dy) kx dx)
  refine tail_any (ops := [.ref l, .int (i : Int) t]) hls.typeIs slot_list_getitem.lookup (wpAny_getItem_list hls (by lia) (by lia) (x := .int (ns.getD i 0) u) (by rw [Int.toNat_natCast]; simpa using hu) (h u)) (by with_unfolding_all rfl)

theorem inner_body {l D : Addr} {vts res : List Int} {i k : Nat} {ti tk0 : Tok} {e : Bool}
    {q1 q2 q3 q4 q5 q6 q7 q8 q9 q10 q11 q12 q13 q14 q15 q16 q17 q18 q19 q20 q21 q22 q23 q24 q25 q26 q27 q28 q29 q30 q31 q32 q33 q34 q35 q36 q37 q38 q39 q40 q41 q42 q43 q44 q45 q46 q47 q48 q49 q50 : Pos} {n1 n2 n3 n4 : Nat} {ret : List Stmt} {Q : Flow → Shared → Prop}
    (hh : A.handled = none) (F : Lm h₀ L m oC news s.heap) (hv : m "votes" = some (.ref l)) (hl : IL news l vts) (ht : m "told" = some (.ref D)) (hD : IL news D res) (hn : vts.length ≤ 3) (hlen : res.length = vts.length)
    (hr : ∀ j, j < vts.length → 0 ≤ res.getD j 0 ∧ res.getD j 0 ≤ 100) (hst : i ≠ k → 0 < res.getD k 0 → vts.getD i 0 * res.getD k 0 < vts.getD k 0 * (res.getD i 0 + 1) ∨ (vts.getD i 0 * res.getD k 0 = vts.getD k 0 * (res.getD i 0 + 1) ∧ k < i))
    (hi : m "i" = some (.int (i : Int) ti)) (hk : m "k" = some (.int (k : Int) tk0)) (hin : i < vts.length) (hkn : k < vts.length) (he : m "even" = some (.bool e))
    (hw : swappedStores [.Tuple [.Name "claim" q10, .Name "served" q11] n2 q12] (.Tuple [.BinOp (.Subscript (.Name "votes" q13) (.Name "i" q14) q15) .Mult (.Subscript (.Name "told" q16) (.Name "k" q17) q18) q19, .BinOp (.Subscript (.Name "votes" q20) (.Name "k" q21) q22) .Mult (.BinOp (.Subscript (.Name "told" q23) (.Name "i" q24) q25) .Add (.Constant (.int 1) n3 q26) q27) q28] n4 q29) (lEnv L f cd) = pure (some ([Str.ofString "claim", Str.ofString "served"] : List Str)))
    (h : ∀ h' tk m' e', Lm h₀ L m' oC news h' → Agree5 m' m → m' "i" = m "i" → m' "even" = some (.bool e') → (e' = true ↔ e = true ∨ Hit vts res i k) → Q .next { s with heap := h', toks := tk }) :
    wpAny (model prog w) A (exec (.If (.BoolOp .And [.Compare (.Name "i" q1) [.NotEq] [.Name "k" q2] q3, .Compare (.Subscript (.Name "told" q4) (.Name "k" q5) q6) [.Gt] [.Constant (.int 0) n1 q7] q8] q9)
      [.Assign [.Tuple [.Name "claim" q10, .Name "served" q11] n2 q12] (.Tuple [.BinOp (.Subscript (.Name "votes" q13) (.Name "i" q14) q15) .Mult (.Subscript (.Name "told" q16) (.Name "k" q17) q18) q19, .BinOp (.Subscript (.Name "votes" q20) (.Name "k" q21) q22) .Mult (.BinOp (.Subscript (.Name "told" q23) (.Name "i" q24) q25) .Add (.Constant (.int 1) n3 q26) q27) q28] n4 q29) q30,
       .If (.BoolOp .Or [.Compare (.Name "claim" q31) [.Gt] [.Name "served" q32] q33, .BoolOp .And [.Compare (.Name "claim" q34) [.Eq] [.Name "served" q35] q36, .Compare (.Name "i" q37) [.Lt] [.Name "k" q38] q39] q40] q41) ret [] q42,
       .Assign [.Name "even" q43] (.BoolOp .Or [.Name "even" q44, .Compare (.Name "claim" q45) [.Eq] [.Name "served" q46] q47] q48) q49] [] q50) (lEnv L f cd)) Q E s := by
  refine wpAny_If (wpAny_isTrue_BoolOp (wpAny_allTrue_And_cons (wpAny_isTrue_Compare1 (lnm F hi (lnm F hk (P.ne_int (wpAny_truthy_bool ?_)))))))
  by_cases hik : i = k
  · rw [if_neg (by simp [hik]), if_neg (by simp [hik])]
    exact wpAny_execs_nil (h _ _ m e F (fun _ _ _ _ _ _ => rfl) rfl he ⟨.inl, fun x => x.elim id fun y => absurd hik y.1⟩)
  rw [if_pos (by simp; lia)]
  refine wpAny_allTrue_And_cons (wpAny_isTrue_Compare1 (ev_item F hD ht hk (by lia) (by lia) fun u1 => wpAny_Constant_int (P.gt_int (wpAny_truthy_bool ?_))))
  by_cases hp : ¬ 0 < res.getD k 0
  · rw [if_neg (by simpa using hp), if_neg (by simpa using hp)]
    exact wpAny_execs_nil (h _ _ m e F (fun _ _ _ _ _ _ => rfl) rfl he ⟨.inl, fun x => x.elim id fun y => absurd y.2.1 hp⟩)
  have hp := Decidable.not_not.mp hp
  rw [if_pos (by simpa using hp)]
  refine wpAny_allTrue_And_nil ?_
  rw [if_pos rfl]
  have hs := hst hik hp
  obtain ⟨k1, k2⟩ := hr k hkn
  obtain ⟨i1, i2⟩ := hr i hin
  have b1 : Builtin.Int.intBits (res.getD k 0) ≤ 64 := intBits_le_64 (by lia) (by lia)
  have b2 : Builtin.Int.intBits (res.getD i 0 + 1) ≤ 64 := intBits_le_64 (by lia) (by lia)
  refine wpAny_execs_cons (lpair (h₀ := h₀) hh (wpAny_BinOp (ev_item (s := { s with toks := _ }) F hl hv hi hin (by lia) fun u2 => ev_item (s := { s with toks := _ }) F hD ht hk (by lia) (by lia) fun u3 => P.mul_int ?_ (IntMulOk.of_right b1))) (hw := hw))
  refine wpAny_BinOp (ev_item (s := { s with toks := _ }) F hl hv hk hkn (by lia) fun u4 => wpAny_BinOp (ev_item (s := { s with toks := _ }) F hD ht hi (by lia) (by lia) fun u5 => wpAny_Constant_int (P.add_int (P.mul_int ?_ (IntMulOk.of_right b2)))))
  refine ⟨_, _, _, F, fun h2 tk2 F2 => ?_⟩
  generalize hc : vts.getD i 0 * res.getD k 0 = c at F2 hs
  generalize hsv : vts.getD k 0 * (res.getD i 0 + 1) = sv at F2 hs
  have hHit : Hit vts res i k ↔ c = sv := by
    unfold Hit; rw [hc, hsv]
    exact ⟨fun x => x.2.2, fun x => ⟨hik, hp, x⟩⟩
  have lk : ∀ {y : Str} {v a b : Value}, m y = some v → y ≠ ("claim" : Str) → y ≠ ("served" : Str) → (put (put m "served" a) "claim" b) y = some v := fun e n n' => (if_neg n).trans ((if_neg n').trans e)
  have hlt : ¬ c > sv := by lia
  -- the wrong ends
  refine wpAny_execs_cons (wpAny_If (wpAny_isTrue_BoolOp (wpAny_allTrue_Or_cons (wpAny_isTrue_Compare1 (lnm (s := { s with heap := h2, toks := tk2 }) F2 (if_pos rfl) (lnm (s := { s with heap := h2, toks := tk2 }) F2 ((if_neg (by decide)).trans (if_pos rfl)) (P.gt_int (wpAny_truthy_bool ?_))))))))
  rw [if_neg (by simpa using hlt)]
  refine wpAny_allTrue_Or_cons (wpAny_isTrue_BoolOp (wpAny_allTrue_And_cons (wpAny_isTrue_Compare1 (lnm (s := { s with heap := h2, toks := tk2 }) F2 (if_pos rfl) (lnm (s := { s with heap := h2, toks := tk2 }) F2 ((if_neg (by decide)).trans (if_pos rfl)) (P.eq_int (wpAny_truthy_bool ?_)))))))
  have fin : wpAny (model prog w) A (execs [.Assign [.Name "even" q43] (.BoolOp .Or [.Name "even" q44, .Compare (.Name "claim" q45) [.Eq] [.Name "served" q46] q47] q48) q49] (lEnv L f cd)) Q E { s with heap := h2, toks := tk2 } := by
    refine wpAny_execs_cons (lasg (h₀ := h₀) (wpAny_Or2 (lnm (s := { s with heap := h2, toks := tk2 }) F2 (lk he (by decide) (by decide)) (wpAny_truthy_bool ?_))))
    cases e with
    | true =>
      rw [if_pos rfl]
      exact ⟨_, _, _, F2, fun h3 tk3 F3 => wpAny_execs_nil (h h3 tk3 _ true F3 (fun y a b c d e => (if_neg e).trans ((if_neg c).trans (if_neg d))) ((if_neg (by decide)).trans ((if_neg (by decide)).trans (if_neg (by decide)))) (if_pos rfl) ⟨.inl, fun _ => rfl⟩)⟩
    | false =>
      rw [if_neg (by decide)]
      refine wpAny_Compare1 (lnm (s := { s with heap := h2, toks := tk2 }) F2 (if_pos rfl) (lnm (s := { s with heap := h2, toks := tk2 }) F2 ((if_neg (by decide)).trans (if_pos rfl)) (P.eq_int ⟨_, _, _, F2, fun h3 tk3 F3 => wpAny_execs_nil (h h3 tk3 _ _ F3 (fun y a b c d e => (if_neg e).trans ((if_neg c).trans (if_neg d))) ((if_neg (by decide)).trans ((if_neg (by decide)).trans (if_neg (by decide)))) (if_pos rfl) ?_)⟩)))
      rw [hHit]
      simp
  by_cases hce : c = sv
  · rw [if_pos (by simpa using hce)]
    refine wpAny_allTrue_And_cons (wpAny_isTrue_Compare1 (lnm (s := { s with heap := h2, toks := tk2 }) F2 (lk hi (by decide) (by decide)) (lnm (s := { s with heap := h2, toks := tk2 }) F2 (lk hk (by decide) (by decide)) (P.lt_int (wpAny_truthy_bool ?_)))))
    have hki : ¬ ((i : Int) < (k : Int)) := by lia
    rw [if_neg (by simpa using hki), if_neg (by simpa using hki)]
    refine wpAny_allTrue_Or_nil ?_
    rw [if_neg (by decide)]
    exact wpAny_execs_nil fin
  · rw [if_neg (by simpa using hce), if_neg (by simpa using hce)]
    refine wpAny_allTrue_Or_nil ?_
    rw [if_neg (by decide)]
    exact wpAny_execs_nil fin
end
end Mine
end

-- part LK
section
open PySem PySem.W PyProof.Rows PySem.Calls
set_option maxRecDepth 100000
namespace Mine
section
variable {prog : Program} {w : World} {A : Around} {E : Value → Shared → Prop} {s : Shared} {h₀ : Heap} {L f : Addr} {cd : Value} {m : Str → Option Value} {oC : Obj} {news : List (Addr × Obj)}

theorem Agree5.trans {a b c : Str → Option Value} (x : Agree5 a b) (y : Agree5 b c) : Agree5 a c := fun z h1 h2 h3 h4 h5 => (x z h1 h2 h3 h4 h5).trans (y z h1 h2 h3 h4 h5)
theorem Agree5.get {m' m : Str → Option Value} (x : Agree5 m' m) {y : Str} {v : Value} (e : m y = some v) (h1 : y ≠ ("i" : Str) := by decide) (h2 : y ≠ ("k" : Str) := by decide) (h3 : y ≠ ("claim" : Str) := by decide) (h4 : y ≠ ("served" : Str) := by decide) (h5 : y ≠ ("even" : Str) := by decide) : m' y = some v := (x y h1 h2 h3 h4 h5).trans e
theorem Agree5.putI (m : Str → Option Value) (v : Value) : Agree5 (put m "i" v) m := fun y h1 _ _ _ _ => if_neg h1
theorem Agree5.putK (m : Str → Option Value) (v : Value) : Agree5 (put m "k" v) m := fun y _ h2 _ _ _ => if_neg h2

theorem law3 {l D : Addr} {vts res : List Int} {tied : Bool} {Q : Flow → Shared → Prop} (hh : A.handled = none) (B : LB h₀) (F : Lm h₀ L m oC news s.heap) (hv : m "votes" = some (.ref l)) (hl : IL news l vts) (ht : m "told" = some (.ref D)) (hD : IL news D res) (hn : vts.length ≤ 3) (hlen : res.length = vts.length)
    (hr : ∀ j, j < vts.length → 0 ≤ res.getD j 0 ∧ res.getD j 0 ≤ 100)
    (hst : ∀ i k, i < vts.length → k < vts.length → i ≠ k → 0 < res.getD k 0 → vts.getD i 0 * res.getD k 0 < vts.getD k 0 * (res.getD i 0 + 1) ∨ (vts.getD i 0 * res.getD k 0 = vts.getD k 0 * (res.getD i 0 + 1) ∧ k < i))
    (he : m "even" = some (.bool false)) (htd : m "tied" = some (.bool tied)) (htie : tied = true ↔ Tie vts res fun j => j)
    (h : ∀ h' tk m', Lm h₀ L m' oC news h' → Agree5 m' m → wpAny (model prog w) A (execs (lawBody.drop 12) (lEnv L f cd)) Q E { s with heap := h', toks := tk }) :
    wpAny (model prog w) A (execs (lawBody.drop 10) (lEnv L f cd)) Q E s := by
  refine wpAny_execs_cons (for_range (vts := vts) hh B F hv hl hn (fun i m' => Agree5 m' m ∧ ∃ e, m' "even" = some (.bool e) ∧ (e = true ↔ ∃ i', i' < i ∧ ∃ k', k' < vts.length ∧ Hit vts res i' k')) ⟨fun _ _ _ _ _ _ => rfl, false, he, ⟨fun x => (by cases x), fun ⟨i', a, _⟩ => absurd a (Nat.not_lt_zero _)⟩⟩ ?_ ?_)
  · intro i m1 h1 tk1 news1 t1 E1 hi ⟨ag1, e1, he1, hev1⟩ F1 sub1
    have sI : ∀ {D : Addr} {ns : List Int}, IL news D ns → IL news1 D ns := fun ⟨a, b, c, d⟩ => ⟨a, b, sub1 _ c, d⟩
    have agP : Agree5 (put m1 "i" (.int (i : Int) t1)) m := (Agree5.putI _ _).trans ag1
    refine wpAny_execs_cons (for_range (vts := vts) (s := { s with heap := h1, toks := tk1 }) hh B F1 (agP.get hv) (sI hl) hn
      (fun k m' => Agree5 m' m ∧ m' "i" = some (.int (i : Int) t1) ∧ ∃ e, m' "even" = some (.bool e) ∧ (e = true ↔ e1 = true ∨ ∃ k', k' < k ∧ Hit vts res i k'))
      ⟨agP, if_pos rfl, e1, (if_neg (by decide)).trans he1, ⟨.inl, fun x => x.elim id fun ⟨k', a, _⟩ => absurd a (Nat.not_lt_zero _)⟩⟩ ?_ ?_)
    · intro k m2 h2 tk2 news2 t2 E2 hk ⟨ag2, hi2, e2, he2, hev2⟩ F2 sub2
      have sI2 : ∀ {D : Addr} {ns : List Int}, IL news D ns → IL news2 D ns := fun x => let ⟨a, b, c, d⟩ := sI x; ⟨a, b, sub2 _ c, d⟩
      have agP2 : Agree5 (put m2 "k" (.int (k : Int) t2)) m := (Agree5.putK _ _).trans ag2
      refine wpAny_execs_cons (inner_body (e := e2) (s := { s with heap := h2, toks := tk2 }) hh F2 (agP2.get hv) (sI2 hl) (agP2.get ht) (sI2 hD) hn hlen hr (hst i k hi hk) ((if_neg (by decide)).trans hi2) (if_pos rfl) hi hk ((if_neg (by decide)).trans he2) (by rfl) fun h3 tk3 m3 e3 F3 ag3 hi3 he3 hev3 => ?_)
      refine wpAny_execs_nil ⟨rfl, h3, tk3, m3, rfl, F3, ag3.trans agP2, hi3.trans ((if_neg (by decide)).trans hi2), e3, he3, ?_⟩
      rw [hev3, hev2]
      constructor
      · rintro ((x | ⟨k', a, b⟩) | x)
        · exact .inl x
        · exact .inr ⟨k', by lia, b⟩
        · exact .inr ⟨k, by lia, x⟩
      · rintro (x | ⟨k', a, b⟩)
        · exact .inl (.inl x)
        · by_cases e : k' = k
          · subst e; exact .inr b
          · exact .inl (.inr ⟨k', by lia, b⟩)
    · intro m2 h2 tk2 ⟨ag2, hi2, e2, he2, hev2⟩ F2
      refine wpAny_execs_nil ⟨rfl, h2, tk2, m2, rfl, F2, ag2, e2, he2, ?_⟩
      rw [hev2, hev1]
      constructor
      · rintro (⟨i', a, b⟩ | ⟨k', a, b⟩)
        · exact ⟨i', by lia, b⟩
        · exact ⟨i, by lia, k', a, b⟩
      · rintro ⟨i', a, k', b, c⟩
        by_cases e : i' = i
        · subst e; exact .inr ⟨k', b, c⟩
        · exact .inl ⟨i', by lia, k', b, c⟩
  · intro m1 h1 tk1 ⟨ag1, e1, he1, hev1⟩ F1
    have e : e1 = tied := by
      rw [Bool.eq_iff_iff, hev1, htie, tie_hit]
    subst e
    refine wpAny_execs_cons (wpAny_If (wpAny_isTrue_Compare1 (lnm (s := { s with heap := h1, toks := tk1 }) F1 he1 (lnm (s := { s with heap := h1, toks := tk1 }) F1 (ag1.get htd) (ne_bool (wpAny_truthy_bool ?_))))))
    rw [if_neg (by simp)]
    exact wpAny_execs_nil (h h1 tk1 m1 F1 ag1)
end
end Mine
end

-- part LL
section
open PySem PySem.W PyProof.Rows PySem.Calls
set_option maxRecDepth 100000
namespace Mine
section
variable {prog : Program} {w : World} {A : Around} {E : Value → Shared → Prop} {s : Shared} {h₀ : Heap} {L f : Addr} {cd : Value} {m : Str → Option Value} {oC : Obj} {news : List (Addr × Obj)}

/-- y = [g(had) for had in told] -/
theorem asg_map (one : Bool) (g : Int → Int) {y : Str} {py spos : Pos} {sc : Scope} {cl : List (Str × Addr)} {elt : Expr} {q1 q2 q3 : Pos} {D : Addr} {res : List Int} {Q : Flow → Shared → Prop} (hh : A.handled = none) (F : Lm h₀ L m oC news s.heap) (ht : m "told" = some (.ref D)) (hD : IL news D res) (hn : res.length ≤ 3)
    (hclos : closureFor sc (lEnv L f cd) = pure cl) (hkd : sc.kind = .function) (hnames : ∀ y ∈ sc.names, y.2 = .local → sc.names.lookup y.1 = some .local)
    (hcells : ∀ n cl h, cellsFrom n sc.names cl = (if one then (Str.ofString "had", n) :: cl else cl) ∧ pushCells h sc.names = if one then h.push cellO else h)
    (hat : (relabel sc (lEnv L f cd)).names.lookup (Str.ofString "had") = some (if one then .cell else .local))
    (hel : ∀ C i t s₃ E', i < res.length → Bd C "had" (bk1 one C) s₃.heap (.int (res.getD i 0) t) → (∀ b o, s.heap.get? b = some o → s₃.heap.get? b = some o) →
      wpAny (model prog w) A (eval elt (compEnvC sc (cl1 one "had" C cl) C (lEnv L f cd))) (fun y s₄ => ∃ h' tk u, y = .int (g (res.getD i 0)) u ∧ s₄ = { s₃ with heap := h', toks := tk } ∧ ∀ b o, s₃.heap.get? b = some o → h'.get? b = some o) E' s₃)
    (h : ∀ h' tk D' o, Lm h₀ L (put m y (.ref D')) oC ((D', o) :: news) h' → IL ((D', o) :: news) D' (res.map g) → Q .next { s with heap := h', toks := tk })
    (hy : (lEnv L f cd).kindOf y = some .local)
    (hsw : swapsWith (.ListComp elt [⟨.Name "had" q1, .Name "told" q2, [], 0⟩] sc q3) (some (.Name y py)) spos.line (lEnv L f cd) = pure true) :
    wpAny (model prog w) A (exec (.Assign [.Name y py] (.ListComp elt [⟨.Name "had" q1, .Name "told" q2, [], 0⟩] sc q3) spos) (lEnv L f cd)) Q E s := by
  obtain ⟨vs, hls, hI⟩ := (F.il hD).lst
  have hlen := hI.length
  refine asg_list one (isInt' fun i => g (res.getD i 0)) hsw hh hclos hkd hnames hcells hat hy rfl ?_
  refine lnm F ht ⟨D, vs.toArray, m, rfl, hls, by rw [sizeLine_eq, List.size_toArray]; lia, F.F.ns, fun C i v s₃ E' hC hi hb hk => ?_, fun D' h1 h' tk ys hD' hpl hys hF hk hn' hk' => ?_⟩
  · have hiv : vs[i]? = some v := by simpa using hi
    have hil : i < res.length := by rw [← hlen]; exact (List.getElem?_eq_some_iff.mp hiv).1
    obtain ⟨t, rfl⟩ := ints_get hI hiv
    refine wpAny_mono (hel C i t s₃ E' hil hb hk) (fun y s₄ hy => ?_) fun _ _ e => e
    obtain ⟨h', tk, u, rfl, rfl, k⟩ := hy
    exact mk_val (s₃ := s₃) (h' := h') ⟨_, rfl, rfl⟩ k
  · have hIL := ilst_of (g := fun i => g (res.getD i 0)) (P := fun _ _ => True) (n := res.length) hpl (by rw [hys, List.size_toArray]; lia) fun j hj => by
      obtain ⟨y, xo, a, b, _⟩ := hF j (vs[j]'(by lia)) (by simp [show j < vs.length from by lia])
      exact ⟨_, y, xo, trivial, a, b⟩
    have e1 : (List.range res.length).map (fun i => g (res.getD i 0)) = res.map g := by
      refine List.ext_getElem (by simp) fun i h1 h2 => ?_
      simp only [List.length_map] at h2
      simp [List.getD_eq_getElem?_getD, List.getElem?_eq_getElem h2]
    rw [e1] at hIL
    obtain ⟨out, ⟨nn, ho⟩, hO⟩ := hIL
    have F1 : Lm h₀ L m oC ((D', _) :: news) h1 := F.add hk hD' ho
    have live : ∀ p ∈ (L + 1, oC) :: news, ∃ o', s.heap.get? p.1 = some o' := fun p hp => ⟨_, (F.N p hp).1⟩
    have hL0 : h₀.get? L = none := by
      cases q : h₀.get? L with
      | none => rfl
      | some o => exact absurd (Nat.lt_of_lt_of_le (Heap.lt_size q) F.F.above) (Nat.lt_irrefl _)
    refine h h' tk D' _ ⟨⟨hn', fun b o e => hk' b o (fun q => ?_) (.inl ⟨o, F.F.keep b o e⟩) (F1.F.keep b o e), F.F.above⟩, fun p hp => ⟨hk' _ _ (F1.N p hp).2.1 ?_ (F1.N p hp).1, (F1.N p hp).2⟩⟩ ⟨out, nn, .head _, hO⟩
    · have q' : b = L := q
      rw [q', hL0] at e; cases e
    · rcases List.mem_cons.mp hp with rfl | hp
      · exact .inl (live _ (.head _))
      · rcases List.mem_cons.mp hp with rfl | hp
        · exact .inr rfl
        · exact .inl (live _ (.tail _ hp))

structure ScH (sc : Scope) : Prop where
  kd : sc.kind = .function
  nm : sc.names = [(Str.ofString ".0", .local), (Str.ofString "had", .local)]
theorem ScH.clos {sc : Scope} (h : ScH sc) (env : Env) : closureFor sc env = pure [] := by unfold closureFor; rw [h.nm]; rfl
theorem ScH.names {sc : Scope} (h : ScH sc) : ∀ y ∈ sc.names, y.2 = .local → sc.names.lookup y.1 = some .local := by rw [h.nm]; decide
theorem ScH.cells {sc : Scope} (h : ScH sc) : ∀ n cl (hp : Heap), cellsFrom n sc.names cl = (if false = true then (Str.ofString "had", n) :: cl else cl) ∧ pushCells hp sc.names = if false = true then hp.push cellO else hp := by rw [h.nm]; exact fun _ _ _ => ⟨rfl, rfl⟩
theorem ScH.at {sc : Scope} (h : ScH sc) (env : Env) : (relabel sc env).names.lookup (Str.ofString "had") = some NameKind.local := by
  have e : (relabel sc env).names = sc.names.map _ := rfl
  rw [e, h.nm]; rfl

theorem nmH {sc : Scope} {cl : List (Str × Addr)} {C : Addr} {env : Env} {q : Pos} {v : Value} {Q : Value → Shared → Prop} (hkd : sc.kind = .function) (hat : (relabel sc env).names.lookup (Str.ofString "had") = some NameKind.local) (hb : Bd C "had" .loc s.heap v) (h : Q v s) :
    wpAny (model prog w) A (eval (.Name "had" q) (compEnvC sc cl C env)) Q E s := by
  obtain ⟨m', hn', hm'⟩ := hb
  exact wpAny_Name (wpAny_loadName_local (by simp [compEnvC, relabel, hkd]) hat hn' hm' h) (by decide)

theorem st_webster {sc : Scope} {py spos q1 q2 q3 q4 q5 q6 q7 q8 : Pos} {n1 n2 : Nat} {D : Addr} {res : List Int} {Q : Flow → Shared → Prop} (H : ScH sc) (hh : A.handled = none) (F : Lm h₀ L m oC news s.heap) (ht : m "told" = some (.ref D)) (hD : IL news D res) (hn : res.length ≤ 3)
    (h : ∀ h' tk D' o, Lm h₀ L (put m "webster" (.ref D')) oC ((D', o) :: news) h' → IL ((D', o) :: news) D' (res.map fun x => (x + 1).fdiv 2) → Q .next { s with heap := h', toks := tk })
    (hsw : ∀ elt, swapsWith (.ListComp elt [⟨.Name "had" q1, .Name "told" q2, [], 0⟩] sc q3) (some (.Name "webster" py)) spos.line (lEnv L f cd) = pure true) :
    wpAny (model prog w) A (exec (.Assign [.Name "webster" py] (.ListComp (.BinOp (.BinOp (.Name "had" q4) .Add (.Constant (.int 1) n1 q5) q6) .FloorDiv (.Constant (.int 2) n2 q7) q8) [⟨.Name "had" q1, .Name "told" q2, [], 0⟩] sc q3) spos) (lEnv L f cd)) Q E s := by
  refine asg_map false (fun x => (x + 1).fdiv 2) hh F ht hD hn (H.clos _) H.kd H.names H.cells (H.at _) (fun C i t s₃ E' hi hb hk => ?_) h rfl (hsw _)
  exact wpAny_BinOp (wpAny_BinOp (nmH H.kd (H.at _) hb (wpAny_Constant_int (P.add_int (wpAny_Constant_int (floordiv_int (by decide) ⟨_, _, _, rfl, rfl, fun _ _ e => e⟩ (Or.inl (PyProof.noPylong_small (by decide)))))))))

theorem st_adams {sc : Scope} {py spos q1 q2 q3 q4 q5 q6 : Pos} {n1 : Nat} {D : Addr} {res : List Int} {Q : Flow → Shared → Prop} (H : ScH sc) (hh : A.handled = none) (F : Lm h₀ L m oC news s.heap) (ht : m "told" = some (.ref D)) (hD : IL news D res) (hn : res.length ≤ 3)
    (h : ∀ h' tk D' o, Lm h₀ L (put m "adams" (.ref D')) oC ((D', o) :: news) h' → IL ((D', o) :: news) D' (res.map fun x => x + 1) → Q .next { s with heap := h', toks := tk })
    (hsw : ∀ elt, swapsWith (.ListComp elt [⟨.Name "had" q1, .Name "told" q2, [], 0⟩] sc q3) (some (.Name "adams" py)) spos.line (lEnv L f cd) = pure true) :
    wpAny (model prog w) A (exec (.Assign [.Name "adams" py] (.ListComp (.BinOp (.Name "had" q4) .Add (.Constant (.int 1) n1 q5) q6) [⟨.Name "had" q1, .Name "told" q2, [], 0⟩] sc q3) spos) (lEnv L f cd)) Q E s := by
  refine asg_map false (fun x => x + 1) hh F ht hD hn (H.clos _) H.kd H.names H.cells (H.at _) (fun C i t s₃ E' hi hb hk => ?_) h rfl (hsw _)
  exact wpAny_BinOp (nmH H.kd (H.at _) hb (wpAny_Constant_int (P.add_int ⟨_, _, _, rfl, rfl, fun _ _ e => e⟩)))

structure ScL (sc : Scope) : Prop where
  kd : sc.kind = .function
  nm : sc.names = [(Str.ofString ".0", .local), (Str.ofString "had", .local), (Str.ofString "part", .free)]
theorem ScL.clos {sc : Scope} (h : ScL sc) : closureFor sc (lEnv L f cd) = pure [(Str.ofString "part", L + 1)] := by unfold closureFor; rw [h.nm]; rfl
theorem ScL.names {sc : Scope} (h : ScL sc) : ∀ y ∈ sc.names, y.2 = .local → sc.names.lookup y.1 = some .local := by rw [h.nm]; decide
theorem ScL.cells {sc : Scope} (h : ScL sc) : ∀ n cl (hp : Heap), cellsFrom n sc.names cl = (if false = true then (Str.ofString "had", n) :: cl else cl) ∧ pushCells hp sc.names = if false = true then hp.push cellO else hp := by rw [h.nm]; exact fun _ _ _ => ⟨rfl, rfl⟩
theorem ScL.at {sc : Scope} (h : ScL sc) (env : Env) : (relabel sc env).names.lookup (Str.ofString "had") = some NameKind.local := by
  have e : (relabel sc env).names = sc.names.map _ := rfl
  rw [e, h.nm]; rfl
theorem ScL.atp {sc : Scope} (h : ScL sc) : (relabel sc (lEnv L f cd)).names.lookup (Str.ofString "part") = some NameKind.cell := by
  have e : (relabel sc (lEnv L f cd)).names = sc.names.map _ := rfl
  rw [e, h.nm]; rfl
theorem st_lesser {sc : Scope} {py spos q1 q2 q3 q4 q5 q6 : Pos} {D : Addr} {res : List Int} {part : Int} {tp : Tok} {Q : Flow → Shared → Prop} (H : ScL sc) (hh : A.handled = none) (F : Lm h₀ L m oC news s.heap) (ht : m "told" = some (.ref D)) (hD : IL news D res) (hn : res.length ≤ 3) (hc : oC.data = .cell (some (.int part tp))) (h2 : 2 ≤ part) (h4 : part ≤ 4)
    (h : ∀ h' tk D' o, Lm h₀ L (put m "lesser" (.ref D')) oC ((D', o) :: news) h' → IL ((D', o) :: news) D' (res.map fun x => x.fdiv part) → Q .next { s with heap := h', toks := tk })
    (hsw : ∀ elt, swapsWith (.ListComp elt [⟨.Name "had" q1, .Name "told" q2, [], 0⟩] sc q3) (some (.Name "lesser" py)) spos.line (lEnv L f cd) = pure true) :
    wpAny (model prog w) A (exec (.Assign [.Name "lesser" py] (.ListComp (.BinOp (.Name "had" q4) .FloorDiv (.Name "part" q5) q6) [⟨.Name "had" q1, .Name "told" q2, [], 0⟩] sc q3) spos) (lEnv L f cd)) Q E s := by
  refine asg_map false (fun x => x.fdiv part) hh F ht hD hn H.clos H.kd H.names H.cells (H.at _) (fun C i t s₃ E' hi hb hk => ?_) h rfl (hsw _)
  refine wpAny_BinOp (nmH H.kd (H.at _) hb (wpAny_Name (wpAny_loadName_cell (by simp [compEnvC, relabel, H.kd]) H.atp (by rfl) ((F.cell hc).keeps hk) (floordiv_int (by lia) ⟨_, _, _, rfl, rfl, fun _ _ e => e⟩ (Or.inl (PyProof.noPylong_small (by lia))))) (by decide)))
end
end Mine
end

-- part LM
section
open PySem PySem.W PyProof.Rows PySem.Calls
set_option maxRecDepth 100000
namespace Mine

structure ScMo (sc : Scope) : Prop where
  kd : sc.kind = .function
  nm : sc.names = [(Str.ofString ".0", .local), (Str.ofString "had", .cell), (Str.ofString "len", .globalImplicit)]
structure ScMi (sc : Scope) : Prop where
  kd : sc.kind = .function
  nm : sc.names = [(Str.ofString ".0", .local), (Str.ofString "place", .local), (Str.ofString "had", .free)]
section
variable {sc si : Scope} {L f C C' : Addr} {cd : Value}
abbrev moEnv (sc : Scope) (C L f : Addr) (cd : Value) : Env := compEnvC sc (cl1 true "had" C []) C (lEnv L f cd)
abbrev miEnv (si : Scope) (C' : Addr) (sc : Scope) (C L f : Addr) (cd : Value) : Env := compEnvC si [(Str.ofString "had", C + 1)] C' (moEnv sc C L f cd)
theorem ScMo.clos (h : ScMo sc) (env : Env) : closureFor sc env = pure [] := by unfold closureFor; rw [h.nm]; rfl
theorem ScMo.names (h : ScMo sc) : ∀ y ∈ sc.names, y.2 = .local → sc.names.lookup y.1 = some .local := by rw [h.nm]; decide
theorem ScMo.cells (h : ScMo sc) : ∀ n cl (hp : Heap), cellsFrom n sc.names cl = (if true = true then (Str.ofString "had", n) :: cl else cl) ∧ pushCells hp sc.names = if true = true then hp.push cellO else hp := by rw [h.nm]; exact fun _ _ _ => ⟨rfl, rfl⟩
theorem ScMo.at (h : ScMo sc) (env : Env) : (relabel sc env).names.lookup (Str.ofString "had") = some (if true = true then NameKind.cell else .local) := by
  have e : (relabel sc env).names = sc.names.map _ := rfl
  rw [e, h.nm]; rfl
theorem ScMo.atl (h : ScMo sc) (env : Env) : (relabel sc env).names.lookup (Str.ofString "len") = some NameKind.globalImplicit := by
  have e : (relabel sc env).names = sc.names.map _ := rfl
  rw [e, h.nm]; rfl
theorem ScMo.fn (h : ScMo sc) : (moEnv sc C L f cd).scope.kind = .function := by simp [moEnv, compEnvC, relabel, h.kd]
theorem ScMi.clos (h : ScMi si) : closureFor si (moEnv sc C L f cd) = pure [(Str.ofString "had", C + 1)] := by unfold closureFor; rw [h.nm]; rfl
theorem ScMi.cell (h : ScMi si) : ∀ y ∈ si.names, y.2 ≠ .cell := by rw [h.nm]; decide
theorem ScMi.names (h : ScMi si) : ∀ y ∈ si.names, y.2 = .local → si.names.lookup y.1 = some .local := by rw [h.nm]; decide
theorem ScMi.lw (h : ScMi si) : si.names.lookup (Str.ofString "place") = some .local := by rw [h.nm]; rfl
theorem ScMi.fn (h : ScMi si) : (miEnv si C' sc C L f cd).scope.kind = .function := by simp [miEnv, compEnvC, relabel, h.kd]
theorem ScMi.lkw (h : ScMi si) : (miEnv si C' sc C L f cd).kindOf "place" = some .local := lookup_relabel_local h.lw
theorem ScMi.lk (h : ScMi si) (H : ScMo sc) : (miEnv si C' sc C L f cd).kindOf "had" = some .cell := by
  have e : (miEnv si C' sc C L f cd).kindOf "had" = (relabel si (moEnv sc C L f cd)).names.lookup (Str.ofString "had") := rfl
  have e2 : (relabel si (moEnv sc C L f cd)).names = si.names.map fun (n, k) => if (k == NameKind.free && (moEnv sc C L f cd).scope.kind == .function && (moEnv sc C L f cd).kindOf n == some .cell) then (n, NameKind.cell) else (n, k) := rfl
  have e3 : (moEnv sc C L f cd).kindOf (Str.ofString "had") = some .cell := H.at _
  rw [e, e2, h.nm, H.fn]
  simp only [List.map_cons, List.map_nil, e3]
  rfl
end

def cnt3 (x : Int) : Nat := ([7, 15, 25] : List Int).countP fun p => decide (p ≤ x)
def isIn (x : Int) : Value → Bool
  | .int p _ => decide (p ≤ x)
  | _ => false

section
variable {prog : Program} {w : World} {A : Around} {E : Value → Shared → Prop} {s : Shared} {h₀ : Heap} {L f : Addr} {cd : Value} {m : Str → Option Value} {oC : Obj} {news : List (Addr × Obj)}

theorem ev_places {sc si : Scope} {C : Addr} {q1 q2 q3 q4 q5 q6 q7 q8 q9 q10 : Pos} {n1 n2 n3 n4 : Nat} {x : Int} {t : Tok} {Q : Value → Shared → Prop} (H : ScMo sc) (I : ScMi si) (hh : A.handled = none) (hb : s.heap.IsCell (C + 1) (some (.int x t)))
    (h : ∀ h' tk D ys, (∀ b o, s.heap.get? b = some o → h'.get? b = some o) → h'.IsList D ys → ys.size = cnt3 x → Q (.ref D) { s with heap := h', toks := tk }) :
    wpAny (model prog w) A (eval (.ListComp (.Name "place" q1) [⟨.Name "place" q2, .Tuple [.Constant (.int 7) n1 q3, .Constant (.int 15) n2 q4, .Constant (.int 25) n3 q5] n4 q6, [.Compare (.Name "place" q7) [.LtE] [.Name "had" q8] q9], 0⟩] si q10) (moEnv sc C L f cd)) Q E s := by
  refine wpAny_ListComp_free (isIn x) (fun v y => y = v) I.clos I.cell I.kd I.names I.lw ?_
  refine Tuple_ (spliced_more (wpAny_Constant_int (spliced_more (wpAny_Constant_int (spliced_more (wpAny_Constant_int (spliced_none (wpAny_newTuple ?_ (by size_fits)))))))))
  dsimp only
  generalize hH1 : s.heap.push { cls := .type "tuple", data := .seq [Value.int 7 s.toks, Value.int 15 (s.toks + 1), Value.int 25 (s.toks + 1 + 1)].toArray } = H1
  have k1 : ∀ b o, s.heap.get? b = some o → H1.get? b = some o := fun b o e => hH1 ▸ Heap.get?_push_of_some _ e
  have hT : H1.IsTuple s.heap.objs.size [Value.int 7 s.toks, Value.int 15 (s.toks + 1), Value.int 25 (s.toks + 1 + 1)].toArray := ⟨_, hH1 ▸ Heap.get?_push_size _ rfl, rfl, _, rfl⟩
  have hlt : s.heap.objs.size < H1.objs.size := by obtain ⟨_, e, _⟩ := hT; exact Heap.lt_size e
  have up : ∀ (h₃ : Heap), (∀ b o, b ∉ [H1.objs.size] → (H1.push { cls := .type "tuple_iterator", data := .fields #[.ref s.heap.objs.size, .int 0 0] }).get? b = some o → h₃.get? b = some o) → ∀ b o, H1.get? b = some o → h₃.get? b = some o :=
    fun h₃ hk b o e => hk b o (fun hm => Nat.lt_irrefl _ (List.mem_singleton.mp hm ▸ Heap.lt_size e)) (Heap.get?_push_of_some _ e)
  refine wpAny_pyIter_tuple hT ⟨H1.objs.size, [H1.objs.size, s.heap.objs.size], [H1.objs.size], 3, _, _, rfl, Walks.tuple hh _ _ (Nat.ne_of_lt hlt) [Value.int 7 s.toks, Value.int 15 (s.toks + 1), Value.int 25 (s.toks + 1 + 1)].toArray, by rw [sizeLine_eq]; lia, ⟨⟨_, Heap.get?_push_size _ rfl, rfl, rfl⟩, let ⟨o, a, b⟩ := hT; ⟨o, Heap.get?_push_of_some _ a, b⟩⟩, ?_, ⟨?_, ?_⟩, ?_⟩
  · intro b hb
    show b < (H1.push _).objs.size
    rw [Heap.size_push]
    rcases List.mem_cons.mp hb with rfl | hb
    · exact Nat.lt_succ_self _
    · rw [List.mem_singleton.mp hb]; exact Nat.lt_succ_of_lt hlt
  · intro C' i v s₃ m₃ E' hC hP hn hm hk _
    obtain ⟨p, tp, rfl⟩ : ∃ p tp, v = .int p tp := by
      match i with
      | 0 => exact ⟨_, _, by simpa using hP.symm⟩
      | 1 => exact ⟨_, _, by simpa using hP.symm⟩
      | 2 => exact ⟨_, _, by simpa using hP.symm⟩
      | n + 3 => simp at hP
    refine wpAny_tests_one (wpAny_isTrue_Compare1 (wpAny_Name (wpAny_loadName_local I.fn I.lkw hn hm ?_) (by decide)))
    refine wpAny_Name (wpAny_loadName_cell I.fn (I.lk H) (by rfl) ((hb.keeps k1).keeps (up _ hk)) (P.le_int (wpAny_truthy_bool ⟨rfl, _, _, rfl, fun _ _ e => e⟩))) (by decide)
  · intro C' i v s₃ m₃ E' hC hP hpv hn hm hk _
    exact wpAny_Name (wpAny_loadName_local I.fn I.lkw hn hm ⟨rfl, _, _, rfl, fun _ _ e => e⟩) (by decide)
  · intro D h' tk ys vs' hD hl' hpl hvl hP hF hk
    refine h h' tk D ys (fun b o e => up _ hk b o (k1 b o e)) hl' ?_
    have e1 : vs' = [Value.int 7 s.toks, Value.int 15 (s.toks + 1), Value.int 25 (s.toks + 1 + 1)] := by
      refine List.ext_getElem (by simpa using hvl) fun j h1 h2 => ?_
      have := hP j vs'[j] (List.getElem?_eq_getElem h1)
      simpa [List.getElem?_eq_getElem h2] using this.symm
    rw [← Array.length_toList, ← Paired.len hF, e1]
    simp only [cnt3, List.filter_cons, List.filter_nil, isIn, List.countP_cons, List.countP_nil]
    by_cases a : (7 : Int) ≤ x <;> by_cases b : (15 : Int) ≤ x <;> by_cases c : (25 : Int) ≤ x <;> simp [a, b, c]

theorem st_modified {sc si : Scope} {py spos q1 q2 q3 q4 q5 q6 q7 q8 q9 q10 q11 q12 q13 q14 q15 : Pos} {n1 n2 n3 n4 : Nat} {D : Addr} {res : List Int} {Q : Flow → Shared → Prop} (H : ScMo sc) (I : ScMi si) (hh : A.handled = none) (B : LB h₀) (F : Lm h₀ L m oC news s.heap) (ht : m "told" = some (.ref D)) (hD : IL news D res) (hn : res.length ≤ 3)
    (h : ∀ h' tk D' o, Lm h₀ L (put m "modified" (.ref D')) oC ((D', o) :: news) h' → IL ((D', o) :: news) D' (res.map fun x => (cnt3 x : Int)) → Q .next { s with heap := h', toks := tk })
    (hsw : ∀ elt, swapsWith (.ListComp elt [⟨.Name "had" q13, .Name "told" q14, [], 0⟩] sc q15) (some (.Name "modified" py)) spos.line (lEnv L f cd) = pure true) :
    wpAny (model prog w) A (exec (.Assign [.Name "modified" py] (.ListComp (.Call (.Name "len" q11) [.ListComp (.Name "place" q1) [⟨.Name "place" q2, .Tuple [.Constant (.int 7) n1 q3, .Constant (.int 15) n2 q4, .Constant (.int 25) n3 q5] n4 q6, [.Compare (.Name "place" q7) [.LtE] [.Name "had" q8] q9], 0⟩] si q10] [] q12) [⟨.Name "had" q13, .Name "told" q14, [], 0⟩] sc q15) spos) (lEnv L f cd)) Q E s := by
  refine asg_map true (fun x => (cnt3 x : Int)) hh F ht hD hn (H.clos _) H.kd H.names H.cells (H.at _) (fun C i t s₃ E' hi hb hk => ?_) h rfl (hsw _)
  have G3 : GBx s₃.heap "len" (.builtin "len") := B.gb.len.at (fun o e => hk _ o (F.F.keep _ o e)) fun o e => hk _ o (F.F.keep _ o e)
  refine callB1 G3 ⟨H.fn, rfl, rfl⟩ (H.atl _) (ev_places H I hh hb fun h' tk D ys k hl hsz => ?_)
  have hc : cnt3 (res.getD i 0) ≤ 3 := List.countP_le_length
  have e : ((ys.size : Nat) : Int) = (cnt3 (res.getD i 0) : Int) := by rw [hsz]
  exact Calls.call_len_list hl (by lia) ⟨_, _, _, congrArg (fun x => Value.int x _) e, rfl, k⟩
end
end Mine
end

-- part LN
section
open PySem PySem.W PyProof.Rows PySem.Calls
set_option maxRecDepth 100000
namespace Mine

theorem sum_map_le (f : Int → Int) : ∀ l : List Int, (∀ x ∈ l, 0 ≤ f x ∧ f x ≤ x) → 0 ≤ (l.map f).sum ∧ (l.map f).sum ≤ l.sum
  | [], _ => by simp
  | x :: l, h => by
    have a := h x (by simp)
    have b := sum_map_le f l fun y hy => h y (List.mem_cons_of_mem _ hy)
    simp only [List.map_cons, List.sum_cons]
    lia
theorem Told.mem {v r : List Int} {D : Int → Int} {k : Int} (h : Told v r D k) : ∀ x ∈ r, 0 ≤ x := by
  intro x hx
  obtain ⟨i, hi, e⟩ := List.getElem_of_mem hx
  have := h.nn i (by rw [← h.len]; exact hi)
  rwa [List.getD_eq_getElem?_getD, List.getElem?_eq_getElem hi, Option.getD_some, e] at this
theorem le_sum : ∀ (r : List Int), (∀ x ∈ r, 0 ≤ x) → ∀ i, i < r.length → r.getD i 0 ≤ r.sum ∧ 0 ≤ r.sum
  | x :: r, h, 0, _ => by
    have b := sum_map_le (fun x => x) r fun y hy => ⟨h y (List.mem_cons_of_mem _ hy), Int.le_refl _⟩
    have a := h x (by simp)
    simp only [List.map_id'] at b
    simp only [List.getD_cons_zero, List.sum_cons]
    lia
  | x :: r, h, i + 1, hi => by
    have b := le_sum r (fun y hy => h y (List.mem_cons_of_mem _ hy)) i (by simpa using hi)
    have a := h x (by simp)
    simp only [List.getD_cons_succ, List.sum_cons]
    lia
theorem Told.small {v r : List Int} {D : Int → Int} {k : Int} (h : Told v r D k) : ∀ i, i < v.length → 0 ≤ r.getD i 0 ∧ r.getD i 0 ≤ k := fun i hi =>
  ⟨h.nn i hi, by have := (le_sum r h.mem i (by rw [h.len]; exact hi)).1; rw [h.sum] at this; exact this⟩

theorem mono_of (fam : Fam) : ∀ a b, 1 ≤ a → a ≤ b → dOf fam a ≤ dOf fam b := fun a b h1 h2 => by
  rcases Int.lt_or_eq_of_le h2 with h | h
  · exact Int.le_of_lt (dOf_mono fam a b h1 h)
  · rw [h]; exact Int.le_refl _

/-- a sub-family's answer is the one that is known -/
theorem out_is {fam : Fam} (hb0 : baseOf fam = 0) {st : Nat} {vts res sub : List Int} {tie : Bool} (hpos : ∀ x ∈ vts, 0 < x) (hst : st ≤ 40) (hT : Told vts sub (dOf fam) (st : Int)) (ho : Outc fam st vts res tie) : res = sub ∧ (tie = true ↔ Tie vts sub (dOf fam)) := by
  obtain ⟨r, e, a, b⟩ := outc_told hpos hst ho
  have e0 : r.map (· + ((baseOf fam : Nat) : Int)) = r := by
    refine List.ext_getElem (by simp) fun i h1 h2 => ?_
    simp [hb0]
  rw [e0] at e
  subst e
  have e1 : (st : Int) - ((baseOf fam : Nat) : Int) * (vts.length : Int) = (st : Int) := by simp [hb0]
  rw [e1] at a
  have e2 := Told.unique hpos (mono_of fam) a hT
  exact ⟨e2, by rw [b, e2]⟩
theorem out_adams {st : Nat} {vts res t : List Int} {tie : Bool} (hpos : ∀ x ∈ vts, 0 < x) (hst : st + vts.length ≤ 40) (hT : Told vts t (fun j => j) (st : Int)) (ho : Outc .A (st + vts.length) vts res tie) : res = t.map (fun x => x + 1) ∧ (tie = true ↔ Tie vts t fun j => j) := by
  obtain ⟨r, e, a, b⟩ := outc_told hpos hst ho
  have e1 : ((st + vts.length : Nat) : Int) - ((baseOf .A : Nat) : Int) * (vts.length : Int) = (st : Int) := by simp [baseOf]
  rw [e1] at a
  have e2 : r = t := Told.unique hpos mono_id a hT
  subst e2
  exact ⟨e, b⟩

section
variable {vts t : List Int} {k : Int}
theorem sub_webster (hv : ∀ x ∈ vts, 0 < x) (h : Told vts t (fun j => j) k) : Told vts (t.map fun x => (x + 1).fdiv 2) (dOf .W) (t.map fun x => (x + 1).fdiv 2).sum ∧ (Tie vts (t.map fun x => (x + 1).fdiv 2) (dOf .W) → Tie vts t fun j => j) := by
  have e : ∀ x : Int, (x + 1).fdiv 2 = (x + 1) / 2 := fun x => Int.fdiv_eq_ediv_of_nonneg _ (by decide)
  refine Told.sub (fun x => (x + 1).fdiv 2) (dOf .W) 1 hv h (fun i hi => ?_) (fun i hi => ?_) (by decide) (fun i hi => ?_) (fun i hi => ?_)
  all_goals have := h.nn i hi; simp only [e, dOf]; lia
theorem sub_lesser {part : Int} (h2 : 2 ≤ part) (hv : ∀ x ∈ vts, 0 < x) (h : Told vts t (fun j => j) k) : Told vts (t.map fun x => x.fdiv part) (dOf .J) (t.map fun x => x.fdiv part).sum ∧ (Tie vts (t.map fun x => x.fdiv part) (dOf .J) → Tie vts t fun j => j) := by
  have e : ∀ x : Int, x.fdiv part = x / part := fun x => Int.fdiv_eq_ediv_of_nonneg _ (by lia)
  have em : ∀ x : Int, 0 ≤ x → part * (x / part) ≤ x ∧ x < part * (x / part) + part ∧ 0 ≤ x / part := fun x hx => by
    have a := Int.mul_ediv_add_emod x part
    have b := Int.emod_nonneg x (show part ≠ 0 by lia)
    have c := Int.emod_lt_of_pos x (show 0 < part by lia)
    have d := Int.ediv_nonneg hx (show 0 ≤ part by lia)
    lia
  refine Told.sub (fun x => x.fdiv part) (dOf .J) part hv h (fun i hi => ?_) (fun i hi => ?_) (by lia) (fun i hi => ?_) (fun i hi => ?_)
  all_goals
    have hn := h.nn i hi
    obtain ⟨a, b, c⟩ := em _ hn
    simp only [e, dOf]
  · exact c
  · intro hp
    rcases Int.lt_or_eq_of_le hn with q | q
    · exact q
    · rw [← q] at hp; simp at hp
  · exact fun _ => a
  · rw [Int.mul_add, Int.mul_one]; lia
theorem sub_modified (hv : ∀ x ∈ vts, 0 < x) (h : Told vts t (fun j => j) k) (hk : k ≤ 30) : Told vts (t.map fun x => (cnt3 x : Int)) (dOf .M) (t.map fun x => (cnt3 x : Int)).sum ∧ (Tie vts (t.map fun x => (cnt3 x : Int)) (dOf .M) → Tie vts t fun j => j) := by
  have e : ∀ x : Int, (cnt3 x : Int) = if 25 ≤ x then 3 else if 15 ≤ x then 2 else if 7 ≤ x then 1 else 0 := fun x => by
    simp only [cnt3, List.countP_cons, List.countP_nil]
    by_cases a : (7 : Int) ≤ x <;> by_cases b : (15 : Int) ≤ x <;> by_cases c : (25 : Int) ≤ x <;> simp [a, b, c] <;> lia
  refine Told.sub (fun x => (cnt3 x : Int)) (dOf .M) 1 hv h (fun i hi => ?_) (fun i hi => ?_) (by decide) (fun i hi => ?_) (fun i hi => ?_)
  all_goals
    obtain ⟨h1, h2⟩ := h.small i hi
    simp only [e, dOf]
    repeat' split
    all_goals lia
end
end Mine
end

-- part LO
section
open PySem PySem.W PyProof.Rows PySem.Calls
set_option maxRecDepth 100000
namespace Mine
section
variable {w : World} {loose : List Str} {mean : ExcName → Option Value} {mg mb : Str → Option Value} {A₀ : Around} {dp un : Nat} {gd : Option (List Code)} {E : Value → Shared → Prop} {s : Shared} {h₀ : Heap} {L f : Addr} {cd : Value} {m : Str → Option Value} {oC : Obj} {news : List (Addr × Obj)}

theorem IL.sub {news news' : List (Addr × Obj)} {D : Addr} {ns : List Int} (x : IL news D ns) (h : ∀ p ∈ news, p ∈ news') : IL news' D ns := let ⟨a, b, c, d⟩ := x; ⟨a, b, h _ c, d⟩

/-- if _law_told(name, votes, sum(X), tied) != X: return False -/
theorem sub_if {fam : Fam} {X : Str} {e1 : Expr} {q1 q2 q3 q4 q5 q6 q7 q8 q9 q10 : Pos} {ret : List Stmt} {l DX : Addr} {vts res sub : List Int} {tied : Bool} {Q : Flow → Shared → Prop} (C : Ctx0 w loose mean mg mb A₀ h₀ dp un) (hb0 : baseOf fam = 0) (F : Lm h₀ L m oC news s.heap)
    (hv : m "votes" = some (.ref l)) (hl : IL news l vts) (v1 : vts.length ≤ 3) (v2 : 1 ≤ vts.length) (v3 : ∀ x ∈ vts, 0 < x) (v4 : ∀ x ∈ vts, Builtin.Int.intBits x ≤ 2 ^ 21)
    (hX : m X = some (.ref DX)) (hDX : IL news DX sub) (htd : m "tied" = some (.bool tied)) (htie : tied = true ↔ Tie vts res fun j => j)
    (hT : Told vts sub (dOf fam) sub.sum) (hTi : Tie vts sub (dOf fam) → Tie vts res fun j => j) (hs0 : 0 ≤ sub.sum) (hs1 : sub.sum ≤ 30)
    (hname : ∀ (Q' : Value → Shared → Prop), (∀ h' tk news' y t, Lm h₀ L m oC news' h' → (∀ p ∈ news, p ∈ news') → famIs y fam → Q' (.str y t) { s with heap := h', toks := tk }) → wpAny (model (lP w) w) (lA dp un gd L f cd) (eval e1 (lEnv L f cd)) Q' E s)
    (he1 : ∀ rest, starEach (e1 :: rest) (lEnv L f cd) = (false, eval e1 (lEnv L f cd)) :: starEach rest (lEnv L f cd))
    (h : ∀ h' tk news', Lm h₀ L m oC news' h' → (∀ p ∈ news, p ∈ news') → Q .next { s with heap := h', toks := tk })
    (hkX : (lEnv L f cd).kindOf X = some .local := by rfl) (hdX : (X == ("__debug__" : Str)) = false := by decide) :
    wpAny (model (lP w) w) (lA dp un gd L f cd) (exec (.If (.Compare (.Call (.Name "_law_told" q1) [e1, .Name "votes" q2, .Call (.Name "sum" q3) [.Name X q4] [] q5, .Name "tied" q6] [] q7) [.NotEq] [.Name X q8] q9) ret [] q10) (lEnv L f cd)) Q E s := by
  have hB := lb_of C.X C.T
  have hu64 : (lA dp un gd L f cd).units + 64 < cLine := by have := C.hu; show un + 64 < cLine; lia
  obtain ⟨st, hst⟩ : ∃ st : Nat, sub.sum = (st : Int) := ⟨_, (Int.toNat_of_nonneg hs0).symm⟩
  refine wpAny_If (wpAny_isTrue_Compare1 (call4 C F (hname _ fun h1 tk1 news1 y t1 F1 sub1 hy => ?_) (h1 := he1 _)))
  refine lnm (s := { s with heap := h1, toks := tk1 }) F1 hv (callB1 (F1.gb hB).sum (lEnv_ok L f cd) rfl (lnm (s := { s with heap := h1, toks := tk1 }) F1 hX (sum_base rfl (F1.il (hDX.sub sub1)) fun h2 tk2 t2 k2 => ?_) hkX hdX))
  have F2 := F1.grow k2
  refine lnm (s := { s with heap := h2, toks := tk2 }) F2 htd ⟨C.X.keeps F2.F.keep, ?_⟩
  rw [hst]
  refine told_ev (s := { s with heap := h2, toks := tk2 }) C F2 (hl.sub sub1) v1 v2 v3 v4 (by lia) hy (by rw [hb0]; lia) (fun r tie h3 tk3 D o ho _ F3 hD => ?_) (fun hb r h3 tk3 ho F3 => ?_)
  · obtain ⟨e, _⟩ := out_is hb0 v3 (by lia) (hst ▸ hT) ho
    subst e
    refine lnm (s := { s with heap := h3, toks := tk3 }) F3 hX (ne_lists hu64 (F3.il hD) (F3.il ((hDX.sub sub1).tail _)) (wpAny_truthy_bool ?_)) hkX hdX
    rw [if_neg (by simp)]
    exact wpAny_execs_nil (h h3 tk3 _ F3 fun p hp => .tail _ (sub1 p hp))
  · obtain ⟨_, b⟩ := out_is hb0 v3 (by lia) (hst ▸ hT) ho
    have := htie.mpr (hTi (b.mp rfl))
    rw [hb] at this; cases this

theorem famA {way : Nat} : famIs (([Str.ofString "adams", Str.ofString "smallestdivisor"] : List Str).getD (way % 2) "") .A := by
  rcases Nat.mod_two_eq_zero_or_one way with e | e <;> rw [e] <;> exact ⟨by decide, by decide, by decide, by decide, by decide⟩

/-- ['adams', 'smallestdivisor'][way % 2] -/
theorem ev_name {q1 q2 q3 q4 q5 q6 q7 : Pos} {n1 n2 n3 : Nat} {way : Nat} {tw : Tok} {Q : Value → Shared → Prop} {A : Around} {prog : Program} (F : Lm h₀ L m oC news s.heap) (hway : m "way" = some (.int (way : Int) tw))
    (h : ∀ h' tk t, Lm h₀ L m oC news h' → Q (.str (([Str.ofString "adams", Str.ofString "smallestdivisor"] : List Str).getD (way % 2) "") t) { s with heap := h', toks := tk }) :
    wpAny (model prog w) A (eval (.Subscript (.List [.Constant (.str "adams") n1 q1, .Constant (.str "smallestdivisor") n2 q2] q3) (.BinOp (.Name "way" q4) .Mod (.Constant (.int 2) n3 q5) q6) q7) (lEnv L f cd)) Q E s := by
  refine Subscript_ (List_ (spliced_more (Calls.Constant_str (spliced_more (Calls.Constant_str (spliced_none (wpAny_newList ?_ (by size_fits))))))))
  dsimp only
  have F1 : Lm h₀ L m oC news (s.heap.push { cls := .type "list", data := .seq [Value.str (Str.ofString "adams") s.toks, Value.str (Str.ofString "smallestdivisor") (s.toks + 1)].toArray }) := F.grow fun b o e => Heap.get?_push_of_some _ e
  refine wpAny_BinOp (lnm (s := { s with heap := _, toks := s.toks + 1 + 1 }) F1 hway (wpAny_Constant_int (mod_int (by decide) ?_)))
  have e : (way : Int).fmod 2 = ((way % 2 : Nat) : Int) := by rw [Int.fmod_eq_emod_of_nonneg _ (by decide)]; lia
  rw [e]
  have hlt : way % 2 < 2 := Nat.mod_lt _ (by decide)
  have hL : (s.heap.push { cls := .type "list", data := .seq [Value.str (Str.ofString "adams") s.toks, Value.str (Str.ofString "smallestdivisor") (s.toks + 1)].toArray } : Heap).IsList s.heap.objs.size [Value.str (Str.ofString "adams") s.toks, Value.str (Str.ofString "smallestdivisor") (s.toks + 1)].toArray := ⟨_, Heap.get?_push_size _ rfl, rfl, _, rfl⟩
  obtain ⟨t, ht⟩ : ∃ t, ([Value.str (Str.ofString "adams") s.toks, Value.str (Str.ofString "smallestdivisor") (s.toks + 1)] : List Value)[way % 2]? = some (.str (([Str.ofString "adams", Str.ofString "smallestdivisor"] : List Str).getD (way % 2) "") t) := by
    rcases Nat.mod_two_eq_zero_or_one way with e | e <;> rw [e] <;> exact ⟨_, rfl⟩
  exact tail_any (ops := [.ref s.heap.objs.size, .int ((way % 2 : Nat) : Int) (s.toks + 1 + 1 + 1)]) hL.typeIs slot_list_getitem.lookup (wpAny_getItem_list hL (by lia) (by lia) (x := .str (([Str.ofString "adams", Str.ofString "smallestdivisor"] : List Str).getD (way % 2) "") t) (by rw [Int.toNat_natCast]; simpa using ht) (h _ _ t F1)) (by with_unfolding_all rfl)
end
end Mine
end

-- part LP
section
open PySem PySem.W PyProof.Rows PySem.Calls
set_option maxRecDepth 100000
namespace Mine
section
variable {w : World} {loose : List Str} {mean : ExcName → Option Value} {mg mb : Str → Option Value} {A₀ : Around} {dp un : Nat} {gd : Option (List Code)} {E : Value → Shared → Prop} {s : Shared} {h₀ : Heap} {L f : Addr} {cd : Value} {m : Str → Option Value} {oC : Obj} {news : List (Addr × Obj)}

theorem law4 {l D : Addr} {vts res : List Int} {st way : Nat} {ts tw tp : Tok} {tied : Bool} {part : Int} {Q : Flow → Shared → Prop} (C : Ctx0 w loose mean mg mb A₀ h₀ dp un) (F : Lm h₀ L m oC news s.heap) (hv : m "votes" = some (.ref l)) (hl : IL news l vts)
    (v1 : vts.length ≤ 3) (v2 : 1 ≤ vts.length) (v3 : ∀ x ∈ vts, 0 < x) (v4 : ∀ x ∈ vts, Builtin.Int.intBits x ≤ 2 ^ 21) (hse : m "seats" = some (.int (st : Int) ts)) (hst : st ≤ 30) (hway : m "way" = some (.int (way : Int) tw)) (hw3 : way < 3)
    (hc : oC.data = .cell (some (.int part tp))) (p2 : 2 ≤ part) (p4 : part ≤ 4)
    (ht : m "told" = some (.ref D)) (hD : IL news D res) (hT : Told vts res (fun j => j) (st : Int)) (htd : m "tied" = some (.bool tied)) (htie : tied = true ↔ Tie vts res fun j => j)
    (h : ∀ h' tk m' news', Lm h₀ L m' oC news' h' → Q (.ret (.bool true)) { s with heap := h', toks := tk }) :
    wpAny (model (lP w) w) (lA dp un gd L f cd) (execs (lawBody.drop 12) (lEnv L f cd)) Q E s := by
  have hB := lb_of C.X C.T
  have hu64 : (lA dp un gd L f cd).units + 64 < cLine := by have := C.hu; show un + 64 < cLine; lia
  have hrn : res.length ≤ 3 := by rw [hT.len]; exact v1
  have hmem := hT.mem
  have bound : ∀ (g : Int → Int), (∀ x, 0 ≤ x → 0 ≤ g x ∧ g x ≤ x) → 0 ≤ (res.map g).sum ∧ (res.map g).sum ≤ 30 := fun g hg => by
    have a := sum_map_le g res fun x hx => hg x (hmem x hx)
    have b := hT.sum
    lia
  -- webster
  refine wpAny_execs_cons (st_webster ⟨rfl, rfl⟩ rfl F ht hD hrn (fun h2 tk2 D1 o1 F2 hD1 => ?_) fun _ => rfl)
  have k2 : ∀ {y : Str} {v : Value}, m y = some v → y ≠ ("webster" : Str) → (put m "webster" (.ref D1)) y = some v := fun e n => (if_neg n).trans e
  obtain ⟨b1, b2⟩ := bound (fun x => (x + 1).fdiv 2) fun x hx => by rw [Int.fdiv_eq_ediv_of_nonneg _ (by decide)]; lia
  obtain ⟨T1, t1⟩ := sub_webster v3 hT
  obtain ⟨yw, hyw⟩ := strs3 "saintelague" "webster" "majorfractions" hw3
  refine wpAny_execs_cons (sub_if (s := { s with heap := h2, toks := tk2 }) (fam := .W) (res := res) C rfl F2 (k2 hv (by decide)) (hl.tail _) v1 v2 v3 v4 (if_pos rfl) hD1 (k2 htd (by decide)) htie T1 t1 b1 b2 (fun Q' hq => ev_webs (s := { s with heap := h2, toks := tk2 }) C F2 (k2 hway (by decide)) hyw fun h3 tk3 p t F3 => hq h3 tk3 _ yw t F3 (fun q hq => .tail _ hq) (famW hyw)) (fun _ => rfl) fun h3 tk3 news3 F3 s3 => ?_)
  have S3 : ∀ p ∈ news, p ∈ news3 := fun p hp => s3 p (.tail _ hp)
  -- modified
  refine wpAny_execs_cons (st_modified (s := { s with heap := h3, toks := tk3 }) ⟨rfl, rfl⟩ ⟨rfl, rfl⟩ rfl hB F3 (k2 ht (by decide)) (hD.sub S3) hrn (fun h5 tk5 D4 o4 F5 hD4 => ?_) fun _ => rfl)
  have k5 : ∀ {y : Str} {v : Value}, m y = some v → y ≠ ("webster" : Str) → y ≠ ("modified" : Str) → (put (put m "webster" (.ref D1)) "modified" (.ref D4)) y = some v := fun e n n' => (if_neg n').trans (k2 e n)
  obtain ⟨c1, c2⟩ := bound (fun x => (cnt3 x : Int)) fun x hx => by
    simp only [cnt3, List.countP_cons, List.countP_nil]
    by_cases a : (7 : Int) ≤ x <;> by_cases b : (15 : Int) ≤ x <;> by_cases c : (25 : Int) ≤ x <;> simp [a, b, c] <;> lia
  obtain ⟨T2, t2⟩ := sub_modified v3 hT (by lia)
  refine wpAny_execs_cons (sub_if (s := { s with heap := h5, toks := tk5 }) (fam := .M) (res := res) C rfl F5 (k5 hv (by decide) (by decide)) ((hl.sub S3).tail _) v1 v2 v3 v4 (if_pos rfl) hD4 (k5 htd (by decide) (by decide)) htie T2 t2 c1 c2 (fun Q' hq => Calls.Constant_str (hq h5 _ _ _ _ F5 (fun q hq => hq) ⟨by decide, by decide, by decide, by decide⟩)) (fun _ => rfl) fun h6 tk6 news6 F6 s6 => ?_)
  have S6 : ∀ p ∈ news, p ∈ news6 := fun p hp => s6 p (.tail _ (S3 p hp))
  -- lesser
  refine wpAny_execs_cons (st_lesser (s := { s with heap := h6, toks := tk6 }) ⟨rfl, rfl⟩ rfl F6 (k5 ht (by decide) (by decide)) (hD.sub S6) hrn hc p2 p4 (fun h8 tk8 D7 o7 F8 hD7 => ?_) fun _ => rfl)
  have k8 : ∀ {y : Str} {v : Value}, m y = some v → y ≠ ("webster" : Str) → y ≠ ("modified" : Str) → y ≠ ("lesser" : Str) → (put (put (put m "webster" (.ref D1)) "modified" (.ref D4)) "lesser" (.ref D7)) y = some v := fun e n n' n'' => (if_neg n'').trans (k5 e n n')
  obtain ⟨d1, d2⟩ := bound (fun x => x.fdiv part) fun x hx => by
    rw [Int.fdiv_eq_ediv_of_nonneg _ (by lia)]
    exact ⟨Int.ediv_nonneg hx (by lia), Int.ediv_le_self _ hx⟩
  obtain ⟨T3, t3⟩ := sub_lesser p2 v3 hT
  obtain ⟨yj, hyj⟩ := strs3 "dhondt" "jefferson" "greatestdivisors" hw3
  refine wpAny_execs_cons (sub_if (s := { s with heap := h8, toks := tk8 }) (fam := .J) (res := res) C rfl F8 (k8 hv (by decide) (by decide) (by decide)) ((hl.sub S6).tail _) v1 v2 v3 v4 (if_pos rfl) hD7 (k8 htd (by decide) (by decide) (by decide)) htie T3 t3 d1 d2 (fun Q' hq => ev_jeff (s := { s with heap := h8, toks := tk8 }) C F8 (k8 hway (by decide) (by decide) (by decide)) hyj fun h9 tk9 p t F9 => hq h9 tk9 _ yj t F9 (fun q hq => .tail _ hq) (famJ hyj)) (fun _ => rfl) fun h9 tk9 news9 F9 s9 => ?_)
  have S9 : ∀ p ∈ news, p ∈ news9 := fun p hp => s9 p (.tail _ (S6 p hp))
  -- adams
  refine wpAny_execs_cons (st_adams (s := { s with heap := h9, toks := tk9 }) ⟨rfl, rfl⟩ rfl F9 (k8 ht (by decide) (by decide) (by decide)) (hD.sub S9) hrn (fun h11 tk11 D10 o10 F11 hD10 => ?_) fun _ => rfl)
  have k11 : ∀ {y : Str} {v : Value}, m y = some v → y ≠ ("webster" : Str) → y ≠ ("modified" : Str) → y ≠ ("lesser" : Str) → y ≠ ("adams" : Str) → (put (put (put (put m "webster" (.ref D1)) "modified" (.ref D4)) "lesser" (.ref D7)) "adams" (.ref D10)) y = some v := fun e n n' n'' n3 => (if_neg n3).trans (k8 e n n' n'')
  refine wpAny_execs_cons (lasg (ev_name (s := { s with heap := h11, toks := tk11 }) F11 (k11 hway (by decide) (by decide) (by decide) (by decide)) fun h12 tk12 tn F12 => ⟨_, _, _, F12, fun h13 tk13 F13 => ?_⟩))
  generalize hmm : put (put (put (put (put m "webster" (.ref D1)) "modified" (.ref D4)) "lesser" (.ref D7)) "adams" (.ref D10)) "name" (Value.str (([Str.ofString "adams", Str.ofString "smallestdivisor"] : List Str).getD (way % 2) "") tn) = m13 at F13
  have k13 : ∀ {y : Str} {v : Value}, m y = some v → y ≠ ("webster" : Str) → y ≠ ("modified" : Str) → y ≠ ("lesser" : Str) → y ≠ ("adams" : Str) → y ≠ ("name" : Str) → m13 y = some v := fun e n n' n'' n3 n4 => by rw [← hmm]; exact (if_neg n4).trans (k11 e n n' n'' n3)
  have hv13 := k13 hv (by decide) (by decide) (by decide) (by decide) (by decide)
  have hs13 := k13 hse (by decide) (by decide) (by decide) (by decide) (by decide)
  have htd13 := k13 htd (by decide) (by decide) (by decide) (by decide) (by decide)
  have ha13 : m13 "adams" = some (.ref D10) := by rw [← hmm]; exact (if_neg (by decide)).trans (if_pos rfl)
  have hn13 : m13 "name" = some (Value.str (([Str.ofString "adams", Str.ofString "smallestdivisor"] : List Str).getD (way % 2) "") tn) := by rw [← hmm]; exact if_pos rfl
  have hl13 : IL ((D10, o10) :: news9) l vts := (hl.sub S9).tail _
  have esum : ((st : Int) + (vts.length : Int)) = ((st + vts.length : Nat) : Int) := by lia
  -- adams with ties
  refine wpAny_execs_cons (wpAny_If (wpAny_isTrue_Compare1 (call4 (s := { s with heap := h13, toks := tk13 }) C F13 (lnm (s := { s with heap := h13, toks := tk13 }) F13 hn13 (lnm (s := { s with heap := h13, toks := tk13 }) F13 hv13 (wpAny_BinOp (lnm (s := { s with heap := h13, toks := tk13 }) F13 hs13 (callB1 (F13.gb hB).len (lEnv_ok L f cd) rfl (lnm (s := { s with heap := h13, toks := tk13 }) F13 hv13 (len_base (F13.il hl13) (by lia) (P.add_int (wpAny_Constant_bool ⟨C.X.keeps F13.F.keep, ?_⟩))))))))))))
  rw [esum]
  refine told_ev (s := { s with heap := h13, toks := _ }) C F13 hl13 v1 v2 v3 v4 (by lia) famA (by simp [baseOf]) (fun r tie h14 tk14 D14 o14 ho _ F14 hD14 => ?_) (fun hb => by cases hb)
  obtain ⟨e, _⟩ := out_adams v3 (by lia) hT ho
  subst e
  refine lnm (s := { s with heap := h14, toks := tk14 }) F14 ha13 (ne_lists hu64 (F14.il hD14) (F14.il (hD10.tail _)) (wpAny_truthy_bool ?_))
  rw [if_neg (by simp)]
  refine wpAny_execs_nil ?_
  have hl14 : IL ((D14, o14) :: (D10, o10) :: news9) l vts := hl13.tail _
  -- adams without
  refine wpAny_execs_cons (wpAny_Return_some (wpAny_Compare1 (call4 (s := { s with heap := h14, toks := tk14 }) C F14 (lnm (s := { s with heap := h14, toks := tk14 }) F14 hn13 (lnm (s := { s with heap := h14, toks := tk14 }) F14 hv13 (wpAny_BinOp (lnm (s := { s with heap := h14, toks := tk14 }) F14 hs13 (callB1 (F14.gb hB).len (lEnv_ok L f cd) rfl (lnm (s := { s with heap := h14, toks := tk14 }) F14 hv13 (len_base (F14.il hl14) (by lia) (P.add_int (wpAny_Constant_bool ⟨C.X.keeps F14.F.keep, ?_⟩))))))))))))
  rw [esum]
  refine told_ev (s := { s with heap := h14, toks := _ }) C F14 hl14 v1 v2 v3 v4 (by lia) famA (by simp [baseOf]) (fun r tie h15 tk15 D15 o15 ho hb F15 hD15 => ?_) (fun _ r h15 tk15 ho F15 => ?_)
  · obtain ⟨e, et⟩ := out_adams v3 (by lia) hT ho
    subst e
    have e0 : tied = false := by
      cases q : tied with
      | false => rfl
      | true => have := et.mpr (htie.mp q); rw [hb rfl] at this; cases this
    refine wpAny_IfExp (wpAny_isTrue_value (lnm (s := { s with heap := h15, toks := tk15 }) F15 htd13 (wpAny_truthy_bool ?_)))
    rw [e0, if_neg (by decide)]
    refine lnm (s := { s with heap := h15, toks := tk15 }) F15 ha13 (eq_lists hu64 (F15.il hD15) (F15.il ((hD10.tail _).tail _)) ?_)
    rw [decide_eq_true rfl]
    exact h h15 tk15 _ _ F15
  · obtain ⟨_, et⟩ := out_adams v3 (by lia) hT ho
    have e0 : tied = true := htie.mpr (et.mp rfl)
    refine wpAny_IfExp (wpAny_isTrue_value (lnm (s := { s with heap := h15, toks := tk15 }) F15 htd13 (wpAny_truthy_bool ?_)))
    rw [e0, if_pos rfl]
    exact wpAny_Constant_none (EqNone.eq_none_none (h h15 tk15 _ _ F15))
end
end Mine
end

-- part LQ
section
open PySem PySem.W PyProof.Rows PySem.Calls
set_option maxRecDepth 100000
namespace Mine
section
variable {w : World} {loose : List Str} {mean : ExcName → Option Value} {mg mb : Str → Option Value} {A₀ : Around} {dp un : Nat} {gd : Option (List Code)} {E : Value → Shared → Prop} {s : Shared} {h₀ : Heap} {L f : Addr} {cd : Value} {m : Str → Option Value} {oC : Obj}

theorem law_body {l0 : Addr} {vs : List Value} {ns : List Int} {u : Option Value} {Q : Flow → Shared → Prop} (C : Ctx0 w loose mean mg mb A₀ h₀ dp un) (F : Lm h₀ L m oC [] s.heap) (hs : m "script" = some (.ref l0)) (hl : h₀.IsList l0 vs.toArray) (hi : IntsAre vs ns) (hlay : PyData.layable0 (.list (ns.map .int)) = true)
    (hu : oC.data = .cell u)
    (h : ∀ h' tk m' oC' news', Lm h₀ L m' oC' news' h' → Q (.ret (.bool true)) { s with heap := h', toks := tk }) :
    wpAny (model (lP w) w) (lA dp un gd L f cd) (execs lawBody (lEnv L f cd)) Q E s := by
  have hB := lb_of C.X C.T
  refine law1 rfl hB F hs hl hi hlay hu fun h1 tk1 m1 oC1 news1 l vts st way part ts tw tp F1 hv hlv v1 v2 v3 v4 hse hst hway hw3 hc p2 p4 => ?_
  refine law2 (s := { s with heap := h1, toks := tk1 }) C F1 hv hlv v1 v2 v3 v4 hse hst hway hw3 fun h2 tk2 m2 news2 D res tied F2 ag2 hlv2 ht2 hD2 hT htd2 he2 htie => ?_
  have g2 : ∀ {y : Str} {v : Value}, m1 y = some v → y ≠ ("told" : Str) → y ≠ ("clear" : Str) → y ≠ ("tied" : Str) → y ≠ ("even" : Str) → m2 y = some v := fun e a b c d => (ag2 _ a b c d).trans e
  refine law3 (s := { s with heap := h2, toks := tk2 }) rfl hB F2 (g2 hv (by decide) (by decide) (by decide) (by decide)) hlv2 ht2 hD2 v1 hT.len (fun j hj => ?_) (fun i k hi hk => hT.st i k hi hk) he2 htd2 htie fun h3 tk3 m3 F3 ag3 => ?_
  · have := hT.small j hj
    lia
  · exact law4 (s := { s with heap := h3, toks := tk3 }) C F3 (ag3.get (g2 hv (by decide) (by decide) (by decide) (by decide))) hlv2 v1 v2 v3 v4 (ag3.get (g2 hse (by decide) (by decide) (by decide) (by decide))) hst (ag3.get (g2 hway (by decide) (by decide) (by decide) (by decide))) hw3 hc p2 p4 (ag3.get ht2) hD2 hT (ag3.get htd2) htie fun h4 tk4 m4 news4 F4 => h h4 tk4 m4 oC1 news4 F4
end
end Mine
end

open PySem PySem.W PyProof.Rows
set_option maxRecDepth 100000 in
set_option maxHeartbeats 8000000 in
theorem PySem.Challenge.cw_af0001_01_holds : PySem.Challenge.rw_af0001_01.Holds :=
  Mine.hd (by
  k_go0
  refine Mine.law_body (A₀ := callerA) (h₀ := _) ⟨below_caller _, by assumption, by assumption, ?_, ?_⟩ ⟨by assumption, by assumption⟩ (by rfl) (by assumption) (by assumption) (by assumption) (by assumption) ?_
  · decide
  · have := cLine_is; show _ + 3 + 100 < cLine; rw [this]; decide
  · intro h' tk m' oC' news' F9
    have F8 := F9.F
    have N8 := F9.N
    clear F9
    try dsimp only
    k_end
    wrow_close)
