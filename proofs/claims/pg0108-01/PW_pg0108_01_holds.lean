import PyProof.Rows.All
import Wide.All
import OpenK.AllK
import Wide.FinOn
import PySem.Challenge.RW_pg0108_01
set_option Elab.async false

namespace Mine
noncomputable section
open PySem PyProof.Rows
set_option maxRecDepth 100000
set_option linter.unusedVariables false
noncomputable def gallopS : Bool → Keyed → Array Keyed → Nat → Nat → Nat → StateT SortSt Sem (Option Nat) := sortPriv% PySem.Builtin.gallop
noncomputable def mergeLoS : Array Keyed → Array Keyed → StateT SortSt Sem (Array Keyed) := sortPriv% PySem.Builtin.mergeLo
noncomputable def mergeHiS : Array Keyed → Array Keyed → StateT SortSt Sem (Array Keyed) := sortPriv% PySem.Builtin.mergeHi

noncomputable def kv (κ : KeyKind) (p : Keyed) : κ.α := (κ.keyOf p.1).getD κ.dflt
noncomputable def Gd (κ : KeyKind) (p : Keyed) : Prop := ∃ a, κ.keyOf p.1 = some a

section
variable {prog : Program} {w : World} {A : Around} {E : Value → Shared → Prop} {s : Shared} {κ : PyProof.Rows.KeyKind}

theorem wpS_pos {σ α : Type} {M : Model} {c : Prop} {d : Decidable c} {X Y : StateT σ Sem α} {Q : α → σ → Prop} {st : σ} (h : c) (x : wpS M A E s X Q st) : wpS M A E s (@ite _ c d X Y) Q st := by rw [if_pos h]; exact x
theorem wpS_neg {σ α : Type} {M : Model} {c : Prop} {d : Decidable c} {X Y : StateT σ Sem α} {Q : α → σ → Prop} {st : σ} (h : ¬ c) (x : wpS M A E s Y Q st) : wpS M A E s (@ite _ c d X Y) Q st := by rw [if_neg h]; exact x

theorem wpS_ite {σ α : Type} {M : Model} {c : Prop} {d : Decidable c} {X Y : StateT σ Sem α} {Q : α → σ → Prop} {st : σ} (x : wpS M A E s X Q st) (y : wpS M A E s Y Q st) : wpS M A E s (@ite _ c d X Y) Q st := by split <;> assumption
theorem wpS_lt2 (hO : κ.OneLt) {st : SortSt} {x y : Keyed} {Q : Option Bool → SortSt → Prop} (hk : kindOf st = oneType') (gx : Gd κ x) (gy : Gd κ y)
    (h : Q (some (κ.blt (kv κ x) (kv κ y))) st) : wpS (model prog w) A E s (lt' x y) Q st := by
  obtain ⟨a, ha⟩ := gx
  obtain ⟨b, hb⟩ := gy
  rw [lt'_eq]
  refine wpS_bind (wpS_get ?_)
  rw [hk, keyLt'_oneType]
  refine wpS_bind (wpS_lift (wpAny_attempt (hO prog w A _ s x.1 y.1 a b ha hb ⟨rfl, ?_⟩)))
  unfold kv at h
  rw [ha, hb] at h
  exact wpS_pure h
theorem wpS_elem {st : SortSt} {arr : Array Keyed} {i : Nat} {Q : Keyed → SortSt → Prop} (hi : i < arr.size) (h : Q arr[i] st) : wpS (model prog w) A E s (elem' arr i) Q st := by
  rw [elem'_eq, getElem?_pos arr i hi]
  exact wpS_pure h

/-- what a gallop asks at place i -/
noncomputable def bp (κ : PyProof.Rows.KeyKind) (left : Bool) (key : Keyed) (arr : Array Keyed) (base i : Nat) : Bool :=
  if left then κ.blt (KK κ arr (base + i)) (kv κ key) else !κ.blt (kv κ key) (KK κ arr (base + i))

/-- the binary search at a gallop's end, its turn told by p -/
theorem half_ok {st : SortSt} {f : Nat → Option (Option Nat) × Nat × Nat → StateT SortSt Sem (ForInStep (Option (Option Nat) × Nat × Nat))} {p : Nat → Bool} {n lo hi : Nat} {Q : Option (Option Nat) × Nat × Nat → SortSt → Prop}
    (hf : ∀ x l r (Q' : ForInStep (Option (Option Nat) × Nat × Nat) → SortSt → Prop), r ≤ n → (l ≥ r → Q' (.done (none, l, r)) st) → (l < r → p (l + (r - l) / 2) = true → Q' (.yield (none, l + (r - l) / 2 + 1, r)) st) →
      (l < r → p (l + (r - l) / 2) = false → Q' (.yield (none, l, l + (r - l) / 2)) st) → wpS (model prog w) A E s (f x (none, l, r)) Q' st)
    (mono : ∀ i j, i ≤ j → j < n → p j = true → p i = true) (hlh : lo ≤ hi) (hhn : hi ≤ n)
    (h1 : ∀ i, i < lo → p i = true) (h2 : ∀ i, hi ≤ i → i < n → p i = false)
    (h : ∀ l r, r ≤ n → (∀ i, i < r → p i = true) → (∀ i, r ≤ i → i < n → p i = false) → Q (none, l, r) st) :
    wpS (model prog w) A E s (forIn [:n] ((none, lo, hi) : Option (Option Nat) × Nat × Nat) f) Q st := by
  refine wpS_forRange (I := fun x c st' => st' = st ∧ ∃ l r, c = (none, l, r) ∧ l ≤ r ∧ r ≤ n ∧ r - l ≤ n - x ∧ (∀ i, i < l → p i = true) ∧ (∀ i, r ≤ i → i < n → p i = false)) ?step ?fin ⟨rfl, lo, hi, rfl, hlh, hhn, by omega, h1, h2⟩
  case fin =>
    rintro c st' ⟨rfl, l, r, rfl, a1, a2, a3, a4, a5⟩
    have : l = r := by omega
    subst this
    exact h l l a2 a4 a5
  case step =>
    rintro x c st' _ hx ⟨rfl, l, r, rfl, a1, a2, a3, a4, a5⟩
    refine hf x l r _ a2 (fun hge => ?_) (fun hlt hp => ?_) fun hlt hp => ?_
    · have : l = r := by omega
      subst this
      exact h l l a2 a4 a5
    · exact ⟨rfl, _, r, rfl, by omega, a2, by omega, fun i hi => mono i _ (by omega) (by omega) hp, a5⟩
    · refine ⟨rfl, l, _, rfl, by omega, by omega, by omega, a4, fun i hi hin => ?_⟩
      cases hq : p i with
      | false => rfl
      | true => rw [mono _ i hi hin hq] at hp; cases hp

theorem gallop_ok (hO : κ.OneLt) {st : SortSt} {left : Bool} {key : Keyed} {arr : Array Keyed} {base n hint : Nat} {Q : Option Nat → SortSt → Prop} (hk : kindOf st = oneType') (gk : Gd κ key) (ga : ∀ i, (h : i < arr.size) → Gd κ arr[i])
    (hn : base + n ≤ arr.size) (hh : hint < n) (mono : ∀ i j, i ≤ j → j < n → bp κ left key arr base j = true → bp κ left key arr base i = true)
    (h : ∀ r, r ≤ n → (∀ i, i < r → bp κ left key arr base i = true) → (∀ i, r ≤ i → i < n → bp κ left key arr base i = false) → Q (some r) st) :
    wpS (model prog w) A E s (gallopS left key arr base n hint) Q st := by
  have hb : ∀ i (Q : Option Bool → SortSt → Prop), i < n → Q (some (bp κ left key arr base i)) st → wpS (model prog w) A E s (do
      let x ← elem' arr (base + i)
      if left = true then lt' x key else do
        let r ← lt' key x
        pure (Option.map (fun x => !x) r)) Q st := by
    intro i Q hi hq
    have hs : base + i < arr.size := by omega
    refine wpS_bind (wpS_elem hs ?_)
    have e : KK κ arr (base + i) = kv κ arr[base + i] := by unfold KK kv; rw [getElem?_pos arr _ hs]
    unfold bp at hq
    rw [e] at hq
    cases left with
    | true => exact wpS_lt2 hO hk (ga _ hs) gk hq
    | false => exact wpS_bind (wpS_lt2 hO hk gk (ga _ hs) (wpS_pure hq))
  generalize hp : bp κ left key arr base = p at *
  refine wpS_bind (hb hint _ hh ?_)
  dsimp only
  cases hr : p hint with
  | true =>
    refine wpS_pos rfl ?_
    refine wpS_bind (wpS_mono (wpS_forRange (I := fun x c st' => st' = st ∧ ∃ l o, c = (none, l, o) ∧ x + 1 ≤ o ∧ l < o ∧ hint + l < n ∧ p (hint + l) = true)
      (Q := fun c st' => st' = st ∧ ∃ l o, c = (none, l, o) ∧ l < o ∧ hint + l < n ∧ p (hint + l) = true ∧ (n - hint ≤ o ∨ (hint + o < n ∧ p (hint + o) = false))) ?step ?fin ⟨rfl, 0, 1, rfl, by omega, by omega, by omega, hr⟩) ?post)
    case fin =>
      rintro c st' ⟨rfl, l, o, rfl, a1, a2, a3, a4⟩
      exact ⟨rfl, l, o, rfl, a2, a3, a4, .inl (by omega)⟩
    case step =>
      rintro x c st' _ hx ⟨rfl, l, o, rfl, a1, a2, a3, a4⟩
      dsimp only
      by_cases hge : o ≥ n - hint
      · refine wpS_pos hge ?_
        exact wpS_pure ⟨rfl, l, o, rfl, a2, a3, a4, .inl hge⟩
      · refine wpS_neg hge ?_
        refine wpS_bind (hb _ _ (by omega) ?_)
        cases ho : p (hint + o) with
        | true => exact wpS_pure ⟨rfl, o, 2 * o + 1, rfl, by omega, by omega, by omega, ho⟩
        | false => exact wpS_pure ⟨rfl, l, o, rfl, a2, a3, a4, .inr ⟨by omega, ho⟩⟩
    case post =>
      rintro c st' ⟨rfl, l, o, rfl, a2, a3, a4, a5⟩
      dsimp only
      refine wpS_bind (half_ok (p := p) (lo := hint + l + 1) (hi := hint + min o (n - hint)) (fun x l' r' Q' hr' q1 q2 q3 => ?hf) mono (by omega) (by omega) (fun i hi => mono i _ (by omega) a3 a4) (fun i hi hin => ?h2) fun l' r' b1 b2 b3 => wpS_pure (h r' b1 b2 b3))
      case hf =>
        dsimp only
        by_cases hge : l' ≥ r'
        · refine wpS_pos hge ?_; exact wpS_pure (q1 hge)
        · refine wpS_neg hge ?_
          refine wpS_bind (hb _ _ (by omega) ?_)
          cases hpp : p (l' + (r' - l') / 2) with
          | true => exact wpS_pure (q2 (by omega) hpp)
          | false => exact wpS_pure (q3 (by omega) hpp)
      case h2 =>
        rcases a5 with a5 | ⟨a5, a6⟩
        · omega
        · cases hq : p i with
          | false => rfl
          | true => rw [mono _ i (by omega) hin hq] at a6; cases a6
  | false =>
    refine wpS_neg (by simp) ?_
    refine wpS_bind (wpS_mono (wpS_forRange (I := fun x c st' => st' = st ∧ ∃ l o, c = (none, l, o) ∧ x + 1 ≤ o ∧ l < o ∧ l ≤ hint ∧ p (hint - l) = false)
      (Q := fun c st' => st' = st ∧ ∃ l o, c = (none, l, o) ∧ l < o ∧ l ≤ hint ∧ p (hint - l) = false ∧ (hint + 1 ≤ o ∨ (o ≤ hint ∧ p (hint - o) = true))) ?step2 ?fin2 ⟨rfl, 0, 1, rfl, by omega, by omega, by omega, hr⟩) ?post2)
    case fin2 =>
      rintro c st' ⟨rfl, l, o, rfl, a1, a2, a3, a4⟩
      exact ⟨rfl, l, o, rfl, a2, a3, a4, .inl (by omega)⟩
    case step2 =>
      rintro x c st' _ hx ⟨rfl, l, o, rfl, a1, a2, a3, a4⟩
      dsimp only
      by_cases hge : o ≥ hint + 1
      · refine wpS_pos hge ?_
        exact wpS_pure ⟨rfl, l, o, rfl, a2, a3, a4, .inl hge⟩
      · refine wpS_neg hge ?_
        refine wpS_bind (hb _ _ (by omega) ?_)
        cases ho : p (hint - o) with
        | true => exact wpS_pure ⟨rfl, l, o, rfl, a2, a3, a4, .inr ⟨by omega, ho⟩⟩
        | false => exact wpS_pure ⟨rfl, o, 2 * o + 1, rfl, by omega, by omega, by omega, ho⟩
    case post2 =>
      rintro c st' ⟨rfl, l, o, rfl, a2, a3, a4, a5⟩
      dsimp only
      refine wpS_bind (half_ok (p := p) (lo := hint + 1 - min o (hint + 1)) (hi := hint - l) (fun x l' r' Q' hr' q1 q2 q3 => ?hf) mono (by omega) (by omega) (fun i hi => ?h1) (fun i hi hin => ?h2) fun l' r' b1 b2 b3 => wpS_pure (h r' b1 b2 b3))
      case hf =>
        dsimp only
        by_cases hge : l' ≥ r'
        · refine wpS_pos hge ?_; exact wpS_pure (q1 hge)
        · refine wpS_neg hge ?_
          refine wpS_bind (hb _ _ (by omega) ?_)
          cases hpp : p (l' + (r' - l') / 2) with
          | true => exact wpS_pure (q2 (by omega) hpp)
          | false => exact wpS_pure (q3 (by omega) hpp)
      case h1 =>
        rcases a5 with a5 | ⟨a5, a6⟩
        · omega
        · exact mono i _ (by omega) (by omega) a6
      case h2 =>
        cases hq : p i with
        | false => rfl
        | true => rw [mono _ i (by omega) hin hq] at a4; cases a4
end
end
end Mine

namespace Mine
noncomputable section
open PySem PyProof.Rows
set_option maxRecDepth 100000
set_option linter.unusedVariables false

/-- what a merge has done: out is made, A and B are left -/
structure MI {α β : Type} (R : β → β → Prop) (f : α → β) (L out A B : List α) : Prop where
  perm : (out ++ (A ++ B)).Perm L
  srt : (out.map f).Pairwise R
  sa : (A.map f).Pairwise R
  sb : (B.map f).Pairwise R
  la : ∀ x ∈ out, ∀ y ∈ A, R (f x) (f y)
  lb : ∀ x ∈ out, ∀ y ∈ B, R (f x) (f y)

section
variable {α β : Type} {R : β → β → Prop} {f : α → β} {L out A B C : List α}
theorem MI.chunkA (m : MI R f L out (C ++ A) B) (h : ∀ x ∈ C, ∀ y ∈ B, R (f x) (f y)) : MI R f L (out ++ C) A B := by
  have hs := m.sa
  rw [List.map_append, List.pairwise_append] at hs
  refine ⟨by simpa using m.perm, ?_, hs.2.1, m.sb, ?_, ?_⟩
  · rw [List.map_append, List.pairwise_append]
    refine ⟨m.srt, hs.1, ?_⟩
    intro x hx y hy
    obtain ⟨x', hx', rfl⟩ := List.mem_map.mp hx
    obtain ⟨y', hy', rfl⟩ := List.mem_map.mp hy
    exact m.la x' hx' y' (List.mem_append_left _ hy')
  · intro x hx y hy
    rcases List.mem_append.mp hx with hx | hx
    · exact m.la x hx y (List.mem_append_right _ hy)
    · exact hs.2.2 _ (List.mem_map.mpr ⟨x, hx, rfl⟩) _ (List.mem_map.mpr ⟨y, hy, rfl⟩)
  · intro x hx y hy
    rcases List.mem_append.mp hx with hx | hx
    · exact m.lb x hx y hy
    · exact h x hx y hy
theorem MI.swap (m : MI R f L out A B) : MI R f L out B A :=
  ⟨(List.Perm.append_left _ List.perm_append_comm).trans m.perm, m.srt, m.sb, m.sa, m.lb, m.la⟩
theorem MI.chunkB (m : MI R f L out A (C ++ B)) (h : ∀ x ∈ C, ∀ y ∈ A, R (f x) (f y)) : MI R f L (out ++ C) A B := (m.swap.chunkA h).swap
/-- all is left of one side, or one side stands wholly below the other -/
theorem MI.fin (m : MI R f L out A B) (h : ∀ x ∈ A, ∀ y ∈ B, R (f x) (f y)) : (out ++ A ++ B).Perm L ∧ ((out ++ A ++ B).map f).Pairwise R := by
  have m1 : MI R f L (out ++ A) [] B := MI.chunkA (A := []) (by simpa using m) h
  have m2 : MI R f L (out ++ A ++ B) [] [] := MI.chunkB (B := []) (by simpa using m1) (fun _ _ _ q => nomatch q)
  exact ⟨by simpa using m2.perm, m2.srt⟩
end

/-- the sort's state but for its gallop's size -/
noncomputable def Sm (x y : SortSt) : Prop := kindOf y = kindOf x ∧ arrOf y = arrOf x ∧ pendingOf y = pendingOf x ∧ failedOf y = failedOf x
theorem Sm.refl (x : SortSt) : Sm x x := ⟨rfl, rfl, rfl, rfl⟩
theorem Sm.trans {x y z : SortSt} (a : Sm x y) (b : Sm y z) : Sm x z := ⟨b.1.trans a.1, b.2.1.trans a.2.1, b.2.2.1.trans a.2.2.1, b.2.2.2.trans a.2.2.2⟩

theorem KK_kv {κ : PyProof.Rows.KeyKind} {a : Array Keyed} {i : Nat} (h : i < a.size) : KK κ a i = kv κ a[i] := by unfold KK kv; rw [getElem?_pos a i h]
theorem mem_cut {a : Array Keyed} {i k : Nat} {x : Keyed} (h : x ∈ (a.toList.drop i).take k) : ∃ j, ∃ hj : j < a.size, i ≤ j ∧ j < i + k ∧ x = a[j] := by
  obtain ⟨n, hn, rfl⟩ := List.mem_iff_getElem.mp h
  simp only [List.length_take, List.length_drop, Array.length_toList] at hn
  refine ⟨i + n, by lia, by lia, by lia, ?_⟩
  simp
theorem mem_rest {a : Array Keyed} {i : Nat} {x : Keyed} (h : x ∈ a.toList.drop i) : ∃ j, ∃ hj : j < a.size, i ≤ j ∧ x = a[j] := by
  obtain ⟨n, hn, rfl⟩ := List.mem_iff_getElem.mp h
  simp only [List.length_drop, Array.length_toList] at hn
  exact ⟨i + n, by lia, by lia, by simp⟩

section lo
variable {κ : PyProof.Rows.KeyKind} {a b : Array Keyed}
/-- a merge from below -/
structure Lo (κ : PyProof.Rows.KeyKind) (a b out : Array Keyed) (ia ib : Nat) : Prop where
  ha : ia ≤ a.size
  hb : ib ≤ b.size
  m : MI κ.kle (kv κ) (a.toList ++ b.toList) out.toList (a.toList.drop ia) (b.toList.drop ib)
/-- a and b are merged -/
noncomputable def Mg (κ : PyProof.Rows.KeyKind) (a b out : Array Keyed) : Prop := out.toList.Perm (a.toList ++ b.toList) ∧ (out.toList.map (kv κ)).Pairwise κ.kle

theorem Lo.chunkA {out : Array Keyed} {ia ib k : Nat} (x : Lo κ a b out ia ib) (hk : ia + k ≤ a.size) (h : ∀ i j, ia ≤ i → i < ia + k → ib ≤ j → j < b.size → κ.kle (KK κ a i) (KK κ b j)) : Lo κ a b (out ++ a.extract ia (ia + k)) (ia + k) ib := by
  refine ⟨hk, x.hb, ?_⟩
  have e : (out ++ a.extract ia (ia + k)).toList = out.toList ++ (a.toList.drop ia).take k := by simp
  rw [e]
  refine MI.chunkA ?_ ?_
  · have : (a.toList.drop ia).take k ++ a.toList.drop (ia + k) = a.toList.drop ia := by
      rw [← List.drop_drop, List.take_append_drop]
    rw [this]; exact x.m
  · intro p hp q hq
    obtain ⟨i, hi, h1, h2, rfl⟩ := mem_cut hp
    obtain ⟨j, hj, h3, rfl⟩ := mem_rest hq
    have := h i j h1 h2 h3 hj
    rwa [KK_kv hi, KK_kv hj] at this
theorem Lo.chunkB {out : Array Keyed} {ia ib k : Nat} (x : Lo κ a b out ia ib) (hk : ib + k ≤ b.size) (h : ∀ i j, ib ≤ i → i < ib + k → ia ≤ j → j < a.size → κ.kle (KK κ b i) (KK κ a j)) : Lo κ a b (out ++ b.extract ib (ib + k)) ia (ib + k) := by
  refine ⟨x.ha, hk, ?_⟩
  have e : (out ++ b.extract ib (ib + k)).toList = out.toList ++ (b.toList.drop ib).take k := by simp
  rw [e]
  refine MI.chunkB ?_ ?_
  · have : (b.toList.drop ib).take k ++ b.toList.drop (ib + k) = b.toList.drop ib := by
      rw [← List.drop_drop, List.take_append_drop]
    rw [this]; exact x.m
  · intro p hp q hq
    obtain ⟨i, hi, h1, h2, rfl⟩ := mem_cut hp
    obtain ⟨j, hj, h3, rfl⟩ := mem_rest hq
    have := h i j h1 h2 h3 hj
    rwa [KK_kv hi, KK_kv hj] at this
theorem push_extract {out a : Array Keyed} {i : Nat} (h : i < a.size) : out ++ a.extract i (i + 1) = out.push a[i] := by
  apply Array.ext'
  simp [h, List.take_one, List.head?_drop]
theorem Lo.pushA {out : Array Keyed} {ia ib : Nat} (x : Lo κ a b out ia ib) (hk : ia < a.size) (h : ∀ j, ib ≤ j → j < b.size → κ.kle (KK κ a ia) (KK κ b j)) : Lo κ a b (out.push a[ia]) (ia + 1) ib := by
  rw [← push_extract hk]
  exact x.chunkA (k := 1) hk fun i j h1 h2 h3 h4 => by
    have : i = ia := by lia
    subst this; exact h j h3 h4
theorem Lo.pushB {out : Array Keyed} {ia ib : Nat} (x : Lo κ a b out ia ib) (hk : ib < b.size) (h : ∀ j, ia ≤ j → j < a.size → κ.kle (KK κ b ib) (KK κ a j)) : Lo κ a b (out.push b[ib]) ia (ib + 1) := by
  rw [← push_extract hk]
  exact x.chunkB (k := 1) hk fun i j h1 h2 h3 h4 => by
    have : i = ib := by lia
    subst this; exact h j h3 h4
theorem ext_toList (a : Array Keyed) (i : Nat) : (a.extract i).toList = a.toList.drop i := by simp [List.take_of_length_le]
theorem Lo.done {out : Array Keyed} {ia ib : Nat} (x : Lo κ a b out ia ib) (h : ∀ i j, ia ≤ i → i < a.size → ib ≤ j → j < b.size → κ.kle (KK κ a i) (KK κ b j)) : Mg κ a b (out ++ a.extract ia ++ b.extract ib) := by
  have e : (out ++ a.extract ia ++ b.extract ib).toList = out.toList ++ a.toList.drop ia ++ b.toList.drop ib := by rw [Array.toList_append, Array.toList_append, ext_toList, ext_toList]
  unfold Mg
  rw [e]
  refine x.m.fin fun p hp q hq => ?_
  obtain ⟨i, hi, h1, rfl⟩ := mem_rest hp
  obtain ⟨j, hj, h3, rfl⟩ := mem_rest hq
  have := h i j h1 hi h3 hj
  rwa [KK_kv hi, KK_kv hj] at this
theorem Lo.last {out : Array Keyed} {ia ib : Nat} (x : Lo κ a b out ia ib) (h : ∀ i j, ia ≤ i → i < a.size → ib ≤ j → j < b.size → κ.kle (KK κ b j) (KK κ a i)) : Mg κ a b (out ++ b.extract ib ++ a.extract ia) := by
  have e : (out ++ b.extract ib ++ a.extract ia).toList = out.toList ++ b.toList.drop ib ++ a.toList.drop ia := by rw [Array.toList_append, Array.toList_append, ext_toList, ext_toList]
  unfold Mg
  rw [e]
  refine x.m.swap.fin fun p hp q hq => ?_
  obtain ⟨i, hi, h1, rfl⟩ := mem_rest hp
  obtain ⟨j, hj, h3, rfl⟩ := mem_rest hq
  have := h j i h3 hj h1 hi
  rwa [KK_kv hi, KK_kv hj] at this
end lo
end
end Mine

namespace Mine
noncomputable section
open PySem PyProof.Rows
set_option maxRecDepth 100000
set_option linter.unusedVariables false
section
variable {prog : Program} {w : World} {A : Around} {E : Value → Shared → Prop} {s : Shared} {κ : PyProof.Rows.KeyKind}

theorem galr_ok (hO : κ.OneLt) {st : SortSt} {left : Bool} {key : Keyed} {arr : Array Keyed} {base n hint : Nat} {Q : Option Nat → SortSt → Prop} (hk : kindOf st = oneType') (gk : Gd κ key) (ga : ∀ i, (h : i < arr.size) → Gd κ arr[i])
    (hn : base + n ≤ arr.size) (hh : hint < n) (sa : ∀ i j, base ≤ i → i ≤ j → j < base + n → κ.kle (KK κ arr i) (KK κ arr j))
    (h : ∀ r, r ≤ n → (∀ i, base ≤ i → i < base + r → κ.kle (KK κ arr i) (kv κ key)) → (∀ i, base + r ≤ i → i < base + n → κ.kle (kv κ key) (KK κ arr i)) → Q (some r) st) :
    wpS (model prog w) A E s (gallopS left key arr base n hint) Q st := by
  refine gallop_ok hO hk gk ga hn hh ?mono ?fin
  case mono =>
    intro i j hij hj hb
    have hs := sa (base + i) (base + j) (by lia) (by lia) (by lia)
    unfold bp at hb ⊢
    cases left with
    | true =>
      rw [if_pos rfl] at hb ⊢
      exact PyProof.Rows.KeyOrd.klt_of_kle_of_klt hs hb
    | false =>
      rw [if_neg (by simp)] at hb ⊢
      have : κ.kle (KK κ arr (base + j)) (kv κ key) := by unfold PyProof.Rows.KeyOrd.kle; simpa using hb
      have := PyProof.Rows.KeyOrd.kle_trans hs this
      unfold PyProof.Rows.KeyOrd.kle at this
      simpa using this
  case fin =>
    intro r hr h1 h2
    refine h r hr (fun i hi hi2 => ?_) fun i hi hi2 => ?_
    · have := h1 (i - base) (by lia)
      unfold bp at this
      rw [show base + (i - base) = i by lia] at this
      cases left with
      | true =>
        rw [if_pos rfl] at this
        exact PyProof.Rows.KeyOrd.kle_of_klt this
      | false =>
        rw [if_neg (by simp)] at this
        unfold PyProof.Rows.KeyOrd.kle; simpa using this
    · have := h2 (i - base) (by lia) (by lia)
      unfold bp at this
      rw [show base + (i - base) = i by lia] at this
      cases left with
      | true =>
        rw [if_pos rfl] at this
        exact this
      | false =>
        rw [if_neg (by simp)] at this
        exact PyProof.Rows.KeyOrd.kle_of_klt (by unfold PyProof.Rows.KeyOrd.klt; simpa using this)

theorem gal_ok (hO : κ.OneLt) {st : SortSt} {left : Bool} {key : Keyed} {arr : Array Keyed} {base n hint : Nat} {Q : Option Nat → SortSt → Prop} (hk : kindOf st = oneType') (gk : Gd κ key) (ga : ∀ i, (h : i < arr.size) → Gd κ arr[i])
    (hn : base + n ≤ arr.size) (hh : hint < n) (sa : ∀ i j, i ≤ j → j < arr.size → κ.kle (KK κ arr i) (KK κ arr j))
    (h : ∀ r, r ≤ n → (∀ i, base ≤ i → i < base + r → κ.kle (KK κ arr i) (kv κ key)) → (∀ i, base + r ≤ i → i < base + n → κ.kle (kv κ key) (KK κ arr i)) → Q (some r) st) :
    wpS (model prog w) A E s (gallopS left key arr base n hint) Q st :=
  galr_ok hO hk gk ga hn hh (fun i j _ h1 h2 => sa i j h1 (by lia)) h
theorem wpS_setg {st0 st : SortSt} (hS : Sm st0 st) {f : SortSt → SortSt} {Q : PUnit → SortSt → Prop} (hf : ∀ x, Sm x (f x)) (h : ∀ st', Sm st0 st' → Q ⟨⟩ st') : wpS (model prog w) A E s (modify f : StateT SortSt Sem PUnit) Q st :=
  wpS_modify (h _ (hS.trans (hf _)))

theorem wpS_pick {α : Type} {c : Nat → Prop} {d : ∀ n, Decidable (c n)} {F : Nat → StateT SortSt Sem α} {Q : α → SortSt → Prop} {st : SortSt} (h : ∀ x, wpS (model prog w) A E s (F x) Q st) :
    ∀ z y, wpS (model prog w) A E s (@ite _ (c z) (d z) (F y) (F z)) Q st := fun z y => by split <;> exact h _
theorem wpS_rest2 {α : Type} {c : Prop} {d : Decidable c} {c1 c2 : Array Keyed → Nat → Prop} {d1 : ∀ o i, Decidable (c1 o i)} {d2 : ∀ o i, Decidable (c2 o i)} {X Y R : Array Keyed → Nat → StateT SortSt Sem α} {p : Array Keyed → Nat → Prop} {o2 : Array Keyed} {i2 : Nat} {Q : α → SortSt → Prop} {st : SortSt}
    (hX : ∀ o i, p o i → c → c1 o i → wpS (model prog w) A E s (X o i) Q st) (hY : ∀ o i, p o i → c → c2 o i → wpS (model prog w) A E s (Y o i) Q st)
    (hR : ∀ o i, (p o i ∧ ¬ c1 o i ∧ ¬ c2 o i) ∨ (¬ c ∧ o = o2 ∧ i = i2) → wpS (model prog w) A E s (R o i) Q st) :
    ∀ o i, p o i → wpS (model prog w) A E s (@ite _ c d (@ite _ (c1 o i) (d1 o i) (X o i) (@ite _ (c2 o i) (d2 o i) (Y o i) (R o i))) (R o2 i2)) Q st := fun o i hp => by
  by_cases h : c
  · rw [if_pos h]
    by_cases h1 : c1 o i
    · rw [if_pos h1]; exact hX o i hp h h1
    · rw [if_neg h1]
      by_cases h2 : c2 o i
      · rw [if_pos h2]; exact hY o i hp h h2
      · rw [if_neg h2]; exact hR _ _ (.inl ⟨hp, h1, h2⟩)
  · rw [if_neg h]; exact hR _ _ (.inr ⟨h, rfl, rfl⟩)
theorem wpS_rest1 {α : Type} {c : Prop} {d : Decidable c} {c1 : Array Keyed → Nat → Prop} {d1 : ∀ o i, Decidable (c1 o i)} {X R : Array Keyed → Nat → StateT SortSt Sem α} {p : Array Keyed → Nat → Prop} {o2 : Array Keyed} {i2 : Nat} {Q : α → SortSt → Prop} {st : SortSt}
    (hX : ∀ o i, p o i → c → c1 o i → wpS (model prog w) A E s (X o i) Q st) (hR : ∀ o i, (p o i ∧ ¬ c1 o i) ∨ (¬ c ∧ o = o2 ∧ i = i2) → wpS (model prog w) A E s (R o i) Q st) :
    ∀ o i, p o i → wpS (model prog w) A E s (@ite _ c d (@ite _ (c1 o i) (d1 o i) (X o i) (R o i)) (R o2 i2)) Q st := fun o i hp => by
  by_cases h : c
  · rw [if_pos h]
    by_cases h1 : c1 o i
    · rw [if_pos h1]; exact hX o i hp h h1
    · rw [if_neg h1]; exact hR _ _ (.inl ⟨hp, h1⟩)
  · rw [if_neg h]; exact hR _ _ (.inr ⟨h, rfl, rfl⟩)

/-- where a merge from below stands: done with r, or on its way, p items taken -/
noncomputable def KLo (κ : PyProof.Rows.KeyKind) (a b : Array Keyed) (p : Nat) (ret : Option (Array Keyed)) (out : Array Keyed) (ia ib : Nat) : Prop :=
  match ret with
  | some r => Mg κ a b r
  | none => Lo κ a b out ia ib ∧ ia + 1 < a.size ∧ ib < b.size ∧ p ≤ ia + ib

/-- the same of a loop's whole state -/
noncomputable def JLo {τ : Type} (κ : PyProof.Rows.KeyKind) (a b : Array Keyed) (st : SortSt) (p : Nat) (c : Option (Array Keyed) × Array Keyed × Nat × Nat × τ) (st2 : SortSt) : Prop :=
  Sm st st2 ∧ KLo κ a b p c.1 c.2.1 c.2.2.1 c.2.2.2.1
/-- on its way -/
noncomputable def NLo {τ : Type} (κ : PyProof.Rows.KeyKind) (a b : Array Keyed) (st : SortSt) (p : Nat) (c : Option (Array Keyed) × Array Keyed × Nat × Nat × τ) (st2 : SortSt) : Prop := c.1 = none ∧ JLo κ a b st p c st2
section
variable {τ : Type} {a b out r : Array Keyed} {st st2 : SortSt} {p ia ib : Nat} {t : τ} {c : Option (Array Keyed) × Array Keyed × Nat × Nat × τ}
theorem jlo_some (hS : Sm st st2) (h : Mg κ a b r) : JLo κ a b st p (some r, out, ia, ib, t) st2 := ⟨hS, h⟩
theorem jlo_none (hS : Sm st st2) (h : Lo κ a b out ia ib) (h1 : ia + 1 < a.size) (h2 : ib < b.size) (h3 : p ≤ ia + ib) : JLo κ a b st p (none, out, ia, ib, t) st2 := ⟨hS, h, h1, h2, h3⟩
theorem nlo (hS : Sm st st2) (h : Lo κ a b out ia ib) (h1 : ia + 1 < a.size) (h2 : ib < b.size) (h3 : p ≤ ia + ib) : NLo κ a b st p (none, out, ia, ib, t) st2 := ⟨rfl, hS, h, h1, h2, h3⟩
theorem NLo.op (h : NLo κ a b st p c st2) : ∃ out ia ib t, c = (none, out, ia, ib, t) ∧ Sm st st2 ∧ Lo κ a b out ia ib ∧ ia + 1 < a.size ∧ ib < b.size ∧ p ≤ ia + ib := by
  obtain ⟨ret, out, ia, ib, t⟩ := c
  obtain ⟨e, hS, h⟩ := h
  have e : ret = none := e
  subst e
  obtain ⟨h, h1, h2, h3⟩ := h
  exact ⟨out, ia, ib, t, rfl, hS, h, h1, h2, h3⟩
theorem JLo.op (h : JLo κ a b st p c st2) : Sm st st2 ∧ ((∃ r out ia ib t, c = (some r, out, ia, ib, t) ∧ Mg κ a b r) ∨ ∃ out ia ib t, c = (none, out, ia, ib, t) ∧ Lo κ a b out ia ib ∧ ia + 1 < a.size ∧ ib < b.size ∧ p ≤ ia + ib) := by
  obtain ⟨ret, out, ia, ib, t⟩ := c
  obtain ⟨hS, h⟩ := h
  cases ret with
  | some r => exact ⟨hS, .inl ⟨r, out, ia, ib, t, rfl, h⟩⟩
  | none => exact ⟨hS, .inr ⟨out, ia, ib, t, rfl, h⟩⟩
end

theorem mergeLo_ok (hO : κ.OneLt) {a b : Array Keyed} {st : SortSt} {Q : Array Keyed → SortSt → Prop} (hk : kindOf st = oneType')
    (ga : ∀ i, (h : i < a.size) → Gd κ a[i]) (gb : ∀ i, (h : i < b.size) → Gd κ b[i]) (ha : 1 ≤ a.size) (hb : 1 ≤ b.size)
    (sa : ∀ i j, i ≤ j → j < a.size → κ.kle (KK κ a i) (KK κ a j)) (sb : ∀ i j, i ≤ j → j < b.size → κ.kle (KK κ b i) (KK κ b j))
    (hf : ∀ j, j < a.size → κ.kle (KK κ b 0) (KK κ a j)) (hl : ∀ j, j < b.size → κ.kle (KK κ b j) (KK κ a (a.size - 1)))
    (h : ∀ out st', Sm st st' → Mg κ a b out → Q out st') : wpS (model prog w) A E s (mergeLoS a b) Q st := by
  have hal : ∀ i j, a.size ≤ i + 1 → i < a.size → j < b.size → κ.kle (KK κ b j) (KK κ a i) := fun i j h1 h2 h3 => by
    have : i = a.size - 1 := by lia
    subst this; exact hl j h3
  have hA : MI κ.kle (kv κ) (a.toList ++ b.toList) [] a.toList b.toList := by
    have pw : ∀ c : Array Keyed, (∀ i j, i ≤ j → j < c.size → κ.kle (KK κ c i) (KK κ c j)) → (c.toList.map (kv κ)).Pairwise κ.kle := fun c sc => by
      rw [List.pairwise_iff_getElem]
      intro i j hi hj hij
      have hj' : j < c.size := by simpa using hj
      have := sc i j (by lia) hj'
      rw [KK_kv (by lia), KK_kv hj'] at this
      simpa using this
    exact ⟨by simp, .nil, pw a sa, pw b sb, fun _ q => (nomatch q), fun _ q => (nomatch q)⟩
  have h0 : Lo κ a b #[b[0]] 0 1 := Lo.pushB (out := #[]) (ia := 0) (ib := 0) ⟨Nat.zero_le _, Nat.zero_le _, by simpa using hA⟩ hb fun j _ hj => hf j hj
  refine wpS_bind (wpS_lift (wpAny_rule ⟨rfl, ?_⟩))
  refine wpS_bind (wpS_elem hb ?_)
  dsimp only
  by_cases hb1 : 1 = b.size
  · refine wpS_pos (by simpa using hb1) ?_
    exact wpS_pure (h _ _ (Sm.refl _) (h0.done fun i j _ _ h3 h4 => by lia))
  refine wpS_neg (by simpa using hb1) ?_
  by_cases ha1 : 0 + 1 = a.size
  · refine wpS_pos (by simpa using ha1) ?_
    exact wpS_pure (h _ _ (Sm.refl _) (h0.last fun i j _ h2 _ h4 => hal i j (by lia) h2 h4))
  refine wpS_neg (by simpa using ha1) ?_
  refine wpS_bind (wpS_get ?_)
  refine wpS_bind (wpS_mono (wpS_forRange (I := fun x c st' => NLo κ a b st (x + 1) c st')
    (Q := fun c st' => JLo κ a b st (a.size + b.size + 1) c st') ?step ?fin (nlo (Sm.refl _) h0 (by lia) (by lia) (by lia))) ?post)
  case fin =>
    intro c st' hN
    rw [show max 0 (a.size + b.size) = a.size + b.size by lia] at hN
    exact hN.2
  case post =>
    intro c st' hJ
    obtain ⟨hS, ⟨r, out, ia, ib, g, rfl, hr⟩ | ⟨out, ia, ib, g, rfl, hL, h1, h2, h3⟩⟩ := hJ.op
    · exact wpS_pure (h r st' hS hr)
    · lia
  case step =>
    intro x c st' _ hx hN
    obtain ⟨out, ia, ib, g, rfl, hS, hL, h1, h2, h3⟩ := hN.op
    clear hN
    dsimp only
    have hkS : ∀ st2, Sm st st2 → kindOf st2 = oneType' := fun st2 q => q.1.trans hk
    refine wpS_bind (wpS_mono (wpS_forRange (I := fun y c st2 => NLo κ a b st (x + 1 + y) c st2)
      (Q := fun c st2 => JLo κ a b st (x + 2) c st2) ?istep ?ifin (nlo hS hL h1 h2 h3)) ?ipost)
    case ifin =>
      intro c st2 hN
      obtain ⟨out, ia, ib, t, rfl, hS, hL, h1, h2, h3⟩ := hN.op
      exact jlo_none hS hL h1 h2 (by lia)
    case istep =>
      intro y c st2 _ hy hN
      obtain ⟨out, ia, ib, ⟨ac, bc⟩, rfl, hS2, hL, h1, h2, h3⟩ := hN.op
      clear hN
      dsimp only
      have hia : ia < a.size := by lia
      refine wpS_bind (wpS_elem h2 (wpS_bind (wpS_elem hia ?_)))
      refine wpS_bind (wpS_lt2 hO (hkS _ hS2) (gb _ _) (ga _ _) ?_)
      dsimp only
      cases hw : κ.blt (kv κ b[ib]) (kv κ a[ia]) with
      | true =>
        refine wpS_pos rfl ?_
        refine wpS_bind (wpS_elem h2 ?_)
        have hle : ∀ j, ia ≤ j → j < a.size → κ.kle (KK κ b ib) (KK κ a j) := fun j q1 q2 => by
          refine PyProof.Rows.KeyOrd.kle_trans ?_ (sa ia j q1 q2)
          rw [KK_kv h2, KK_kv hia]
          exact PyProof.Rows.KeyOrd.kle_of_klt hw
        have x1 := hL.pushB h2 hle
        by_cases hbe : ib + 1 = b.size
        · refine wpS_pos (by simpa using hbe) ?_
          exact wpS_pure (jlo_some hS2 (x1.done fun i j _ _ q3 q4 => by lia))
        · refine wpS_neg (by simpa using hbe) ?_
          by_cases hge : bc + 1 ≥ g
          · refine wpS_pos hge ?_
            exact wpS_pure (jlo_none hS2 x1 h1 (by lia) (by lia))
          · refine wpS_neg hge ?_
            exact wpS_pure (nlo hS2 x1 h1 (by lia) (by lia))
      | false =>
        refine wpS_neg (by simp) ?_
        refine wpS_bind (wpS_elem hia ?_)
        have hle : ∀ j, ib ≤ j → j < b.size → κ.kle (KK κ a ia) (KK κ b j) := fun j q1 q2 => by
          refine PyProof.Rows.KeyOrd.kle_trans ?_ (sb ib j q1 q2)
          rw [KK_kv h2, KK_kv hia]
          exact hw
        have x1 := hL.pushA hia hle
        by_cases hae : ia + 1 + 1 = a.size
        · refine wpS_pos (by simpa using hae) ?_
          exact wpS_pure (jlo_some hS2 (x1.last fun i j q1 q2 q3 q4 => hal i j (by lia) q2 q4))
        · refine wpS_neg (by simpa using hae) ?_
          by_cases hge : ac + 1 ≥ g
          · refine wpS_pos hge ?_
            exact wpS_pure (jlo_none hS2 x1 (by lia) h2 (by lia))
          · refine wpS_neg hge ?_
            exact wpS_pure (nlo hS2 x1 (by lia) h2 (by lia))
    case ipost =>
      clear hL h1 h2 h3 hS
      intro c st2 hJ
      obtain ⟨hS2, ⟨r, out, ia, ib, t, rfl, hr⟩ | ⟨out, ia, ib, t, rfl, hL, h1, h2, h3⟩⟩ := hJ.op
      · exact wpS_pure (jlo_some hS2 hr)
      · clear hJ
        dsimp only
        refine wpS_bind (wpS_lift (wpAny_rule ⟨rfl, ?_⟩))
        refine wpS_bind (wpS_mono (wpS_forRange (I := fun y c st2 => NLo κ a b st (x + 2) c st2)
          (Q := fun c st2 => JLo κ a b st (x + 2) c st2) ?gstep (fun c st2 hN => hN.2) (nlo hS2 hL h1 h2 h3)) ?gpost)
        case gpost =>
          intro c st2 hJ
          obtain ⟨hS2, ⟨r, out, ia, ib, t, rfl, hr⟩ | ⟨out, ia, ib, t, rfl, hL, h1, h2, h3⟩⟩ := hJ.op
          · exact wpS_pure (jlo_some hS2 hr)
          · exact wpS_bind (wpS_modify (wpS_pure (nlo (hS2.trans ⟨rfl, rfl, rfl, rfl⟩) hL h1 h2 (by lia))))
        case gstep =>
          clear hL h1 h2 h3 hS2
          intro y c st2 _ hy hN
          obtain ⟨out, ia, ib, ⟨g, ac, bc⟩, rfl, hS2, hL, h1, h2, h3⟩ := hN.op
          clear hN
          dsimp only
          have hia : ia < a.size := by lia
          generalize g - 1 = g1
          revert g g1
          refine wpS_pick fun g => ?_
          refine wpS_bind (wpS_setg hS2 (fun _ => ⟨rfl, rfl, rfl, rfl⟩) fun st3 hS3 => ?_)
          refine wpS_bind (wpS_elem h2 ?_)
          refine wpS_bind (gal_ok hO (hkS _ hS3) (gb _ _) ga (by lia) (by lia) sa fun k hk1 low high => ?_)
          rw [← KK_kv h2] at low high
          dsimp only
          have x1 := hL.chunkA (k := k) (by lia) fun i j q1 q2 q3 q4 => PyProof.Rows.KeyOrd.kle_trans (low i q1 q2) (sb ib j q3 q4)
          have hup : ∀ j, ia + k ≤ j → j < a.size → κ.kle (KK κ b ib) (KK κ a j) := fun j q1 q2 => high j q1 (by lia)
          have hks : ia + k ≤ a.size := by lia
          clear low high hk1
          generalize hO1 : out ++ a.extract ia (ia + k) = o1
          generalize hI1 : ia + k = i1
          have hp1 : out ++ a.extract ia (ia + k) = o1 ∧ ia + k = i1 := ⟨hO1, hI1⟩
          clear hO1 hI1
          revert o1 i1
          refine wpS_rest2 (fun o1 i1 hp _ q => ?_) (fun o1 i1 hp _ q => ?_) fun out1 ia1 q => ?_
          · obtain ⟨rfl, rfl⟩ := hp
            have hae : ia + k + 1 = a.size := by simpa using q
            exact wpS_pure (jlo_some hS3 (x1.last fun i j q1 q2 q3 q4 => hal i j (by lia) q2 q4))
          · obtain ⟨rfl, rfl⟩ := hp
            have hae2 : ia + k = a.size := by simpa using q
            exact wpS_pure (jlo_some hS3 (x1.done fun i j q1 q2 q3 q4 => by lia))
          obtain ⟨hia1, hp1, y1, hup1⟩ : ia1 + 1 < a.size ∧ x + 2 ≤ ia1 + ib ∧ Lo κ a b out1 ia1 ib ∧ ∀ j, ia1 ≤ j → j < a.size → κ.kle (KK κ b ib) (KK κ a j) := by
            rcases q with ⟨⟨rfl, rfl⟩, q1, q2⟩ | ⟨q1, rfl, rfl⟩
            · simp only [beq_iff_eq] at q1 q2
              exact ⟨by lia, by lia, x1, hup⟩
            · exact ⟨h1, h3, hL, fun j q2 => hup j (by lia)⟩
          clear q x1 hup hL h1 h3 hks
          have hi1' : ia1 < a.size := by lia
          refine wpS_bind (wpS_elem h2 ?_)
          have x2 := y1.pushB h2 hup1
          by_cases hbe : ib + 1 = b.size
          · refine wpS_pos (by simpa using hbe) ?_
            exact wpS_pure (jlo_some hS3 (x2.done fun i j _ _ q3 q4 => by lia))
          refine wpS_neg (by simpa using hbe) ?_
          refine wpS_bind (wpS_elem hi1' ?_)
          refine wpS_bind (gal_ok hO (hkS _ hS3) (ga _ _) gb (by lia) (by lia) sb fun k2 hk2 low high => ?_)
          rw [← KK_kv hi1'] at low high
          dsimp only
          have x3 := x2.chunkB (k := k2) (by lia) fun i j q1 q2 q3 q4 => PyProof.Rows.KeyOrd.kle_trans (low i q1 q2) (sa ia1 j q3 q4)
          have hup2 : ∀ j, ib + 1 + k2 ≤ j → j < b.size → κ.kle (KK κ a ia1) (KK κ b j) := fun j q1 q2 => high j q1 (by lia)
          have hks2 : ib + 1 + k2 ≤ b.size := by lia
          clear low high hk2
          generalize hO1 : out1.push b[ib] ++ b.extract (ib + 1) (ib + 1 + k2) = o2
          generalize hI1 : ib + 1 + k2 = i2
          have hp2 : out1.push b[ib] ++ b.extract (ib + 1) (ib + 1 + k2) = o2 ∧ ib + 1 + k2 = i2 := ⟨hO1, hI1⟩
          clear hO1 hI1
          revert o2 i2
          refine wpS_rest1 (fun o1 i1 hp _ q => ?_) fun out2 ib1 q => ?_
          · obtain ⟨rfl, rfl⟩ := hp
            have hbe2 : ib + 1 + k2 = b.size := by simpa using q
            exact wpS_pure (jlo_some hS3 (x3.done fun i j q1 q2 q3 q4 => by lia))
          obtain ⟨hib1, hp2, y3, hup3⟩ : ib1 < b.size ∧ x + 2 ≤ ia1 + ib1 ∧ Lo κ a b out2 ia1 ib1 ∧ ∀ j, ib1 ≤ j → j < b.size → κ.kle (KK κ a ia1) (KK κ b j) := by
            rcases q with ⟨⟨rfl, rfl⟩, q1⟩ | ⟨q1, rfl, rfl⟩
            · simp only [beq_iff_eq] at q1
              exact ⟨by lia, by lia, x3, hup2⟩
            · exact ⟨by lia, by lia, x2, fun j q2 => hup2 j (by lia)⟩
          clear q x3 hup2 x2 y1 hup1 hks2 hp1
          refine wpS_bind (wpS_elem hi1' ?_)
          have x4 := y3.pushA hi1' hup3
          by_cases hae3 : ia1 + 1 + 1 = a.size
          · refine wpS_pos (by simpa using hae3) ?_
            exact wpS_pure (jlo_some hS3 (x4.last fun i j q1 q2 q3 q4 => hal i j (by lia) q2 q4))
          refine wpS_neg (by simpa using hae3) ?_
          have hf1 : ia1 + 1 + 1 < a.size := by lia
          have hf2 : x + 2 ≤ ia1 + 1 + ib1 := by lia
          refine wpS_ite ?_ ?_
          · exact wpS_pure (jlo_none hS3 x4 hf1 hib1 hf2)
          · exact wpS_pure (nlo hS3 x4 hf1 hib1 hf2)
end
end
end Mine

namespace Mine
noncomputable section
open PySem PyProof.Rows
set_option maxRecDepth 100000
set_option linter.unusedVariables false
theorem mem_below {a : Array Keyed} {n : Nat} {x : Keyed} (h : x ∈ (a.toList.take n).reverse) : ∃ j, ∃ hj : j < a.size, j < n ∧ x = a[j] := by
  rw [List.mem_reverse] at h
  obtain ⟨j, hj, rfl⟩ := List.mem_iff_getElem.mp h
  simp only [List.length_take, Array.length_toList] at hj
  exact ⟨j, by lia, by lia, by simp⟩
theorem mem_cutr {a : Array Keyed} {i n : Nat} {x : Keyed} (h : x ∈ ((a.toList.take n).drop i).reverse) : ∃ j, ∃ hj : j < a.size, i ≤ j ∧ j < n ∧ x = a[j] := by
  rw [List.mem_reverse] at h
  obtain ⟨j, hj, rfl⟩ := List.mem_iff_getElem.mp h
  simp only [List.length_take, List.length_drop, Array.length_toList] at hj
  exact ⟨i + j, by lia, by lia, by lia, by simp⟩
theorem cut_two {a : Array Keyed} {i n : Nat} (h : i ≤ n) : ((a.toList.take n).drop i).reverse ++ (a.toList.take i).reverse = (a.toList.take n).reverse := by
  rw [← List.reverse_append]
  congr 1
  have e := List.take_append_drop i (a.toList.take n)
  rwa [List.take_take, Nat.min_eq_left h] at e
theorem extr (a : Array Keyed) (i n : Nat) : (a.extract i n).reverse.toList = ((a.toList.take n).drop i).reverse := by
  simp [List.drop_take]

section hi
variable {κ : PyProof.Rows.KeyKind} {a b : Array Keyed}
/-- a merge from above -/
structure Hi (κ : PyProof.Rows.KeyKind) (a b out : Array Keyed) (na nb : Nat) : Prop where
  ha : na ≤ a.size
  hb : nb ≤ b.size
  m : MI (fun x y => κ.kle y x) (kv κ) (a.toList ++ b.toList) out.toList (a.toList.take na).reverse (b.toList.take nb).reverse

theorem Hi.chunkA {out : Array Keyed} {na nb i : Nat} (x : Hi κ a b out na nb) (hi : i ≤ na) (h : ∀ p q, i ≤ p → p < na → q < nb → κ.kle (KK κ b q) (KK κ a p)) : Hi κ a b (out ++ (a.extract i na).reverse) i nb := by
  have hxa := x.ha
  have hxb := x.hb
  refine ⟨by lia, x.hb, ?_⟩
  rw [Array.toList_append, extr]
  refine MI.chunkA ?_ ?_
  · rw [cut_two hi]; exact x.m
  · intro p hp q hq
    obtain ⟨i, hi, h1, h2, rfl⟩ := mem_cutr hp
    obtain ⟨j, hj, h3, rfl⟩ := mem_below hq
    have := h i j h1 h2 h3
    rwa [KK_kv hi, KK_kv hj] at this
theorem Hi.chunkB {out : Array Keyed} {na nb i : Nat} (x : Hi κ a b out na nb) (hi : i ≤ nb) (h : ∀ p q, i ≤ p → p < nb → q < na → κ.kle (KK κ a q) (KK κ b p)) : Hi κ a b (out ++ (b.extract i nb).reverse) na i := by
  have hxa := x.ha
  have hxb := x.hb
  refine ⟨x.ha, by lia, ?_⟩
  rw [Array.toList_append, extr]
  refine MI.chunkB ?_ ?_
  · rw [cut_two hi]; exact x.m
  · intro p hp q hq
    obtain ⟨i, hi, h1, h2, rfl⟩ := mem_cutr hp
    obtain ⟨j, hj, h3, rfl⟩ := mem_below hq
    have := h i j h1 h2 h3
    rwa [KK_kv hi, KK_kv hj] at this
theorem push_extr {out a : Array Keyed} {i : Nat} (h : i < a.size) : out ++ (a.extract i (i + 1)).reverse = out.push a[i] := by
  apply Array.ext'
  rw [Array.toList_append, extr]
  simp [h, List.drop_take, List.take_one, List.head?_drop]
theorem Hi.pushA {out : Array Keyed} {na nb : Nat} (x : Hi κ a b out na nb) (h1 : 1 ≤ na) (hk : na - 1 < a.size) (h : ∀ q, q < nb → κ.kle (KK κ b q) (KK κ a (na - 1))) : Hi κ a b (out.push a[na - 1]) (na - 1) nb := by
  rw [← push_extr hk, show na - 1 + 1 = na by lia]
  exact x.chunkA (by lia) fun p q h1 h2 h3 => by
    have : p = na - 1 := by lia
    subst this; exact h q h3
theorem Hi.pushB {out : Array Keyed} {na nb : Nat} (x : Hi κ a b out na nb) (h1 : 1 ≤ nb) (hk : nb - 1 < b.size) (h : ∀ q, q < na → κ.kle (KK κ a q) (KK κ b (nb - 1))) : Hi κ a b (out.push b[nb - 1]) na (nb - 1) := by
  rw [← push_extr hk, show nb - 1 + 1 = nb by lia]
  exact x.chunkB (by lia) fun p q h1 h2 h3 => by
    have : p = nb - 1 := by lia
    subst this; exact h q h3
theorem rev_pw {l : List Keyed} (h : (l.reverse.map (kv κ)).Pairwise (fun x y => κ.kle y x)) : (l.map (kv κ)).Pairwise κ.kle := by
  rw [List.map_reverse, List.pairwise_reverse] at h; exact h
theorem ext0 (a : Array Keyed) (n : Nat) : (a.extract 0 n).toList = a.toList.take n := by simp
theorem Hi.done {out : Array Keyed} {na nb : Nat} (x : Hi κ a b out na nb) (h : ∀ i j, i < na → j < nb → κ.kle (KK κ a i) (KK κ b j)) : Mg κ a b (a.extract 0 na ++ b.extract 0 nb ++ out.reverse) := by
  have e : (a.extract 0 na ++ b.extract 0 nb ++ out.reverse).toList = a.toList.take na ++ b.toList.take nb ++ out.toList.reverse := by rw [Array.toList_append, Array.toList_append, ext0, ext0, Array.toList_reverse]
  have := x.m.swap.fin fun p hp q hq => by
    obtain ⟨i, hi, h1, rfl⟩ := mem_below hp
    obtain ⟨j, hj, h3, rfl⟩ := mem_below hq
    have := h j i h3 h1
    rwa [KK_kv hi, KK_kv hj] at this
  have er : (a.toList.take na ++ b.toList.take nb ++ out.toList.reverse).reverse = out.toList ++ (b.toList.take nb).reverse ++ (a.toList.take na).reverse := by simp
  unfold Mg
  rw [e]
  rw [← er] at this
  exact ⟨(List.reverse_perm _).symm.trans this.1, rev_pw this.2⟩
theorem Hi.first {out : Array Keyed} {na nb : Nat} (x : Hi κ a b out na nb) (h : ∀ i j, i < na → j < nb → κ.kle (KK κ b j) (KK κ a i)) : Mg κ a b (b.extract 0 nb ++ a.extract 0 na ++ out.reverse) := by
  have e : (b.extract 0 nb ++ a.extract 0 na ++ out.reverse).toList = b.toList.take nb ++ a.toList.take na ++ out.toList.reverse := by rw [Array.toList_append, Array.toList_append, ext0, ext0, Array.toList_reverse]
  have := x.m.fin fun p hp q hq => by
    obtain ⟨i, hi, h1, rfl⟩ := mem_below hp
    obtain ⟨j, hj, h3, rfl⟩ := mem_below hq
    have := h i j h1 h3
    rwa [KK_kv hi, KK_kv hj] at this
  have er : (b.toList.take nb ++ a.toList.take na ++ out.toList.reverse).reverse = out.toList ++ (a.toList.take na).reverse ++ (b.toList.take nb).reverse := by simp
  unfold Mg
  rw [e]
  rw [← er] at this
  exact ⟨(List.reverse_perm _).symm.trans this.1, rev_pw this.2⟩
end hi

section
variable {prog : Program} {w : World} {A : Around} {E : Value → Shared → Prop} {s : Shared} {κ : PyProof.Rows.KeyKind}

/-- where a merge from above stands: done with r, or on its way, p items taken -/
noncomputable def KHi (κ : PyProof.Rows.KeyKind) (a b : Array Keyed) (p : Nat) (ret : Option (Array Keyed)) (out : Array Keyed) (na nb : Nat) : Prop :=
  match ret with
  | some r => Mg κ a b r
  | none => Hi κ a b out na nb ∧ 1 ≤ na ∧ 2 ≤ nb ∧ p + na + nb ≤ a.size + b.size

/-- the same of a loop's whole state -/
noncomputable def JHi {τ : Type} (κ : PyProof.Rows.KeyKind) (a b : Array Keyed) (st : SortSt) (p : Nat) (c : Option (Array Keyed) × Nat × Nat × Array Keyed × τ) (st2 : SortSt) : Prop :=
  Sm st st2 ∧ KHi κ a b p c.1 c.2.2.2.1 c.2.1 c.2.2.1
/-- on its way -/
noncomputable def NHi {τ : Type} (κ : PyProof.Rows.KeyKind) (a b : Array Keyed) (st : SortSt) (p : Nat) (c : Option (Array Keyed) × Nat × Nat × Array Keyed × τ) (st2 : SortSt) : Prop := c.1 = none ∧ JHi κ a b st p c st2
section
variable {τ : Type} {a b out r : Array Keyed} {st st2 : SortSt} {p na nb : Nat} {t : τ} {c : Option (Array Keyed) × Nat × Nat × Array Keyed × τ}
theorem jhi_some (hS : Sm st st2) (h : Mg κ a b r) : JHi κ a b st p (some r, na, nb, out, t) st2 := ⟨hS, h⟩
theorem jhi_none (hS : Sm st st2) (h : Hi κ a b out na nb) (h1 : 1 ≤ na) (h2 : 2 ≤ nb) (h3 : p + na + nb ≤ a.size + b.size) : JHi κ a b st p (none, na, nb, out, t) st2 := ⟨hS, h, h1, h2, h3⟩
theorem nhi (hS : Sm st st2) (h : Hi κ a b out na nb) (h1 : 1 ≤ na) (h2 : 2 ≤ nb) (h3 : p + na + nb ≤ a.size + b.size) : NHi κ a b st p (none, na, nb, out, t) st2 := ⟨rfl, hS, h, h1, h2, h3⟩
theorem NHi.op (h : NHi κ a b st p c st2) : ∃ na nb out t, c = (none, na, nb, out, t) ∧ Sm st st2 ∧ Hi κ a b out na nb ∧ 1 ≤ na ∧ 2 ≤ nb ∧ p + na + nb ≤ a.size + b.size := by
  obtain ⟨ret, na, nb, out, t⟩ := c
  obtain ⟨e, hS, h⟩ := h
  have e : ret = none := e
  subst e
  obtain ⟨h, h1, h2, h3⟩ := h
  exact ⟨na, nb, out, t, rfl, hS, h, h1, h2, h3⟩
theorem JHi.op (h : JHi κ a b st p c st2) : Sm st st2 ∧ ((∃ r na nb out t, c = (some r, na, nb, out, t) ∧ Mg κ a b r) ∨ ∃ na nb out t, c = (none, na, nb, out, t) ∧ Hi κ a b out na nb ∧ 1 ≤ na ∧ 2 ≤ nb ∧ p + na + nb ≤ a.size + b.size) := by
  obtain ⟨ret, na, nb, out, t⟩ := c
  obtain ⟨hS, h⟩ := h
  cases ret with
  | some r => exact ⟨hS, .inl ⟨r, na, nb, out, t, rfl, h⟩⟩
  | none => exact ⟨hS, .inr ⟨na, nb, out, t, rfl, h⟩⟩
end

theorem mergeHi_ok (hO : κ.OneLt) {a b : Array Keyed} {st : SortSt} {Q : Array Keyed → SortSt → Prop} (hk : kindOf st = oneType')
    (ga : ∀ i, (h : i < a.size) → Gd κ a[i]) (gb : ∀ i, (h : i < b.size) → Gd κ b[i]) (ha : 1 ≤ a.size) (hb : 1 ≤ b.size)
    (sa : ∀ i j, i ≤ j → j < a.size → κ.kle (KK κ a i) (KK κ a j)) (sb : ∀ i j, i ≤ j → j < b.size → κ.kle (KK κ b i) (KK κ b j))
    (hf : ∀ j, j < a.size → κ.kle (KK κ b 0) (KK κ a j)) (hl : ∀ j, j < b.size → κ.kle (KK κ b j) (KK κ a (a.size - 1)))
    (h : ∀ out st', Sm st st' → Mg κ a b out → Q out st') : wpS (model prog w) A E s (mergeHiS a b) Q st := by
  have hbf : ∀ i j, i < 1 → j < a.size → κ.kle (KK κ b i) (KK κ a j) := fun i j h1 h2 => by
    have : i = 0 := by lia
    subst this; exact hf j h2
  have hA : MI (fun x y => κ.kle y x) (kv κ) (a.toList ++ b.toList) [] (a.toList.take a.size).reverse (b.toList.take b.size).reverse := by
    have pw : ∀ c : Array Keyed, (∀ i j, i ≤ j → j < c.size → κ.kle (KK κ c i) (KK κ c j)) → ((c.toList.take c.size).reverse.map (kv κ)).Pairwise (fun x y => κ.kle y x) := fun c sc => by
      rw [List.map_reverse, List.pairwise_reverse, List.take_of_length_le (by simp), List.pairwise_iff_getElem]
      intro i j hi hj hij
      have hj' : j < c.size := by simpa using hj
      have := sc i j (by lia) hj'
      rw [KK_kv (by lia), KK_kv hj'] at this
      simpa using this
    refine ⟨?_, .nil, pw a sa, pw b sb, fun _ q => (nomatch q), fun _ q => (nomatch q)⟩
    rw [List.nil_append, List.take_of_length_le (by simp), List.take_of_length_le (by simp)]
    exact (List.reverse_perm _).append (List.reverse_perm _)
  have ha1 : a.size - 1 < a.size := by lia
  have h0 : Hi κ a b #[a[a.size - 1]] (a.size - 1) b.size := Hi.pushA (out := #[]) (na := a.size) (nb := b.size) ⟨Nat.le_refl _, Nat.le_refl _, hA⟩ ha ha1 hl
  refine wpS_bind (wpS_lift (wpAny_rule ⟨rfl, ?_⟩))
  refine wpS_bind (wpS_elem ha1 ?_)
  dsimp only
  by_cases hna : a.size - 1 = 0
  · refine wpS_pos (by simpa using hna) ?_
    exact wpS_pure (h _ _ (Sm.refl _) (h0.done fun i j h1 _ => by lia))
  refine wpS_neg (by simpa using hna) ?_
  by_cases hnb : b.size = 1
  · refine wpS_pos (by simpa using hnb) ?_
    exact wpS_pure (h _ _ (Sm.refl _) (h0.first fun i j h1 h2 => hbf j i (by lia) (by lia)))
  refine wpS_neg (by simpa using hnb) ?_
  refine wpS_bind (wpS_get ?_)
  refine wpS_bind (wpS_mono (wpS_forRange (I := fun x c st' => NHi κ a b st (x + 1) c st')
    (Q := fun c st' => JHi κ a b st (a.size + b.size + 1) c st') ?step ?fin (nhi (Sm.refl _) h0 (by lia) (by lia) (by lia))) ?post)
  case fin =>
    intro c st' hN
    rw [show max 0 (a.size + b.size) = a.size + b.size by lia] at hN
    exact hN.2
  case post =>
    intro c st' hJ
    obtain ⟨hS, ⟨r, na, nb, out, g, rfl, hr⟩ | ⟨na, nb, out, g, rfl, hL, h1, h2, h3⟩⟩ := hJ.op
    · exact wpS_pure (h r st' hS hr)
    · lia
  case step =>
    intro x c st' _ hx hN
    obtain ⟨na, nb, out, g, rfl, hS, hL, h1, h2, h3⟩ := hN.op
    clear hN
    dsimp only
    have hkS : ∀ st2, Sm st st2 → kindOf st2 = oneType' := fun st2 q => q.1.trans hk
    refine wpS_bind (wpS_mono (wpS_forRange (I := fun y c st2 => NHi κ a b st (x + 1 + y) c st2)
      (Q := fun c st2 => JHi κ a b st (x + 2) c st2) ?istep ?ifin (nhi hS hL h1 h2 h3)) ?ipost)
    case ifin =>
      intro c st2 hN
      obtain ⟨na, nb, out, t, rfl, hS, hL, h1, h2, h3⟩ := hN.op
      exact jhi_none hS hL h1 h2 (by lia)
    case istep =>
      intro y c st2 _ hy hN
      obtain ⟨na, nb, out, ⟨ac, bc⟩, rfl, hS2, hL, h1, h2, h3⟩ := hN.op
      clear hN
      dsimp only
      have hxa := hL.ha
      have hxb := hL.hb
      have hia : na - 1 < a.size := by lia
      have hib : nb - 1 < b.size := by lia
      refine wpS_bind (wpS_elem hib (wpS_bind (wpS_elem hia ?_)))
      refine wpS_bind (wpS_lt2 hO (hkS _ hS2) (gb _ _) (ga _ _) ?_)
      dsimp only
      cases hw : κ.blt (kv κ b[nb - 1]) (kv κ a[na - 1]) with
      | true =>
        refine wpS_pos rfl ?_
        refine wpS_bind (wpS_elem hia ?_)
        have hle : ∀ j, j < nb → κ.kle (KK κ b j) (KK κ a (na - 1)) := fun j q1 => by
          refine PyProof.Rows.KeyOrd.kle_trans (sb j (nb - 1) (by lia) (by lia)) ?_
          rw [KK_kv hib, KK_kv hia]
          exact PyProof.Rows.KeyOrd.kle_of_klt hw
        have x1 := hL.pushA h1 hia hle
        by_cases hae : na - 1 = 0
        · refine wpS_pos (by simpa using hae) ?_
          exact wpS_pure (jhi_some hS2 (x1.done fun i j q3 q4 => by lia))
        · refine wpS_neg (by simpa using hae) ?_
          by_cases hge : ac + 1 ≥ g
          · refine wpS_pos hge ?_
            exact wpS_pure (jhi_none hS2 x1 (by lia) (h2) (by lia))
          · refine wpS_neg hge ?_
            exact wpS_pure (nhi hS2 x1 (by lia) (h2) (by lia))
      | false =>
        refine wpS_neg (by simp) ?_
        refine wpS_bind (wpS_elem hib ?_)
        have hle : ∀ j, j < na → κ.kle (KK κ a j) (KK κ b (nb - 1)) := fun j q1 => by
          refine PyProof.Rows.KeyOrd.kle_trans (sa j (na - 1) (by lia) (by lia)) ?_
          rw [KK_kv hib, KK_kv hia]
          exact hw
        have x1 := hL.pushB (by lia) hib hle
        by_cases hbe : nb - 1 = 1
        · refine wpS_pos (by simpa using hbe) ?_
          exact wpS_pure (jhi_some hS2 (x1.first fun i j q1 q2 => hbf j i (by lia) (by lia)))
        · refine wpS_neg (by simpa using hbe) ?_
          by_cases hge : bc + 1 ≥ g
          · refine wpS_pos hge ?_
            exact wpS_pure (jhi_none hS2 x1 (h1) (by lia) (by lia))
          · refine wpS_neg hge ?_
            exact wpS_pure (nhi hS2 x1 (h1) (by lia) (by lia))
    case ipost =>
      clear hL h1 h2 h3 hS
      intro c st2 hJ
      obtain ⟨hS2, ⟨r, na, nb, out, t, rfl, hr⟩ | ⟨na, nb, out, t, rfl, hL, h1, h2, h3⟩⟩ := hJ.op
      · exact wpS_pure (jhi_some hS2 hr)
      · clear hJ
        dsimp only
        refine wpS_bind (wpS_lift (wpAny_rule ⟨rfl, ?_⟩))
        refine wpS_bind (wpS_mono (wpS_forRange (I := fun y c st2 => NHi κ a b st (x + 2) c st2)
          (Q := fun c st2 => JHi κ a b st (x + 2) c st2) ?gstep (fun c st2 hN => hN.2) (nhi hS2 hL h1 h2 h3)) ?gpost)
        case gpost =>
          intro c st2 hJ
          obtain ⟨hS2, ⟨r, na, nb, out, t, rfl, hr⟩ | ⟨na, nb, out, t, rfl, hL, h1, h2, h3⟩⟩ := hJ.op
          · exact wpS_pure (jhi_some hS2 hr)
          · exact wpS_bind (wpS_modify (wpS_pure (nhi (hS2.trans ⟨rfl, rfl, rfl, rfl⟩) hL h1 h2 (by lia))))
        case gstep =>
          clear hL h1 h2 h3 hS2
          intro y c st2 _ hy hN
          obtain ⟨na, nb, out, ⟨g, ac, bc⟩, rfl, hS2, hL, h1, h2, h3⟩ := hN.op
          clear hN
          dsimp only
          have hxa := hL.ha
          have hxb := hL.hb
          have hib : nb - 1 < b.size := by lia
          generalize g - 1 = g1
          revert g g1
          refine wpS_pick fun g => ?_
          refine wpS_bind (wpS_setg hS2 (fun _ => ⟨rfl, rfl, rfl, rfl⟩) fun st3 hS3 => ?_)
          refine wpS_bind (wpS_elem hib ?_)
          refine wpS_bind (gal_ok hO (hkS _ hS3) (gb _ _) ga (by lia) (by lia) sa fun i1 hk1 low high => ?_)
          rw [← KK_kv hib] at low high
          simp only [Nat.zero_add] at low high
          dsimp only
          have x1 := hL.chunkA (i := i1) (by lia) fun p q q1 q2 q3 => PyProof.Rows.KeyOrd.kle_trans (sb q (nb - 1) (by lia) hib) (high p q1 q2)
          have hup : ∀ j, j < i1 → κ.kle (KK κ a j) (KK κ b (nb - 1)) := fun j q1 => low j (Nat.zero_le _) q1
          have hkk : ¬ na - i1 > 0 → i1 = na := by lia
          clear low high
          generalize na - i1 = kk at hkk ⊢
          generalize hO1 : out ++ (a.extract i1 na).reverse = o1
          generalize hI1 : i1 = j1
          have hp1 : out ++ (a.extract i1 na).reverse = o1 ∧ i1 = j1 := ⟨by rw [← hO1, hI1], hI1⟩
          clear hO1 hI1
          revert o1 j1
          refine wpS_rest1 (fun o1 j1 hp _ q => ?_) fun out1 i2 q => ?_
          · obtain ⟨rfl, rfl⟩ := hp
            have hae : i1 = 0 := by simpa using q
            exact wpS_pure (jhi_some hS3 (x1.done fun i j q1 q2 => by lia))
          obtain ⟨hn1, hp1, y1, hup1⟩ : 1 ≤ i2 ∧ x + 2 + i2 + nb ≤ a.size + b.size ∧ Hi κ a b out1 i2 nb ∧ ∀ j, j < i2 → κ.kle (KK κ a j) (KK κ b (nb - 1)) := by
            rcases q with ⟨⟨rfl, rfl⟩, q1⟩ | ⟨q1, rfl, rfl⟩
            · simp only [beq_iff_eq] at q1
              exact ⟨by lia, by lia, x1, hup⟩
            · rw [hkk q1] at hup
              exact ⟨h1, h3, hL, hup⟩
          clear q x1 hup hL h1 h3 hkk hk1
          have hi1' : i2 - 1 < a.size := by have := y1.ha; lia
          refine wpS_bind (wpS_elem hib ?_)
          have x2 := y1.pushB (by lia) hib hup1
          by_cases hbe : nb - 1 = 1
          · refine wpS_pos (by simpa using hbe) ?_
            exact wpS_pure (jhi_some hS3 (x2.first fun i j q1 q2 => hbf j i (by lia) (by lia)))
          refine wpS_neg (by simpa using hbe) ?_
          refine wpS_bind (wpS_elem hi1' ?_)
          refine wpS_bind (gal_ok hO (hkS _ hS3) (ga _ _) gb (by lia) (by lia) sb fun j1 hk2 low high => ?_)
          rw [← KK_kv hi1'] at low high
          simp only [Nat.zero_add] at low high
          dsimp only
          have x3 := x2.chunkB (i := j1) (by lia) fun p q q1 q2 q3 => PyProof.Rows.KeyOrd.kle_trans (sa q (i2 - 1) (by lia) hi1') (high p q1 q2)
          have hup2 : ∀ j, j < j1 → κ.kle (KK κ b j) (KK κ a (i2 - 1)) := fun j q1 => low j (Nat.zero_le _) q1
          have hkk : ¬ nb - 1 - j1 > 0 → j1 = nb - 1 := by lia
          clear low high
          generalize nb - 1 - j1 = kk2 at hkk ⊢
          generalize hO1 : out1.push b[nb - 1] ++ (b.extract j1 (nb - 1)).reverse = o1
          generalize hI1 : j1 = j2
          have hp2 : out1.push b[nb - 1] ++ (b.extract j1 (nb - 1)).reverse = o1 ∧ j1 = j2 := ⟨by rw [← hO1, hI1], hI1⟩
          clear hO1 hI1
          revert o1 j2
          refine wpS_rest2 (fun o1 j2 hp _ q => ?_) (fun o1 j2 hp _ q => ?_) fun out2 j2 q => ?_
          · obtain ⟨rfl, rfl⟩ := hp
            have hbe2 : j1 = 1 := by simpa using q
            exact wpS_pure (jhi_some hS3 (x3.first fun i j q1 q2 => hbf j i (by lia) (by have := x3.ha; lia)))
          · obtain ⟨rfl, rfl⟩ := hp
            have hbe3 : j1 = 0 := by simpa using q
            exact wpS_pure (jhi_some hS3 (x3.done fun i j q1 q2 => by lia))
          obtain ⟨hj2, hp2, y3, hup3⟩ : 2 ≤ j2 ∧ x + 2 + i2 + j2 ≤ a.size + b.size ∧ Hi κ a b out2 i2 j2 ∧ ∀ j, j < j2 → κ.kle (KK κ b j) (KK κ a (i2 - 1)) := by
            rcases q with ⟨⟨rfl, rfl⟩, q1, q2⟩ | ⟨q1, rfl, rfl⟩
            · simp only [beq_iff_eq] at q1 q2
              exact ⟨by lia, by lia, x3, hup2⟩
            · rw [hkk q1] at hup2
              exact ⟨by lia, by lia, x2, hup2⟩
          clear q x3 hup2 x2 y1 hup1 hkk hp1 hk2
          refine wpS_bind (wpS_elem hi1' ?_)
          have x4 := y3.pushA hn1 hi1' hup3
          by_cases hae3 : i2 - 1 = 0
          · refine wpS_pos (by simpa using hae3) ?_
            exact wpS_pure (jhi_some hS3 (x4.done fun i j q1 q2 => by lia))
          refine wpS_neg (by simpa using hae3) ?_
          have hf1 : 1 ≤ i2 - 1 := by lia
          have hf2 : x + 2 + (i2 - 1) + j2 ≤ a.size + b.size := by lia
          refine wpS_ite ?_ ?_
          · exact wpS_pure (jhi_none hS3 x4 hf1 hj2 hf2)
          · exact wpS_pure (nhi hS3 x4 hf1 hj2 hf2)
end
end
end Mine

namespace Mine
noncomputable section
open PySem PyProof.Rows
set_option maxRecDepth 100000
set_option linter.unusedVariables false
noncomputable def countRunS : Nat → Nat → StateT SortSt Sem (Option Nat) := sortPriv% PySem.Builtin.countRun

/-- only the places lo .. hi - 1 have turned, and only among themselves -/
structure Tch (lo hi : Nat) (st st' : SortSt) : Prop where
  kind : kindOf st' = kindOf st
  pend : pendingOf st' = pendingOf st
  fail : failedOf st' = failedOf st
  perm : (arrOf st').Perm (arrOf st)
  out : ∀ k, k < lo ∨ hi ≤ k → (arrOf st')[k]? = (arrOf st)[k]?
theorem Tch.refl (lo hi : Nat) (st : SortSt) : Tch lo hi st st := ⟨rfl, rfl, rfl, Array.Perm.refl _, fun _ _ => rfl⟩
theorem Tch.trans {lo hi : Nat} {a b c : SortSt} (x : Tch lo hi a b) (y : Tch lo hi b c) : Tch lo hi a c :=
  ⟨y.kind.trans x.kind, y.pend.trans x.pend, y.fail.trans x.fail, y.perm.trans x.perm, fun k h => (y.out k h).trans (x.out k h)⟩
theorem Tch.size {lo hi : Nat} {a b : SortSt} (x : Tch lo hi a b) : (arrOf b).size = (arrOf a).size := x.perm.size_eq

noncomputable def Srt (κ : PyProof.Rows.KeyKind) (a : Array Keyed) (lo hi : Nat) : Prop := ∀ i j, lo ≤ i → i ≤ j → j < hi → κ.kle (KK κ a i) (KK κ a j)
/-- every key is one, and no two are alike -/
structure Gds (κ : PyProof.Rows.KeyKind) (a : Array Keyed) : Prop where
  gd : ∀ i, (h : i < a.size) → Gd κ a[i]
  nd : (a.toList.map (kv κ)).Nodup
theorem Gds.perm {κ : PyProof.Rows.KeyKind} {a b : Array Keyed} (g : Gds κ a) (p : b.Perm a) : Gds κ b := by
  have hp := Array.perm_iff_toList_perm.mp p
  refine ⟨fun i h => ?_, ((hp.map _).nodup_iff).mpr g.nd⟩
  have hm : b[i] ∈ a.toList := hp.mem_iff.mp (by simp)
  obtain ⟨j, hj, e⟩ := List.mem_iff_getElem.mp hm
  rw [← e]
  exact g.gd j (by simpa using hj)
theorem Gds.inj {κ : PyProof.Rows.KeyKind} {a : Array Keyed} (g : Gds κ a) {i j : Nat} (hi : i < a.size) (hj : j < a.size) (e : KK κ a i = KK κ a j) : i = j := by
  rw [KK_kv hi, KK_kv hj] at e
  have nd := List.pairwise_iff_getElem.mp g.nd
  rcases Nat.lt_trichotomy i j with q | q | q
  · have := nd i j (by simpa using hi) (by simpa using hj) q
    rw [List.getElem_map, List.getElem_map] at this
    exact absurd e this
  · exact q
  · have := nd j i (by simpa using hj) (by simpa using hi) q
    rw [List.getElem_map, List.getElem_map] at this
    exact absurd e.symm this

section
variable {prog : Program} {w : World} {A : Around} {E : Value → Shared → Prop} {s : Shared} {κ : PyProof.Rows.KeyKind}

theorem ltAt_ok (hO : κ.OneLt) {st : SortSt} {i j : Nat} {Q : Option Bool → SortSt → Prop} (hk : kindOf st = oneType') (g : Gds κ (arrOf st)) (hi : i < (arrOf st).size) (hj : j < (arrOf st).size)
    (h : Q (some (κ.blt (KK κ (arrOf st) i) (KK κ (arrOf st) j))) st) : wpS (model prog w) A E s (ltAt' i j) Q st := by
  rw [ltAt'_eq]
  refine wpS_bind (wpS_get ?_)
  dsimp only
  refine wpS_bind (wpS_elem hi (wpS_bind (wpS_elem hj ?_)))
  refine wpS_lt2 hO hk (g.gd _ _) (g.gd _ _) ?_
  rw [KK_kv hi, KK_kv hj] at h
  exact h

/-- a run upwards -/
theorem asc_ok (hO : κ.OneLt) {st : SortSt} {f : Nat → Option (Option Nat) × Nat → StateT SortSt Sem (ForInStep (Option (Option Nat) × Nat))} {lo n nrem : Nat} {Q : Option (Option Nat) × Nat → SortSt → Prop}
    (hf : ∀ x m (Q' : ForInStep (Option (Option Nat) × Nat) → SortSt → Prop), m < nrem → (κ.blt (KK κ (arrOf st) (lo + m)) (KK κ (arrOf st) (lo + m - 1)) = true → Q' (.done (none, m)) st) →
      (κ.blt (KK κ (arrOf st) (lo + m)) (KK κ (arrOf st) (lo + m - 1)) = false → Q' (.yield (none, m + 1)) st) → wpS (model prog w) A E s (f x (none, m)) Q' st)
    (h1 : 1 ≤ n) (hn : n ≤ nrem) (hs : Srt κ (arrOf st) lo (lo + n))
    (h : ∀ m, n ≤ m → m ≤ nrem → Srt κ (arrOf st) lo (lo + m) → (m = nrem ∨ κ.blt (KK κ (arrOf st) (lo + m)) (KK κ (arrOf st) (lo + m - 1)) = true) → Q (none, m) st) :
    wpS (model prog w) A E s (forIn [n:nrem] ((none, n) : Option (Option Nat) × Nat) f) Q st := by
  refine wpS_forRange (I := fun x c st' => st' = st ∧ c = (none, x) ∧ Srt κ (arrOf st) lo (lo + x)) ?step ?fin ⟨rfl, rfl, hs⟩
  case fin =>
    rintro c st' ⟨rfl, rfl, h3⟩
    rw [show max n nrem = nrem by lia] at h3 ⊢
    exact h nrem hn (Nat.le_refl _) h3 (.inl rfl)
  case step =>
    rintro x c st' hx1 hx2 ⟨rfl, rfl, h3⟩
    refine hf x x _ hx2 (fun hb => h x hx1 (by lia) h3 (.inr hb)) fun hb => ⟨rfl, rfl, fun i j hi hij hj => ?_⟩
    by_cases hj2 : j < lo + x
    · exact h3 i j hi hij hj2
    · by_cases hij2 : i = j
      · subst hij2; exact PyProof.Rows.KeyOrd.kle_refl _
      · have : j = lo + x := by lia
        subst this
        exact PyProof.Rows.KeyOrd.kle_trans (h3 i (lo + x - 1) hi (by lia) (by lia)) hb

theorem countRun_ok (hO : κ.OneLt) {st : SortSt} {lo nrem : Nat} {Q : Option Nat → SortSt → Prop} (hk : kindOf st = oneType') (g : Gds κ (arrOf st)) (h1 : 1 ≤ nrem) (hn : lo + nrem ≤ (arrOf st).size)
    (h : ∀ m st', Tch lo (lo + nrem) st st' → 1 ≤ m → m ≤ nrem → Srt κ (arrOf st') lo (lo + m) → Q (some m) st') : wpS (model prog w) A E s (countRunS lo nrem) Q st := by
  refine wpS_bind (asc_ok hO (lo := lo) (fun x m Q' hm q1 q2 => ?hf) (Nat.le_refl 1) h1 (fun i j hi hij hj => ?h0) fun m hm1 hm2 hs hor => ?_)
  case h0 => obtain rfl : i = j := by lia
             exact PyProof.Rows.KeyOrd.kle_refl _
  case hf =>
    dsimp only
    refine wpS_bind (ltAt_ok hO hk g (by lia) (by lia) ?_)
    dsimp only
    cases hb : κ.blt (KK κ (arrOf st) (lo + m)) (KK κ (arrOf st) (lo + m - 1)) with
    | true => refine wpS_pos rfl ?_; exact wpS_pure (q1 hb)
    | false => refine wpS_neg (by simp) ?_; exact wpS_pure (q2 hb)
  dsimp only
  by_cases hme : m = nrem
  · refine wpS_pos (by simpa using hme) ?_
    exact wpS_pure (h m st (Tch.refl _ _ _) hm1 hm2 hs)
  refine wpS_neg (by simpa using hme) ?_
  have hlt := hor.resolve_left hme
  by_cases hm : m > 1
  · refine wpS_pos hm ?_
    refine wpS_bind (ltAt_ok hO hk g (by lia) (by lia) ?_)
    dsimp only
    cases hr : κ.blt (KK κ (arrOf st) lo) (KK κ (arrOf st) (lo + m - 1)) with
    | true => refine wpS_pos rfl ?_; exact wpS_pure (h m st (Tch.refl _ _ _) hm1 hm2 hs)
    | false =>
      have := g.inj (by lia) (by lia) (PyProof.Rows.KeyOrd.kle_antisymm (hs lo (lo + m - 1) (by lia) (by lia) (by lia)) hr)
      lia
  refine wpS_neg hm ?_
  obtain rfl : m = 1 := by lia
  refine wpS_bind (wpS_lift (wpAny_rule ⟨rfl, ?_⟩))
  refine wpS_bind (wpS_mono (wpS_forRange (I := fun x c st' => st' = st ∧ c = (none, x, 0) ∧ ∀ i j, lo ≤ i → i ≤ j → j < lo + x → κ.kle (KK κ (arrOf st) j) (KK κ (arrOf st) i))
    (Q := fun c st' => st' = st ∧ ∃ x, c = (none, x, 0) ∧ 2 ≤ x ∧ x ≤ nrem ∧ ∀ i j, lo ≤ i → i ≤ j → j < lo + x → κ.kle (KK κ (arrOf st) j) (KK κ (arrOf st) i)) ?step ?fin ⟨rfl, rfl, ?init⟩) ?post)
  case init =>
    intro i j hi hij hj
    by_cases q : i = j
    · subst q; exact PyProof.Rows.KeyOrd.kle_refl _
    · obtain rfl : i = lo := by lia
      obtain rfl : j = i + 1 := by lia
      exact PyProof.Rows.KeyOrd.kle_of_klt hlt
  case fin =>
    rintro c st' ⟨rfl, rfl, h3⟩
    refine ⟨rfl, _, rfl, by lia, by lia, h3⟩
  case step =>
    rintro x c st' hx1 hx2 ⟨rfl, rfl, h3⟩
    dsimp only
    refine wpS_bind (ltAt_ok hO hk g (by lia) (by lia) ?_)
    dsimp only
    cases hb : κ.blt (KK κ (arrOf st') (lo + x)) (KK κ (arrOf st') (lo + x - 1)) with
    | true =>
      refine wpS_pos rfl (wpS_neg (by lia) ?_)
      refine wpS_pure ⟨rfl, rfl, fun i j hi hij hj => ?_⟩
      by_cases hj2 : j < lo + x
      · exact h3 i j hi hij hj2
      · by_cases hij2 : i = j
        · subst hij2; exact PyProof.Rows.KeyOrd.kle_refl _
        · have : j = lo + x := by lia
          subst this
          exact PyProof.Rows.KeyOrd.kle_trans (PyProof.Rows.KeyOrd.kle_of_klt hb) (h3 i (lo + x - 1) hi (by lia) (by lia))
    | false =>
      refine wpS_neg (by simp) ?_
      refine wpS_bind (ltAt_ok hO hk g (by lia) (by lia) ?_)
      dsimp only
      cases hb2 : κ.blt (KK κ (arrOf st') (lo + x - 1)) (KK κ (arrOf st') (lo + x)) with
      | true => refine wpS_pos rfl ?_; exact wpS_pure ⟨rfl, x, rfl, by lia, by lia, h3⟩
      | false =>
        have := g.inj (i := lo + x - 1) (j := lo + x) (by lia) (by lia) (PyProof.Rows.KeyOrd.kle_antisymm hb hb2)
        lia
  case post =>
    rintro c st' ⟨rfl, x, rfl, hx1, hx2, h3⟩
    dsimp only
    refine wpS_neg (by lia) ?_
    refine wpS_bind (wpS_modify ?_)
    have hsz : lo + x ≤ (arrOf st').size := by lia
    have hT : Tch lo (lo + nrem) st' (setArr st' (mirror (arrOf st') lo (lo + x) ((lo + x - lo) / 2))) := ⟨rfl, rfl, rfl, mirror_perm _ _ _ _, fun k hk => by
      show (mirror (arrOf st') lo (lo + x) ((lo + x - lo) / 2))[k]? = _
      rw [getElem?_mirror_all hsz, if_neg (by lia)]⟩
    have hs2 : Srt κ (arrOf (setArr st' (mirror (arrOf st') lo (lo + x) ((lo + x - lo) / 2)))) lo (lo + x) := fun i j hi hij hj => by
      show κ.kle (KK κ (mirror (arrOf st') lo (lo + x) ((lo + x - lo) / 2)) i) (KK κ (mirror (arrOf st') lo (lo + x) ((lo + x - lo) / 2)) j)
      rw [KK_mirror hsz, KK_mirror hsz, if_pos (by lia), if_pos (by lia)]
      exact h3 _ _ (by lia) (by lia) (by lia)
    change wpS _ _ _ _ _ _ (setArr st' (mirror (arrOf st') lo (lo + x) ((lo + x - lo) / 2)))
    generalize setArr st' (mirror (arrOf st') lo (lo + x) ((lo + x - lo) / 2)) = st2 at *
    have hk2 := hT.kind.trans hk
    have g2 := g.perm hT.perm
    have hz2 := hT.size
    refine wpS_bind (asc_ok hO (lo := lo) (fun y m Q' hm q1 q2 => ?hf2) (by lia) hx2 hs2 fun m hm1 hm2 hs hor => ?_)
    case hf2 =>
      dsimp only
      refine wpS_bind (ltAt_ok hO hk2 g2 (by lia) (by lia) ?_)
      dsimp only
      cases hb : κ.blt (KK κ (arrOf st2) (lo + m)) (KK κ (arrOf st2) (lo + m - 1)) with
      | true => refine wpS_pos rfl ?_; exact wpS_pure (q1 hb)
      | false => refine wpS_neg (by simp) ?_; exact wpS_pure (q2 hb)
    dsimp only
    exact wpS_pure (h m st2 hT (by lia) hm2 hs)

theorem bubble_srt {xs : Array Keyed} {lo k l : Nat} (hks : lo + k < xs.size) (hl : l ≤ k) (hs : Srt κ xs lo (lo + k)) (a4 : ∀ i, i < l → κ.kle (KK κ xs (lo + i)) (KK κ xs (lo + k))) (a5 : ∀ i, l ≤ i → i < k → κ.kle (KK κ xs (lo + k)) (KK κ xs (lo + i))) :
    Srt κ (bubble xs (lo + k) (k - l)) lo (lo + (k + 1)) := by
  intro i j hi hij hj
  obtain ⟨i, rfl⟩ := Nat.exists_eq_add_of_le hi
  obtain ⟨j, rfl⟩ := Nat.exists_eq_add_of_le (Nat.le_trans hi hij)
  have hij := Nat.le_of_add_le_add_left hij
  have hj := Nat.lt_of_add_lt_add_left hj
  clear hi
  have e : ∀ i, KK κ (bubble xs (lo + k) (k - l)) (lo + i) = if i = l then KK κ xs (lo + k) else if l < i ∧ i ≤ k then KK κ xs (lo + (i - 1)) else KK κ xs (lo + i) := by
    clear a4 a5 hs hij hj
    intro i
    rw [KK_bubble hks (Nat.le_trans (Nat.sub_le ..) (Nat.le_add_left ..)), show lo + k - (k - l) = lo + l by lia]
    by_cases h1 : i = l
    · rw [if_pos h1, if_pos (by rw [h1])]
    · rw [if_neg h1, if_neg (fun q => h1 (Nat.add_left_cancel q))]
      by_cases h2 : l < i ∧ i ≤ k
      · rw [if_pos h2, if_pos ⟨Nat.add_lt_add_left h2.1 _, Nat.add_le_add_left h2.2 _⟩, show lo + i - 1 = lo + (i - 1) by lia]
      · rw [if_neg h2, if_neg (fun q => h2 ⟨Nat.lt_of_add_lt_add_left q.1, Nat.le_of_add_le_add_left q.2⟩)]
  have s : ∀ i j, i ≤ j → j < k → κ.kle (KK κ xs (lo + i)) (KK κ xs (lo + j)) := fun i j q1 q2 => hs _ _ (Nat.le_add_right ..) (Nat.add_le_add_left q1 _) (Nat.add_lt_add_left q2 _)
  rw [e, e]
  clear e hs hks
  by_cases i1 : i = l
  · rw [if_pos i1]
    by_cases j1 : j = l
    · rw [if_pos j1]; exact PyProof.Rows.KeyOrd.kle_refl _
    · rw [if_neg j1, if_pos (by lia)]
      exact a5 _ (by lia) (by lia)
  · rw [if_neg i1]
    by_cases i2 : l < i
    · rw [if_pos (by lia), if_neg (by lia), if_pos (by lia)]
      exact s _ _ (by lia) (by lia)
    · rw [if_neg (fun q => i2 q.1)]
      by_cases j1 : j = l
      · rw [if_pos j1]; exact a4 _ (by lia)
      · rw [if_neg j1]
        by_cases j2 : l < j
        · rw [if_pos (by lia)]; exact s _ _ (by lia) (by lia)
        · rw [if_neg (fun q => j2 q.1)]; exact s _ _ hij (by lia)

theorem binarySort_ok (hO : κ.OneLt) {st : SortSt} {lo n ok : Nat} {Q : Bool → SortSt → Prop} (hk : kindOf st = oneType') (g : Gds κ (arrOf st)) (h1 : 1 ≤ ok) (hok : ok ≤ n) (hn : lo + n ≤ (arrOf st).size) (hs : Srt κ (arrOf st) lo (lo + ok))
    (h : ∀ st', Tch lo (lo + n) st st' → Srt κ (arrOf st') lo (lo + n) → Q true st') : wpS (model prog w) A E s (binarySort' lo n ok) Q st := by
  rw [binarySort'_eq, show max ok 1 = ok by lia]
  refine wpS_bind (wpS_mono (wpS_forRange (I := fun k c st' => c = (none, ()) ∧ Tch lo (lo + n) st st' ∧ Srt κ (arrOf st') lo (lo + k))
    (Q := fun c st' => c = (none, ()) ∧ Tch lo (lo + n) st st' ∧ Srt κ (arrOf st') lo (lo + n)) ?step ?fin ⟨rfl, Tch.refl _ _ _, hs⟩) ?post)
  case post =>
    rintro c st' ⟨rfl, hT, hs⟩
    exact wpS_pure (h st' hT hs)
  case fin =>
    rintro c st' ⟨rfl, hT, hs⟩
    rw [show max ok n = n by lia] at hs
    exact ⟨rfl, hT, hs⟩
  case step =>
    rintro k c st' hk1 hk2 ⟨rfl, hT, hs⟩
    have hkk := hT.kind.trans hk
    have g2 := g.perm hT.perm
    have hz := hT.size
    refine wpS_bind (wpS_mono (wpS_forRange (I := fun x c st'' => st'' = st' ∧ ∃ l r, c = (none, l, r) ∧ l ≤ r ∧ r ≤ k ∧ r - l ≤ k - x ∧
        (∀ i, i < l → κ.kle (KK κ (arrOf st') (lo + i)) (KK κ (arrOf st') (lo + k))) ∧ (∀ i, r ≤ i → i < k → κ.kle (KK κ (arrOf st') (lo + k)) (KK κ (arrOf st') (lo + i))))
      (Q := fun c st'' => st'' = st' ∧ ∃ l r, c = (none, l, r) ∧ l ≤ k ∧
        (∀ i, i < l → κ.kle (KK κ (arrOf st') (lo + i)) (KK κ (arrOf st') (lo + k))) ∧ (∀ i, l ≤ i → i < k → κ.kle (KK κ (arrOf st') (lo + k)) (KK κ (arrOf st') (lo + i)))) ?istep ?ifin
      ⟨rfl, 0, k, rfl, by lia, by lia, by lia, fun i hi => by lia, fun i h1 h2 => by lia⟩) ?ipost)
    case ifin =>
      rintro c st'' ⟨rfl, l, r, rfl, a1, a2, a3, a4, a5⟩
      obtain rfl : l = r := by lia
      exact ⟨rfl, l, l, rfl, a2, a4, a5⟩
    case istep =>
      rintro x c st'' _ hx ⟨rfl, l, r, rfl, a1, a2, a3, a4, a5⟩
      dsimp only
      by_cases hge : l ≥ r
      · refine wpS_pos hge ?_
        obtain rfl : l = r := by lia
        exact wpS_pure ⟨rfl, l, l, rfl, a2, a4, a5⟩
      · refine wpS_neg hge ?_
        refine wpS_bind (ltAt_ok hO hkk g2 (by lia) (by lia) ?_)
        dsimp only
        cases hb : κ.blt (KK κ (arrOf st'') (lo + k)) (KK κ (arrOf st'') (lo + (l + r) / 2)) with
        | true =>
          refine wpS_pos rfl ?_
          exact wpS_pure ⟨rfl, l, (l + r) / 2, rfl, by lia, by lia, by lia, a4, fun i q1 q2 => PyProof.Rows.KeyOrd.kle_trans (PyProof.Rows.KeyOrd.kle_of_klt hb) (hs _ _ (by lia) (by lia) (by lia))⟩
        | false =>
          refine wpS_neg (by simp) ?_
          exact wpS_pure ⟨rfl, (l + r) / 2 + 1, r, rfl, by lia, by lia, by lia, fun i q1 => PyProof.Rows.KeyOrd.kle_trans (hs _ (lo + (l + r) / 2) (by lia) (by lia) (by lia)) hb, a5⟩
    case ipost =>
      rintro c st'' ⟨rfl, l, r, rfl, a2, a4, a5⟩
      dsimp only
      rw [moveDown'_eq, show lo + k - (lo + l) = k - l by lia]
      have hks : lo + k < (arrOf st'').size := by lia
      refine wpS_bind (wpS_modify (wpS_pure ⟨rfl, hT.trans ⟨rfl, rfl, rfl, bubble_perm _ _ _, fun q hq => ?_⟩, bubble_srt hks a2 hs a4 a5⟩))
      show (bubble (arrOf st'') (lo + k) (k - l))[q]? = _
      clear a4 a5 hs hz h g g2 hT
      rw [getElem?_bubble hks _ (by lia), if_neg (by lia), if_neg (by lia)]
end
end
end Mine

namespace Mine
noncomputable section
open PySem PyProof.Rows
set_option maxRecDepth 100000
set_option linter.unusedVariables false
section
variable {α : Type}
/-- m stands at place sa -/
noncomputable def put (arr : Array α) (sa : Nat) (m : List α) : Array α := List.foldl (fun a x => a.setIfInBounds (sa + x.2) x.1) arr m.zipIdx
theorem put_at : ∀ (m : List α) (sa k : Nat) (arr : Array α), sa + k + m.length ≤ arr.size → ∀ i : Nat,
    (List.foldl (fun a x => a.setIfInBounds (sa + x.2) x.1) arr (m.zipIdx k))[i]? = if sa + k ≤ i ∧ i < sa + k + m.length then m[i - (sa + k)]? else arr[i]?
  | [], sa, k, arr, h, i => by rw [if_neg (by simp only [List.length_nil]; lia)]; rfl
  | x :: m, sa, k, arr, h, i => by
    simp only [List.length_cons] at h ⊢
    have ih := put_at m sa (k + 1) (arr.setIfInBounds (sa + k) x) (by rw [Array.size_setIfInBounds]; lia) i
    rw [List.zipIdx_cons, List.foldl_cons, ih]
    by_cases c : sa + k = i
    · subst c
      rw [if_neg (by lia), if_pos (by lia), Nat.sub_self, Array.getElem?_setIfInBounds_self_of_lt (by lia)]; rfl
    · rw [Array.getElem?_setIfInBounds_ne c]
      by_cases c2 : sa + (k + 1) ≤ i ∧ i < sa + (k + 1) + m.length
      · rw [if_pos c2, if_pos (by lia), show i - (sa + k) = (i - (sa + (k + 1))) + 1 by lia, List.getElem?_cons_succ]
      · rw [if_neg c2, if_neg (by lia)]
theorem put_get {arr : Array α} {sa : Nat} {m : List α} (h : sa + m.length ≤ arr.size) (i : Nat) : (put arr sa m)[i]? = if sa ≤ i ∧ i < sa + m.length then m[i - sa]? else arr[i]? := by
  have := put_at m sa 0 arr (by lia) i
  rwa [Nat.add_zero] at this
theorem put_list {arr : Array α} {sa : Nat} {m : List α} (h : sa + m.length ≤ arr.size) : (put arr sa m).toList = arr.toList.take sa ++ (m ++ arr.toList.drop (sa + m.length)) := by
  apply List.ext_getElem?
  intro i
  rw [Array.getElem?_toList, put_get h]
  have hl : (arr.toList.take sa).length = sa := by rw [List.length_take, Array.length_toList]; lia
  by_cases c1 : i < sa
  · rw [if_neg (by lia), List.getElem?_append_left (by lia), List.getElem?_take_of_lt c1, Array.getElem?_toList]
  · rw [List.getElem?_append_right (by lia), hl]
    by_cases c2 : i < sa + m.length
    · rw [if_pos (by lia), List.getElem?_append_left (by lia)]
    · rw [if_neg (by lia), List.getElem?_append_right (by lia), List.getElem?_drop, Array.getElem?_toList]
      congr 1; lia
theorem cut_list {arr : Array α} {a b c : Nat} (h1 : a ≤ b) (h2 : b ≤ c) (h3 : c ≤ arr.size) : arr.toList.take a ++ ((arr.extract a b).toList ++ (arr.extract b c).toList ++ arr.toList.drop c) = arr.toList := by
  have e : ∀ i j, i ≤ j → (arr.extract i j).toList ++ arr.toList.drop j = arr.toList.drop i := fun i j hij => by
    have : (arr.extract i j).toList = (arr.toList.drop i).take (j - i) := by simp
    rw [this]
    have e2 := List.take_append_drop (j - i) (arr.toList.drop i)
    rwa [List.drop_drop, show i + (j - i) = j by lia] at e2
  rw [List.append_assoc, e b c h2, e a b h1, List.take_append_drop]
end

section
variable {prog : Program} {w : World} {A : Around} {E : Value → Shared → Prop} {s : Shared} {κ : PyProof.Rows.KeyKind}

theorem wpS_set {σ : Type} {st st' : σ} {Q : PUnit → σ → Prop} {M : Model} (h : Q ⟨⟩ st') : wpS M A E s (set st' : StateT σ Sem PUnit) Q st := by
  unfold wpS; rw [StateT.run_set]; exact wpAny_pure ⟨rfl, h⟩

theorem srt_list {arr : Array Keyed} {lo hi : Nat} (hh : hi ≤ arr.size) (h : Srt κ arr lo hi) : (((arr.toList.take hi).drop lo).map (kv κ)).Pairwise κ.kle := by
  rw [List.pairwise_iff_getElem]
  intro i j hi' hj' hij
  simp only [List.length_map, List.length_drop, List.length_take, Array.length_toList] at hi' hj'
  have hj2 : lo + j < hi := by lia
  have := h (lo + i) (lo + j) (Nat.le_add_right ..) (Nat.add_le_add_left (Nat.le_of_lt hij) _) hj2
  rw [KK_kv (Nat.lt_of_lt_of_le (Nat.lt_trans (Nat.add_lt_add_left hij _) hj2) hh), KK_kv (Nat.lt_of_lt_of_le hj2 hh)] at this
  simpa using this
theorem list_srt {arr : Array Keyed} (h : (arr.toList.map (kv κ)).Pairwise κ.kle) : Srt κ arr 0 arr.size := by
  intro i j _ hij hj
  rcases Nat.lt_or_eq_of_le hij with q | q
  · have := List.pairwise_iff_getElem.mp h i j (by simpa using Nat.lt_trans q hj) (by simpa using hj) q
    rw [KK_kv (Nat.lt_trans q hj), KK_kv hj]
    simpa using this
  · subst q; exact PyProof.Rows.KeyOrd.kle_refl _
theorem ext_take (arr : Array Keyed) (a b : Nat) : (arr.extract a b).toList = (arr.toList.take b).drop a := by simp [List.drop_take]

/-- a merged part between what stands below it and what stands above it -/
theorem merged_ok {arr merged : Array Keyed} {k n1 nb n2 : Nat} (hk1 : k ≤ n1) (hnb : nb ≤ n2) (hn : n1 + n2 = arr.size) (s1 : Srt κ arr 0 n1) (s2 : Srt κ arr n1 (n1 + n2)) (low : ∀ i, i < k → κ.kle (KK κ arr i) (KK κ arr n1))
    (high : ∀ i, n1 + nb ≤ i → i < n1 + n2 → κ.kle (KK κ arr (n1 - 1)) (KK κ arr i)) (hM : Mg κ (arr.extract k n1) (arr.extract n1 (n1 + nb)) merged) : (put arr k merged.toList).Perm arr ∧ Srt κ (put arr k merged.toList) 0 (n1 + n2) := by
  have hc : n1 + nb ≤ arr.size := hn ▸ Nat.add_le_add_left hnb _
  have hml : k + merged.toList.length = n1 + nb := by
    rw [hM.1.length_eq]; simp only [List.length_append, Array.length_toList, Array.size_extract]; lia
  have hlist := put_list (show k + merged.toList.length ≤ arr.size from hml ▸ hc)
  rw [hml] at hlist
  have hcut := cut_list (arr := arr) hk1 (Nat.le_add_right n1 nb) hc
  have hperm : (put arr k merged.toList).Perm arr := by
    rw [Array.perm_iff_toList_perm, hlist]
    conv => rhs; rw [← hcut]
    exact List.Perm.append_left _ (hM.1.append_right _)
  refine ⟨hperm, ?_⟩
  rw [hn, ← hperm.size_eq]
  refine list_srt ?_
  have hp1 : ((arr.toList.take k ++ (arr.extract k n1).toList).map (kv κ)).Pairwise κ.kle := by
    have := srt_list (hn ▸ Nat.le_add_right n1 n2) s1
    rw [List.drop_zero, ← List.take_append_drop k (arr.toList.take n1), List.take_take, Nat.min_eq_left hk1, ← ext_take] at this
    exact this
  have hp2 : (((arr.extract n1 (n1 + nb)).toList ++ arr.toList.drop (n1 + nb)).map (kv κ)).Pairwise κ.kle := by
    have := srt_list (Nat.le_of_eq hn) s2
    have e : (arr.toList.take (n1 + n2)).drop n1 = (arr.extract n1 (n1 + nb)).toList ++ arr.toList.drop (n1 + nb) := by
      rw [hn, List.take_of_length_le (by simp), ext_take, List.drop_take, Nat.add_sub_cancel_left, ← List.drop_drop, List.take_append_drop]
    rwa [e] at this
  rw [List.map_append, List.pairwise_append] at hp1 hp2
  rw [hlist, List.map_append, List.map_append, List.pairwise_append, List.pairwise_append]
  have memY : ∀ x ∈ (arr.extract n1 (n1 + nb)).toList, ∃ j, ∃ h : j < arr.size, n1 ≤ j ∧ x = arr[j] := fun x hx => by
    rw [ext_take] at hx
    obtain ⟨j, hj, a, rfl⟩ := mem_rest (show x ∈ arr.toList.drop n1 from ((List.take_sublist _ _).drop n1).subset hx)
    exact ⟨j, hj, a, rfl⟩
  have below : ∀ x ∈ arr.toList.take k, ∀ j, (hj : j < arr.size) → n1 ≤ j → κ.kle (kv κ x) (kv κ arr[j]) := fun x hx j hj a => by
    obtain ⟨i, hi, rfl⟩ := List.mem_iff_getElem.mp hx
    simp only [List.length_take, Array.length_toList] at hi
    have hik : i < k := Nat.lt_of_lt_of_le hi (Nat.min_le_left ..)
    have := PyProof.Rows.KeyOrd.kle_trans (low i hik) (s2 n1 j (Nat.le_refl _) a (hn ▸ hj))
    rw [KK_kv (Nat.lt_of_lt_of_le hi (Nat.min_le_right ..)), KK_kv hj] at this
    simpa using this
  have above : ∀ x ∈ (arr.extract k n1).toList, ∀ y ∈ arr.toList.drop (n1 + nb), κ.kle (kv κ x) (kv κ y) := fun x hx y hy => by
    rw [ext_take] at hx
    obtain ⟨i, hi, rfl⟩ := List.mem_iff_getElem.mp (List.drop_sublist _ _ |>.subset hx)
    obtain ⟨j, hj, a, rfl⟩ := mem_rest hy
    simp only [List.length_take, Array.length_toList] at hi
    have hi1 : i < n1 := Nat.lt_of_lt_of_le hi (Nat.min_le_left ..)
    have := PyProof.Rows.KeyOrd.kle_trans (s1 i (n1 - 1) (Nat.zero_le _) (Nat.le_sub_one_of_lt hi1) (Nat.sub_one_lt_of_lt hi1)) (high j a (hn ▸ hj))
    rw [KK_kv (Nat.lt_of_lt_of_le hi (Nat.min_le_right ..)), KK_kv hj] at this
    simpa using this
  refine ⟨hp1.1, ⟨hM.2, hp2.2.1, ?_⟩, ?_⟩
  · intro x hx y hy
    obtain ⟨x', hx', rfl⟩ := List.mem_map.mp hx
    obtain ⟨y', hy', rfl⟩ := List.mem_map.mp hy
    rcases List.mem_append.mp (hM.1.mem_iff.mp hx') with hx2 | hx2
    · exact above x' hx2 y' hy'
    · exact hp2.2.2 _ (List.mem_map.mpr ⟨x', hx2, rfl⟩) _ hy
  · intro x hx y hy
    obtain ⟨x', hx', rfl⟩ := List.mem_map.mp hx
    rcases List.mem_append.mp hy with hy | hy
    · obtain ⟨y', hy', rfl⟩ := List.mem_map.mp hy
      rcases List.mem_append.mp (hM.1.mem_iff.mp hy') with hy2 | hy2
      · exact hp1.2.2 _ hx _ (List.mem_map.mpr ⟨y', hy2, rfl⟩)
      · obtain ⟨j, hj, a, rfl⟩ := memY y' hy2
        exact below x' hx' j hj a
    · obtain ⟨y', hy', rfl⟩ := List.mem_map.mp hy
      obtain ⟨j, hj, a, rfl⟩ := mem_rest hy'
      exact below x' hx' j hj (Nat.le_trans (Nat.le_add_right ..) a)

theorem KK_ext {arr : Array Keyed} {x y i : Nat} (hi : i < (arr.extract x y).size) : KK κ (arr.extract x y) i = KK κ arr (x + i) := by
  rw [Array.size_extract] at hi
  exact KK_congr (by rw [Array.getElem?_extract, if_pos hi])
theorem ext_lt {arr : Array Keyed} {x y i : Nat} (hi : i < (arr.extract x y).size) : x + i < y := by
  rw [Array.size_extract] at hi
  lia
theorem ext_srt {arr : Array Keyed} {lo hi x y : Nat} (h : Srt κ arr lo hi) (hx : lo ≤ x) (hy : y ≤ hi) : ∀ i j, i ≤ j → j < (arr.extract x y).size → κ.kle (KK κ (arr.extract x y) i) (KK κ (arr.extract x y) j) := fun i j hij hj => by
  rw [KK_ext hj, KK_ext (Nat.lt_of_le_of_lt hij hj)]
  exact h _ _ (Nat.le_trans hx (Nat.le_add_right ..)) (Nat.add_le_add_left hij _) (Nat.lt_of_lt_of_le (ext_lt hj) hy)

theorem mergeAt_ok (hO : κ.OneLt) {st : SortSt} {n1 n2 p q : Nat} {Q : Bool → SortSt → Prop} (hk : kindOf st = oneType') (hfl : failedOf st = none) (g : Gds κ (arrOf st)) (hp : pendingOf st = #[(0, n1, p), (n1, n2, q)])
    (h1 : 1 ≤ n1) (h2 : 1 ≤ n2) (hn : n1 + n2 = (arrOf st).size) (s1 : Srt κ (arrOf st) 0 n1) (s2 : Srt κ (arrOf st) n1 (n1 + n2))
    (h : ∀ st', kindOf st' = oneType' → failedOf st' = none → (arrOf st').Perm (arrOf st) → pendingOf st' = #[(0, n1 + n2, p)] → Srt κ (arrOf st') 0 (n1 + n2) → Q true st') :
    wpS (model prog w) A E s (mergeAt' 0) Q st := by
  refine wpS_bind (wpS_get ?_)
  have e0 : (pendingOf st)[0]? = some (0, n1, p) := by rw [hp]; rfl
  have e1 : (pendingOf st)[0 + 1]? = some (n1, n2, q) := by rw [hp]; rfl
  dsimp only
  rw [e0, e1]
  dsimp only
  have key : ∀ k nb merged st2, k ≤ n1 → nb ≤ n2 → (∀ i, i < k → κ.kle (KK κ (arrOf st) i) (KK κ (arrOf st) n1)) → (∀ i, n1 + nb ≤ i → i < n1 + n2 → κ.kle (KK κ (arrOf st) (n1 - 1)) (KK κ (arrOf st) i)) →
      kindOf st2 = oneType' → failedOf st2 = none → arrOf st2 = put (arrOf st) (0 + k) merged.toList → pendingOf st2 = #[(0, n1 + n2, p)] →
      Mg κ ((arrOf st).extract (0 + k) n1) ((arrOf st).extract n1 (n1 + nb)) merged → Q true st2 := by
    intro k nb merged st2 hk1 hnb low high hk2 hf2 ha2 hp2 hM
    rw [Nat.zero_add] at ha2 hM
    have := merged_ok hk1 hnb hn s1 s2 low high hM
    rw [← ha2] at this
    exact h st2 hk2 hf2 this.1 hp2 this.2
  refine wpS_bind (wpS_set ?_)
  have hp2 : ((pendingOf st).setIfInBounds 0 (0, n1 + n2, p)).eraseIdxIfInBounds (0 + 1) = #[(0, n1 + n2, p)] := by
    rw [hp]; apply Array.ext'; simp [Array.eraseIdxIfInBounds, Array.setIfInBounds]
  change wpS _ _ _ _ _ _ (setPending st (((pendingOf st).setIfInBounds 0 (0, n1 + n2, p)).eraseIdxIfInBounds (0 + 1)))
  rw [hp2]
  have hin : n1 < (arrOf st).size := by lia
  have hin' : 0 + 0 + n1 - 1 < (arrOf st).size := by lia
  refine wpS_bind (wpS_elem hin ?_)
  refine wpS_bind (galr_ok hO hk (g.gd _ _) g.gd (by show 0 + n1 ≤ (arrOf st).size; lia) (by lia) (fun i j q1 q2 q3 => s1 i j q1 q2 (by lia)) fun k hk1 low high => ?_)
  rw [← KK_kv hin] at low high
  dsimp only
  have low' : ∀ i, i < k → κ.kle (KK κ (arrOf st) i) (KK κ (arrOf st) n1) := fun i q1 => low i (Nat.zero_le _) (by lia)
  by_cases hk0 : n1 - k = 0
  · refine wpS_pos (by simpa using hk0) ?_
    refine wpS_pure (h _ hk hfl (Array.Perm.refl _) rfl fun i j _ hij hj => ?_)
    show κ.kle (KK κ (arrOf st) i) (KK κ (arrOf st) j)
    by_cases c : n1 ≤ i
    · exact s2 _ _ c hij hj
    · by_cases c2 : n1 ≤ j
      · exact PyProof.Rows.KeyOrd.kle_trans (low' i (by lia)) (s2 n1 j (by lia) c2 hj)
      · exact s1 _ _ (by lia) hij (by lia)
  refine wpS_neg (by simpa using hk0) ?_
  have e3 : 0 + k + (n1 - k) - 1 = n1 - 1 := by lia
  rw [e3]
  have hin2 : n1 - 1 < (arrOf st).size := by lia
  refine wpS_bind (wpS_elem hin2 ?_)
  refine wpS_bind (galr_ok hO hk (g.gd _ _) g.gd (by show n1 + n2 ≤ (arrOf st).size; lia) (by lia) s2 fun nb hnb low2 high2 => ?_)
  rw [← KK_kv hin2] at low2 high2
  dsimp only
  by_cases hnb0 : nb = 0
  · refine wpS_pos (by simpa using hnb0) ?_
    subst hnb0
    refine wpS_pure (h _ hk hfl (Array.Perm.refl _) rfl fun i j _ hij hj => ?_)
    show κ.kle (KK κ (arrOf st) i) (KK κ (arrOf st) j)
    by_cases c : n1 ≤ i
    · exact s2 _ _ c hij hj
    · by_cases c2 : n1 ≤ j
      · exact PyProof.Rows.KeyOrd.kle_trans (s1 i (n1 - 1) (by lia) (by lia) (by lia)) (high2 j (by lia) hj)
      · exact s1 _ _ (by lia) hij (by lia)
  refine wpS_neg (by simpa using hnb0) ?_
  have szX : ((arrOf st).extract (0 + k) n1).size = n1 - k := by rw [Array.size_extract, Nat.zero_add, Nat.min_eq_left (Nat.le_of_lt hin)]
  have szY : ((arrOf st).extract n1 (n1 + nb)).size = nb := by rw [Array.size_extract, Nat.min_eq_left (hn ▸ Nat.add_le_add_left hnb _), Nat.add_sub_cancel_left]
  have gX : ∀ x y i, (hi : i < ((arrOf st).extract x y).size) → Gd κ ((arrOf st).extract x y)[i] := fun x y i hi => by
    rw [Array.getElem_extract]; exact g.gd _ _
  have X1 := ext_srt (x := 0 + k) (y := n1) s1 (Nat.zero_le _) (Nat.le_refl _)
  have Y1 := ext_srt (x := n1) (y := n1 + nb) s2 (Nat.le_refl _) (Nat.add_le_add_left hnb _)
  have hX1 : 1 ≤ ((arrOf st).extract (0 + k) n1).size := by rw [szX]; exact Nat.one_le_iff_ne_zero.mpr hk0
  have hY1 : 1 ≤ ((arrOf st).extract n1 (n1 + nb)).size := by rw [szY]; exact Nat.one_le_iff_ne_zero.mpr hnb0
  have F1 : ∀ j, j < ((arrOf st).extract (0 + k) n1).size → κ.kle (KK κ ((arrOf st).extract n1 (n1 + nb)) 0) (KK κ ((arrOf st).extract (0 + k) n1) j) := fun j q => by
    rw [KK_ext hY1, KK_ext q]
    have := ext_lt q
    exact high _ (by lia) (by lia)
  have L1 : ∀ j, j < ((arrOf st).extract n1 (n1 + nb)).size → κ.kle (KK κ ((arrOf st).extract n1 (n1 + nb)) j) (KK κ ((arrOf st).extract (0 + k) n1) (((arrOf st).extract (0 + k) n1).size - 1)) := fun j q => by
    rw [KK_ext q, KK_ext (Nat.sub_one_lt_of_lt hX1), szX, show 0 + k + (n1 - k - 1) = n1 - 1 by lia]
    exact low2 _ (Nat.le_add_right ..) (ext_lt q)
  have fin : ∀ merged st2, Sm (setPending st #[(0, n1 + n2, p)]) st2 → Mg κ ((arrOf st).extract (0 + k) n1) ((arrOf st).extract n1 (n1 + nb)) merged → Q true (setArr st2 (put (arrOf st2) (0 + k) merged.toList)) :=
    fun merged st2 hS hM => key k nb merged _ (by lia) hnb low' (fun i q1 q2 => high2 i q1 (by lia)) (hS.1.trans hk) (hS.2.2.2.trans hfl) (by show put (arrOf st2) _ _ = _; rw [hS.2.1]) hS.2.2.1 hM
  by_cases hle : n1 - k ≤ nb
  · refine wpS_pos hle ?_
    refine wpS_bind (mergeLo_ok hO hk (gX _ _) (gX _ _) hX1 hY1 X1 Y1 F1 L1 fun merged st2 hS hM => ?_)
    refine wpS_bind (wpS_modify (wpS_bind (wpS_get (wpS_pure ?_))))
    have : (failedOf st2).isNone = true := by rw [hS.2.2.2]; show (failedOf st).isNone = true; rw [hfl]; rfl
    rw [show (failedOf (setArr st2 (put (arrOf st2) (0 + k) merged.toList))).isNone = true from this]
    exact fin merged st2 hS hM
  · refine wpS_neg hle ?_
    refine wpS_bind (mergeHi_ok hO hk (gX _ _) (gX _ _) hX1 hY1 X1 Y1 F1 L1 fun merged st2 hS hM => ?_)
    refine wpS_bind (wpS_modify (wpS_bind (wpS_get (wpS_pure ?_))))
    have : (failedOf st2).isNone = true := by rw [hS.2.2.2]; show (failedOf st).isNone = true; rw [hfl]; rfl
    rw [show (failedOf (setArr st2 (put (arrOf st2) (0 + k) merged.toList))).isNone = true from this]
    exact fin merged st2 hS hM
end
end
end Mine

namespace Mine
noncomputable section
open PySem PyProof.Rows
set_option maxRecDepth 100000
set_option linter.unusedVariables false
theorem minRun65 : minRun' 65 65 0 = 33 := by decide +kernel
section
variable {prog : Program} {w : World} {A : Around} {E : Value → Shared → Prop} {s : Shared} {κ : PyProof.Rows.KeyKind}

/-- what stands between the sort's steps -/
structure Sd (st st' : SortSt) : Prop where
  kind : kindOf st' = oneType'
  fail : failedOf st' = none
  perm : (arrOf st').Perm (arrOf st)
/-- one run -/
noncomputable def D1 (κ : PyProof.Rows.KeyKind) (st st' : SortSt) (n : Nat) : Prop := Sd st st' ∧ pendingOf st' = #[(0, n, 0)] ∧ Srt κ (arrOf st') 0 n
/-- all in one -/
noncomputable def E1 (κ : PyProof.Rows.KeyKind) (st st' : SortSt) : Prop := Sd st st' ∧ (pendingOf st').size ≤ 1 ∧ Srt κ (arrOf st') 0 65
/-- two runs -/
noncomputable def D2 (κ : PyProof.Rows.KeyKind) (st st' : SortSt) : Prop := Sd st st' ∧ ∃ n p, 1 ≤ n ∧ n < 65 ∧ pendingOf st' = #[(0, n, p), (n, 65 - n, 0)] ∧ Srt κ (arrOf st') 0 n ∧ Srt κ (arrOf st') n 65

theorem sortRuns65 (hO : κ.OneLt) {st : SortSt} {Q : Unit → SortSt → Prop} (hk : kindOf st = oneType') (hf : failedOf st = none) (hp : pendingOf st = #[]) (g : Gds κ (arrOf st)) (hsz : (arrOf st).size = 65)
    (h : ∀ st', (arrOf st').Perm (arrOf st) → failedOf st' = none → SortedToK κ (arrOf st') 65 → Q () st') : wpS (model prog w) A E s sortRuns' Q st := by
  rw [sortRuns'_eq]
  refine wpS_bind (wpS_get ?_)
  dsimp only
  rw [hsz, minRun65]
  refine wpS_bind (wpS_mono (wpS_forRange (I := fun x c st' => (x = 0 ∧ c = (none, 0) ∧ st' = st) ∨ (x = 1 ∧ ∃ n, c = (none, n) ∧ 33 ≤ n ∧ n ≤ 65 ∧ D1 κ st st' n) ∨ (2 ≤ x ∧ c = (none, 65) ∧ (E1 κ st st' ∨ D2 κ st st')))
    (Q := fun c st' => c = (none, 65) ∧ (E1 κ st st' ∨ D2 κ st st')) ?step ?fin (.inl ⟨rfl, rfl, rfl⟩)) ?post)
  case fin =>
    rintro c st' (⟨hx, _⟩ | ⟨hx, _⟩ | ⟨_, h1, h2⟩)
    · lia
    · lia
    · exact ⟨h1, h2⟩
  case step =>
    rintro x c st' _ hx (⟨rfl, rfl, rfl⟩ | ⟨rfl, n, rfl, hn1, hn2, hD, hpd, hs⟩ | ⟨hx2, rfl, hD⟩)
    · dsimp only
      refine wpS_neg (by lia) ?_
      refine wpS_bind (countRun_ok hO hk g (by lia) (by lia) fun m st2 hT hm1 hm2 hs => ?_)
      rw [Nat.zero_add] at hs
      have hz := hT.size
      dsimp only
      by_cases hlt : m < 33
      · refine wpS_pos hlt ?_
        refine wpS_bind (wpS_lift (wpAny_rule ⟨rfl, ?_⟩))
        refine wpS_bind (binarySort_ok hO (hT.kind.trans hk) (g.perm hT.perm) hm1 (by lia) (by lia) (by rw [Nat.zero_add]; exact hs) fun st3 hT3 hs3 => ?_)
        simp only [Bool.not_true, Bool.false_eq_true, if_false]
        refine wpS_bind (wpS_get ?_)
        have hb : (pendingOf st3).back? = none := by rw [hT3.pend, hT.pend, hp]; rfl
        rw [hb]
        dsimp only
        refine wpS_bind (wpS_modify (wpS_pure (.inr (.inl ⟨by simp, 33, rfl, by lia, by lia, ⟨hT3.kind.trans (hT.kind.trans hk), hT3.fail.trans (hT.fail.trans hf), hT3.perm.trans hT.perm⟩, ?_, ?_⟩))))
        · show (pendingOf st3).push _ = _; rw [hT3.pend, hT.pend, hp]; rfl
        · exact hs3
      · refine wpS_neg hlt ?_
        refine wpS_bind (wpS_get ?_)
        have hb : (pendingOf st2).back? = none := by rw [hT.pend, hp]; rfl
        rw [hb]
        dsimp only
        refine wpS_bind (wpS_modify (wpS_pure (.inr (.inl ⟨by simp, m, by rw [Nat.zero_add], by lia, by lia, ⟨hT.kind.trans hk, hT.fail.trans hf, hT.perm⟩, ?_, ?_⟩))))
        · show (pendingOf st2).push _ = _; rw [hT.pend, hp]; rfl
        · exact hs
    · dsimp only
      by_cases hge : n ≥ 65
      · refine wpS_pos hge ?_
        obtain rfl : n = 65 := by lia
        exact wpS_pure ⟨rfl, .inl ⟨hD, by rw [hpd]; exact Nat.le_refl 1, hs⟩⟩
      refine wpS_neg hge ?_
      have hz := hD.perm.size_eq
      have gg := g.perm hD.perm
      refine wpS_bind (countRun_ok hO hD.kind gg (by lia) (by lia) fun m st2 hT hm1 hm2 hs2 => ?_)
      have hz2 := hT.size
      dsimp only
      refine wpS_pos (by lia) ?_
      refine wpS_bind (wpS_lift (wpAny_rule ⟨rfl, ?_⟩))
      rw [show min (65 - n) 33 = 65 - n by lia]
      refine wpS_bind (binarySort_ok hO (hT.kind.trans hD.kind) (gg.perm hT.perm) hm1 hm2 (by lia) hs2 fun st3 hT3 hs3 => ?_)
      simp only [Bool.not_true, Bool.false_eq_true, if_false]
      refine wpS_bind (wpS_get ?_)
      have hp3 : pendingOf st3 = #[(0, n, 0)] := by rw [hT3.pend, hT.pend, hpd]
      have hb : (pendingOf st3).back? = some (0, n, 0) := by rw [hp3]; rfl
      rw [hb]
      dsimp only
      refine wpS_bind (wpS_mono (wpS_forRange (I := fun x c st' => c = (none, ()) ∧ st' = st3) (Q := fun c st' => c = (none, ()) ∧ st' = st3) ?lstep ?lfin ⟨rfl, rfl⟩) ?lpost)
      case lfin => exact fun _ _ q => q
      case lstep =>
        rintro y c st' _ hy ⟨rfl, rfl⟩
        refine wpS_bind (wpS_get ?_)
        rw [hp3, if_neg (by simp)]
        exact wpS_pure ⟨rfl, rfl⟩
      case lpost =>
        rintro c st' ⟨rfl, rfl⟩
        dsimp only
        refine wpS_bind (wpS_modify (wpS_bind (wpS_modify (wpS_pure (.inr (.inr ⟨by lia, by rw [show n + (65 - n) = 65 by lia], .inr ⟨⟨hT3.kind.trans (hT.kind.trans hD.kind), hT3.fail.trans (hT.fail.trans hD.fail), hT3.perm.trans (hT.perm.trans hD.perm)⟩, n, power' 65 (2 * 0 + n) (2 * 0 + n + n + (65 - n)) 65, by lia, by lia, ?_, ?_, ?_⟩⟩))))))
        · show (((pendingOf st').modify ((pendingOf st').size - 1) _).push _) = _
          rw [hp3]; apply Array.ext'; simp [Array.modify, Array.modifyM]
        · intro i j q1 q2 q3
          have e : ∀ q, q < n → KK κ (arrOf st') q = KK κ (arrOf st2) q := fun q hq => KK_congr (hT3.out q (.inl hq))
          have e2 : ∀ q, q < n → KK κ (arrOf st2) q = KK κ _ q := fun q hq => KK_congr (hT.out q (.inl hq))
          show κ.kle (KK κ (arrOf st') i) (KK κ (arrOf st') j)
          rw [e i (by lia), e j (by lia), e2 i (by lia), e2 j (by lia)]
          exact hs i j q1 q2 q3
        · rw [show n + (65 - n) = 65 by lia] at hs3
          exact hs3
    · dsimp only
      refine wpS_pos (by lia) ?_
      exact wpS_pure ⟨rfl, hD⟩
  case post =>
    rintro c st' ⟨rfl, hD⟩
    dsimp only
    refine wpS_bind (wpS_mono (wpS_forRange (I := fun x c st' => c = (none, ()) ∧ ((x = 0 ∧ D2 κ st st') ∨ E1 κ st st')) (Q := fun c st' => c = (none, ()) ∧ E1 κ st st') ?lstep ?lfin ⟨rfl, ?linit⟩) ?lpost)
    case linit =>
      rcases hD with hD | hD
      · exact .inr hD
      · exact .inl ⟨rfl, hD⟩
    case lfin =>
      rintro c st' ⟨rfl, ⟨hx, _⟩ | hD⟩
      · lia
      · exact ⟨rfl, hD⟩
    case lpost =>
      rintro c st' ⟨rfl, hS, hpp, hs⟩
      exact wpS_pure (h st' hS.perm hS.fail fun i j q1 q2 => hs i j (Nat.zero_le _) q1 q2)
    case lstep =>
      rintro x c st' _ hx ⟨rfl, ⟨rfl, hS, n, p, hn1, hn2, hpp, hs1, hs2⟩ | hD⟩
      · refine wpS_bind (wpS_get ?_)
        have hps : (pendingOf st').size = 2 := by rw [hpp]; rfl
        rw [hps, if_neg (by lia)]
        have hz := hS.perm.size_eq
        simp only [Nat.sub_self, gt_iff_lt, Nat.lt_irrefl, if_false, Option.any_none, Bool.false_eq_true]
        refine wpS_bind (mergeAt_ok hO hS.kind hS.fail (g.perm hS.perm) hpp hn1 (by lia) (by lia) hs1 (by rw [show n + (65 - n) = 65 by lia]; exact hs2) fun st4 k4 f4 p4 q4 s4 => ?_)
        rw [show n + (65 - n) = 65 by lia] at s4 q4
        simp only [Bool.not_true, Bool.false_eq_true, if_false]
        exact wpS_pure ⟨rfl, .inr ⟨⟨k4, f4, p4.trans hS.perm⟩, by rw [q4]; exact Nat.le_refl 1, s4⟩⟩
      · obtain ⟨hS, hpp, hs⟩ := hD
        refine wpS_bind (wpS_get ?_)
        refine wpS_pos hpp ?_
        exact wpS_pure ⟨rfl, hS, hpp, hs⟩
end
end
end Mine

namespace Mine
noncomputable section
open PySem PySem.W PyProof.Rows
set_option maxRecDepth 100000 in
set_option maxHeartbeats 8000000 in
open_top hd for PySem.Challenge.rw_pg0108_01
end
end Mine

namespace Mine
noncomputable section
open PySem PySem.W PySem.Calls PyProof.Rows
set_option maxRecDepth 100000
set_option linter.unusedVariables false

noncomputable abbrev KK : Params → Frag := hd.heap_39

/-- every object of h stands in h' -/
noncomputable def Kp (h h' : Heap) : Prop := ∀ b o, h.get? b = some o → h'.get? b = some o
theorem Kp.refl (h : Heap) : Kp h h := fun _ _ e => e
theorem Kp.trans {a b c : Heap} (x : Kp a b) (y : Kp b c) : Kp a c := fun q o e => y q o (x q o e)
theorem Kp.push (h : Heap) (o : Obj) : Kp h (h.push o) := fun _ _ e => Heap.get?_push_of_some _ e

/-- t, from heap h, ends in P; nothing but heap and tokens turns -/
noncomputable def Run {α : Type} (prog : Program) (w : World) (A : Around) (s0 : Shared) (t : Sem α) (h : Heap) (P : α → Heap → Prop) : Prop :=
  ∀ tk, wpAny (model prog w) A t (fun v s' => ∃ h' tk', s' = { s0 with heap := h', toks := tk' } ∧ P v h') (fun _ _ => False) { s0 with heap := h, toks := tk }

section
variable {α β : Type} {prog : Program} {w : World} {A : Around} {s0 : Shared} {h : Heap}

theorem Run.use {t : Sem α} {P : α → Heap → Prop} (r : Run prog w A s0 t h P) (tk : Nat) {Q : α → Shared → Prop} {E : Value → Shared → Prop}
    (q : ∀ v h' tk', P v h' → Q v { s0 with heap := h', toks := tk' }) : wpAny (model prog w) A t Q E { s0 with heap := h, toks := tk } :=
  wpAny_mono (r tk) (fun v s' x => by obtain ⟨h', tk', rfl, p⟩ := x; exact q v h' tk' p) fun _ _ f => f.elim

theorem Run.mono {t : Sem α} {P P' : α → Heap → Prop} (r : Run prog w A s0 t h P) (q : ∀ v h', P v h' → P' v h') : Run prog w A s0 t h P' :=
  fun tk => r.use tk fun v h' tk' p => ⟨h', tk', rfl, q v h' p⟩

theorem run_pure {a : α} {P : α → Heap → Prop} (p : P a h) : Run prog w A s0 (pure a) h P := fun tk => wpAny_pure ⟨h, tk, rfl, p⟩

theorem run_bind {t : Sem α} {f : α → Sem β} {P : β → Heap → Prop} (r : Run prog w A s0 t h fun v h' => Run prog w A s0 (f v) h' P) :
    Run prog w A s0 (t >>= f) h P := fun tk => wpAny_bind (r.use tk fun _ _ tk' p => p tk')

theorem run_in1 {t : Sem α} {P : α → Heap → Prop} (r : Run prog w A.in1 s0 t h P) : Run prog w A s0 t h P := fun tk => wpAny_of_in1 (r tk)
end

/-- the name is read as v, at this heap and at every later one -/
noncomputable def Has (prog : Program) (w : World) (env : Env) (x : Str) (h : Heap) (v : Value) : Prop :=
  ∀ A s0 h', Kp h h' → Run prog w A s0 (loadName env x) h' fun v' h'' => v' = v ∧ h'' = h'

theorem Has.kp {prog : Program} {w : World} {env : Env} {x : Str} {h h' : Heap} {v : Value} (a : Has prog w env x h v) (k : Kp h h') : Has prog w env x h' v :=
  fun A s0 h'' k' => a A s0 h'' (k.trans k')

section
variable {prog : Program} {w : World} {A : Around} {s0 : Shared} {h : Heap} {env : Env} {P : Value → Heap → Prop}

theorem ns_kp {h h' : Heap} {L : Addr} {m : Str → Option Value} (n : h.Ns L m) (k : Kp h h') : h'.Ns L m := n.keeps k

theorem has_local {x : Str} {L : Addr} {m : Str → Option Value} {v : Value} (hn : h.Ns L m) (hv : m x = some v) (hL : env.locals = L)
    (hk : env.scope.kind = .function) (hl : env.kindOf x = some .local) : Has prog w env x h v := fun A s0 h' k tk => by
  subst hL
  exact wpAny_loadName_local hk hl (ns_kp hn k) hv ⟨_, _, rfl, rfl, rfl⟩

/-- a cell at c holds v -/
noncomputable def CellAt (h : Heap) (c : Addr) (v : Value) : Prop := ∃ o, h.get? c = some o ∧ o.data = .cell (some v)
theorem CellAt.kp {h h' : Heap} {c : Addr} {v : Value} (x : CellAt h c v) (k : Kp h h') : CellAt h' c v := let ⟨o, a, b⟩ := x; ⟨o, k _ _ a, b⟩

theorem has_cell {x : Str} {c : Addr} {v : Value} (hc : CellAt h c v) (hl : env.cells.lookup x = some c)
    (hk : env.scope.kind = .function) (hx : env.kindOf x = some .cell) : Has prog w env x h v := fun A s0 h' k tk =>
  wpAny_loadName_cell hk hx hl (hc.kp k) ⟨_, _, rfl, rfl, rfl⟩

/-- the standing part: the text's own objects, the globals, the built-ins -/
structure Bs (w : World) (mg mb : Str → Option Value) (h : Heap) : Prop where
  k : (KK w.params).In h
  g : h.Ns mainGlobals mg
  b : h.Ns builtinsNs mb
  nolimit : h.NoLimit
  bi : ∀ x : Str, x ≠ "__name__" → mb x = bootBuiltins x

theorem Bs.kp {mg mb : Str → Option Value} {h h' : Heap} (B : Bs w mg mb h) (k : Kp h h') : Bs w mg mb h' :=
  ⟨B.k.keeps k, B.g.keeps k, B.b.keeps k, B.nolimit.keeps k, B.bi⟩

theorem has_global {mg mb : Str → Option Value} {x : Str} {v : Value} (B : Bs w mg mb h) (e : nsIn (KK w.params) mainGlobals x = some (some v)) (hg : env.globals = mainGlobals)
    (hk : env.scope.kind = .function) (hx : env.kindOf x = some .globalImplicit) : Has prog w env x h v := fun A s0 h' k tk => by
  rw [loadName_read hk hx]
  exact loadGlobal_global (env := env) (by rw [hg]; exact B.g.keeps k) (mg_of B.k B.g e) ⟨_, _, rfl, rfl, rfl⟩

theorem has_builtin {mg mb : Str → Option Value} {x : Str} {v : Value} (B : Bs w mg mb h) (e : nsIn (KK w.params) mainGlobals x = some none) (hv : bootBuiltins x = some v) (hn : x ≠ "__name__")
    (hg : env.globals = mainGlobals) (hb : env.builtins = builtinsNs)
    (hk : env.scope.kind = .function) (hx : env.kindOf x = some .globalImplicit) : Has prog w env x h v := fun A s0 h' k tk => by
  rw [loadName_read hk hx]
  exact loadGlobal_builtin (env := env) (by rw [hg]; exact B.g.keeps k) (mg_none_of B.k B.g e) (by rw [hb]; exact B.b.keeps k) ((B.bi x hn).trans hv) ⟨_, _, rfl, rfl, rfl⟩

theorem ev_Name {x : Str} {pos : Pos} {v : Value} (a : Has prog w env x h v) (p : P v h) (hd : (x == ("__debug__" : Str)) = false := by decide) :
    Run prog w A s0 (eval (.Name x pos) env) h P := fun tk => wpAny_Name ((a A s0 h (.refl h)).use tk fun v' h' tk' e => by obtain ⟨rfl, rfl⟩ := e; exact ⟨_, _, rfl, p⟩) hd

theorem ev_int {i : Int} {k : Nat} {pos : Pos} (p : ∀ t, P (.int i t) h) : Run prog w A s0 (eval (.Constant (.int i) k pos) env) h P := fun _ => wpAny_Constant_int ⟨_, _, rfl, p _⟩
theorem ev_str {x : Str} {k : Nat} {pos : Pos} (p : ∀ t, P (.str x t) h) : Run prog w A s0 (eval (.Constant (.str x) k pos) env) h P := fun _ => Constant_str ⟨_, _, rfl, p _⟩

theorem ev_BinOp {l r : PySem.Expr} {op : Operator} {pos : Pos} (x : Run prog w A s0 (eval l env) h fun a h1 => Run prog w A s0 (eval r env) h1 fun b h2 => Run prog w A s0 (binaryOp op a b) h2 P) :
    Run prog w A s0 (eval (.BinOp l op r pos) env) h P := fun tk => wpAny_BinOp (x.use tk fun _ _ t1 y => y.use t1 fun _ _ t2 z => z t2)

theorem ev_Compare {l r : PySem.Expr} {op : CmpOp} {pos : Pos} (x : Run prog w A s0 (eval l env) h fun a h1 => Run prog w A s0 (eval r env) h1 fun b h2 => Run prog w A s0 (compareOp op a b) h2 P)
    (hm : behindInMarks op r = false := by with_unfolding_all rfl) :
    Run prog w A s0 (eval (.Compare l [op] [r] pos) env) h P := fun tk => wpAny_Compare1 (x.use tk fun _ _ t1 y => y.use t1 fun _ _ t2 z => z t2) hm

theorem ev_test {l r : PySem.Expr} {op : CmpOp} {pos : Pos} {whole : Sem Value} {P : Bool → Heap → Prop}
    (x : Run prog w A s0 (eval l env) h fun a h1 => Run prog w A s0 (eval r env) h1 fun b h2 => Run prog w A s0 (compareOp op a b) h2 fun c h3 => ∃ q, c = .bool q ∧ P q h3)
    (hm : behindInMarks op r = false := by with_unfolding_all rfl) :
    Run prog w A s0 (isTrue (.Compare l [op] [r] pos) env whole) h P := fun tk => wpAny_isTrue_Compare1 (x.use tk fun _ _ t1 y => y.use t1 fun _ _ t2 z => z.use t2 fun c h3 t3 ⟨q, e, p⟩ => by
      subst e; exact wpAny_truthy_bool ⟨_, _, rfl, p⟩) hm

theorem ev_Subscript {value slice : PySem.Expr} {pos : Pos} (x : Run prog w A s0 (eval value env) h fun o h1 => Run prog w A s0 (eval slice env) h1 fun i h2 => Run prog w A s0 (subscriptTail value slice o i) h2 P) :
    Run prog w A s0 (eval (.Subscript value slice pos) env) h P := fun tk => Subscript_ (x.use tk fun _ _ t1 y => y.use t1 fun _ _ t2 z => z t2)

theorem ev_Slice {lower upper step : Option PySem.Expr} {p : Pos}
    (x : Run prog w A s0 (evalPart lower env) h fun l h1 => Run prog w A s0 (evalPart upper env) h1 fun u h2 => Run prog w A s0 (evalPart step env) h2 fun st h3 =>
      P (.ref h3.objs.size) (h3.push { cls := .type "slice", data := .fields #[l, u, st] })) :
    Run prog w A s0 (eval (.Slice lower upper step p) env) h P := fun tk => wpAny_Slice (x.use tk fun _ _ t1 y => y.use t1 fun _ _ t2 z => z.use t2 fun _ _ _ q => ⟨_, _, rfl, q⟩)
theorem ev_part_none (p : P .none h) : Run prog w A s0 (evalPart none env) h P := run_pure p
theorem ev_part_some {e : PySem.Expr} (x : Run prog w A s0 (eval e env) h P) : Run prog w A s0 (evalPart (some e) env) h P := x
end
end
end Mine

namespace Mine
noncomputable section
open PySem PySem.W PySem.Calls PyProof.Rows
set_option maxRecDepth 100000
set_option linter.unusedVariables false

/-- a plain list of these ints -/
noncomputable def IL (h : Heap) (l : Addr) (ns : List Int) : Prop := ∃ vs n, IsL h l vs.toArray n ∧ IntsAre vs ns
theorem IL.kp {h h' : Heap} {l : Addr} {ns : List Int} (x : IL h l ns) (k : Kp h h') : IL h' l ns := let ⟨vs, n, a, b⟩ := x; ⟨vs, n, k _ _ a, b⟩
theorem IL.lst {h : Heap} {l : Addr} {ns : List Int} (x : IL h l ns) : ∃ vs, h.IsList l vs.toArray ∧ IntsAre vs ns := let ⟨vs, n, a, b⟩ := x; ⟨vs, a.isList, b⟩
theorem IL.some {h : Heap} {l : Addr} {ns : List Int} (x : IL h l ns) : ∃ o, h.get? l = some o := let ⟨_, _, a, _⟩ := x; ⟨_, a⟩
theorem get_none_of_le {h : Heap} {a : Addr} (ha : h.objs.size ≤ a) : h.get? a = none := by
  cases e : h.get? a with
  | none => rfl
  | some o => exact absurd (Heap.lt_size e) (Nat.not_lt.mpr ha)
theorem none_of_kp {h h' : Heap} {a : Addr} (k : Kp h h') (e : h'.get? a = none) : h.get? a = none := by
  cases q : h.get? a with
  | none => rfl
  | some o => rw [k _ _ q] at e; cases e

theorem il_push {h : Heap} {arr : Array Value} {vs : List Value} {ns : List Int} (e : arr = vs.toArray) (hi : IntsAre vs ns) : IL (h.push { cls := .type "list", data := .seq arr }) h.objs.size ns := by
  subst e; exact ⟨vs, _, Heap.get?_push_size _ rfl, hi⟩
theorem ints_take : ∀ {vs : List Value} {ns : List Int}, IntsAre vs ns → ∀ k : Nat, IntsAre (vs.take k) (ns.take k)
  | _, _, _, 0 => by simpa using IntsAre.nil
  | _, _, .nil, _ + 1 => .nil
  | _, _, .cons n t h, k + 1 => .cons n t (ints_take h k)
theorem ints_drop : ∀ {vs : List Value} {ns : List Int}, IntsAre vs ns → ∀ k : Nat, IntsAre (vs.drop k) (ns.drop k)
  | _, _, h, 0 => h
  | _, _, .nil, _ + 1 => .nil
  | _, _, .cons n t h, k + 1 => ints_drop h k

/-- e is worth a value of φ, at this heap and every later one, and changes nothing -/
noncomputable def Pv (prog : Program) (w : World) (env : Env) (e : PySem.Expr) (h : Heap) (φ : Value → Prop) : Prop :=
  ∀ A s0 h', Kp h h' → Run prog w A s0 (eval e env) h' fun v h'' => φ v ∧ h'' = h'
theorem Pv.kp {prog : Program} {w : World} {env : Env} {e : PySem.Expr} {h h' : Heap} {φ : Value → Prop} (a : Pv prog w env e h φ) (k : Kp h h') : Pv prog w env e h' φ :=
  fun A s0 h'' k' => a A s0 h'' (k.trans k')

section
variable {prog : Program} {w : World} {A : Around} {s0 : Shared} {h : Heap} {env : Env} {P : Value → Heap → Prop}

theorem Pv.run {e : PySem.Expr} {φ : Value → Prop} (a : Pv prog w env e h φ) (p : ∀ v, φ v → P v h) : Run prog w A s0 (eval e env) h P :=
  (a A s0 h (.refl h)).mono fun v h' q => by obtain ⟨q, rfl⟩ := q; exact p v q

theorem pv_Name {x : Str} {pos : Pos} {v : Value} (a : Has prog w env x h v) (hd : (x == ("__debug__" : Str)) = false := by decide) : Pv prog w env (.Name x pos) h (· = v) :=
  fun A s0 h' k => ev_Name (a.kp k) ⟨rfl, rfl⟩ hd
theorem pv_int {i : Int} {k : Nat} {pos : Pos} : Pv prog w env (.Constant (.int i) k pos) h fun v => ∃ t, v = .int i t := fun A s0 h' _ => ev_int fun t => ⟨⟨t, rfl⟩, rfl⟩
theorem pv_add {l r : PySem.Expr} {a b : Int} {pos : Pos} (x : Pv prog w env l h fun v => ∃ t, v = .int a t) (y : Pv prog w env r h fun v => ∃ t, v = .int b t) :
    Pv prog w env (.BinOp l .Add r pos) h fun v => ∃ t, v = .int (a + b) t := fun A s0 h' k => ev_BinOp ((x.kp k).run fun v e => (y.kp k).run fun u f => by
  obtain ⟨t, rfl⟩ := e; obtain ⟨t', rfl⟩ := f
  exact fun tk => wpAny_add_int ⟨_, _, rfl, ⟨_, rfl⟩, rfl⟩)
theorem Pv.mono {e : PySem.Expr} {φ ψ : Value → Prop} (a : Pv prog w env e h φ) (p : ∀ v, φ v → ψ v) : Pv prog w env e h ψ :=
  fun A s0 h' k => (a A s0 h' k).mono fun v h'' q => ⟨p v q.1, q.2⟩

theorem pv_item {ve ie : PySem.Expr} {pos : Pos} {l : Addr} {ns : List Int} {k : Int} (x : Pv prog w env ve h (· = .ref l)) (y : Pv prog w env ie h fun v => ∃ t, v = .int k t) (hl : IL h l ns)
    (h0 : 0 ≤ k) (h1 : k < ns.length) (hfit : ns.length ≤ 2 ^ 20)
    (hs : ∀ u, subscripted ie false (.ref l) (.int k u) = operate [.ref l, .int k u] (getItem (.ref l) (.int k u)) := by intro u; with_unfolding_all rfl) :
    Pv prog w env (.Subscript ve ie pos) h fun v => ∃ t, v = .int (ns.getD k.toNat 0) t := fun A s0 h' kk => ev_Subscript ((x.kp kk).run fun o e => (y.kp kk).run fun i f => by
  subst e; obtain ⟨u, rfl⟩ := f
  intro tk
  obtain ⟨vs, n, hL, hi⟩ := hl.kp kk
  have hlt : k.toNat < ns.length := by lia
  obtain ⟨t, ht⟩ := hi.get k.toNat ns[k.toNat] (by simp [hlt])
  exact tail_any (Heap.IsList.typeIs (s := { s0 with heap := h', toks := tk }) hL.isList) slot_list_getitem.lookup
    (wpAny_getItem_list (x := .int ns[k.toNat] t) hL.isList h0 (by lia) (by simpa using ht) ⟨_, _, rfl, ⟨t, by simp [List.getD, hlt]⟩, rfl⟩) (hs u))

/-- a slice of a list -/
theorem rl_slice {value slice : PySem.Expr} {l : Addr} {items : Array Value} {vl vu : Value} {lo hi : Option Int} {ops : List Value}
    (hl : h.IsList l items) (pl : IsPart vl lo) (pu : IsPart vu hi) (hsz : items.size ≤ sizeLine)
    (p : P (.ref (h.push { cls := .type "slice", data := .fields #[vl, vu, .none] }).objs.size) ((h.push { cls := .type "slice", data := .fields #[vl, vu, .none] }).push { cls := .type "list", data := .seq (slicePick items lo hi none) }))
    (hs : subscripted slice false (.ref l) (.ref h.objs.size) = operate ops (getItem (.ref l) (.ref h.objs.size))) :
    Run prog w A s0 (subscriptTail value slice (.ref l) (.ref h.objs.size)) (h.push { cls := .type "slice", data := .fields #[vl, vu, .none] }) P := fun tk =>
  tail_any (Heap.IsList.typeIs (s := { s0 with heap := h.push _, toks := tk }) (hl.push _)) slot_list_getitem.lookup
    (wpAny_getItem_list_slice (hl.push _) (Heap.IsSliceOf.new ..) pl pu .none (by simp) ⟨_, _, rfl, p⟩ hsz) hs

theorem ev_upto {ve ue : PySem.Expr} {p pos : Pos} {l : Addr} {ns : List Int} {b : Int} (x : Pv prog w env ve h (· = .ref l)) (y : Pv prog w env ue h fun v => ∃ t, v = .int b t) (hl : ∃ vs, h.IsList l vs.toArray ∧ IntsAre vs ns) (h0 : 0 ≤ b) (hsz : ns.length ≤ 2 ^ 20)
    (q : ∀ l' h', Kp h h' → h.get? l' = none → IL h' l' (ns.take b.toNat) → P (.ref l') h')
    (hs : ∀ a, subscripted (.Slice none (some ue) none p) false (.ref l) (.ref a) = operate [.ref a, .ref l] (getItem (.ref l) (.ref a)) := by intro a; with_unfolding_all rfl) :
    Run prog w A s0 (eval (.Subscript ve (.Slice none (some ue) none p) pos) env) h P := by
  refine ev_Subscript (x.run fun o e => ?_)
  subst e
  refine ev_Slice (ev_part_none (ev_part_some (y.run fun u f => ev_part_none ?_)))
  obtain ⟨t, rfl⟩ := f
  obtain ⟨vs, hL, hi⟩ := hl
  obtain ⟨n, rfl⟩ := Int.eq_ofNat_of_zero_le h0
  refine rl_slice hL .none (.int _ _) (by rw [List.size_toArray, hi.length, sizeLine_eq]; lia) ?_ (hs _)
  refine q _ _ ((Kp.push _ _).trans (Kp.push _ _)) (get_none_of_le (by rw [Heap.size_push]; exact Nat.le_succ _)) (il_push (by simpa using slicePick_upto' vs.toArray n) (ints_take hi n))

theorem ev_from {ve ue : PySem.Expr} {p pos : Pos} {l : Addr} {ns : List Int} {b : Int} (x : Pv prog w env ve h (· = .ref l)) (y : Pv prog w env ue h fun v => ∃ t, v = .int b t) (hl : ∃ vs, h.IsList l vs.toArray ∧ IntsAre vs ns) (h0 : 0 ≤ b) (hsz : ns.length ≤ 2 ^ 20)
    (q : ∀ l' h', Kp h h' → h.get? l' = none → IL h' l' (ns.drop b.toNat) → P (.ref l') h')
    (hs : ∀ a, subscripted (.Slice (some ue) none none p) false (.ref l) (.ref a) = operate [.ref a, .ref l] (getItem (.ref l) (.ref a)) := by intro a; with_unfolding_all rfl) :
    Run prog w A s0 (eval (.Subscript ve (.Slice (some ue) none none p) pos) env) h P := by
  refine ev_Subscript (x.run fun o e => ?_)
  subst e
  refine ev_Slice (ev_part_some (y.run fun u f => ev_part_none (ev_part_none ?_)))
  obtain ⟨t, rfl⟩ := f
  obtain ⟨vs, hL, hi⟩ := hl
  obtain ⟨n, rfl⟩ := Int.eq_ofNat_of_zero_le h0
  refine rl_slice hL (.int _ _) .none (by rw [List.size_toArray, hi.length, sizeLine_eq]; lia) ?_ (hs _)
  refine q _ _ ((Kp.push _ _).trans (Kp.push _ _)) (get_none_of_le (by rw [Heap.size_push]; exact Nat.le_succ _)) (il_push (by simpa using slicePick_from' vs.toArray n) (ints_drop hi n))

/-- l + b -/
theorem rl_add {l b : Addr} {ns ms : List Int} (hl : IL h l ns) (hb : IL h b ms) (hsz : ns.length + ms.length ≤ 2 ^ 20)
    (q : ∀ l' h', Kp h h' → h.get? l' = none → IL h' l' (ns ++ ms) → P (.ref l') h') : Run prog w A s0 (binaryOp .Add (.ref l) (.ref b)) h P := fun tk => by
  obtain ⟨vs, n, hL, hi⟩ := hl
  obtain ⟨us, m, hB, hj⟩ := hb
  have hh := hi.length
  have hh' := hj.length
  refine concat_meets ⟨_, hL, rfl⟩ ⟨_, hB, rfl⟩ noFill_list_add seq_list_add PySem.F.slot_list_add PySem.F.entry_list_add (PySem.F.args_list_add_2 _ _)
    (list_addW l b vs.toArray us.toArray n m none none #[] #[] (by simp only [List.size_toArray, sizeLine_eq]; lia)) ⟨hL, hB, ?_⟩
  refine ⟨_, _, rfl, q _ _ (Kp.push _ _) (get_none_of_le (Nat.le_refl _)) (il_push (by simp) (hi.append hj))⟩

theorem rl_notin {l : Addr} {ns : List Int} {k : Int} {t : Tok} (hl : IL h l ns) (p : P (.bool (!(ns.any (· == k)))) h) : Run prog w A s0 (compareOp .NotIn (.int k t) (.ref l)) h P := fun tk => by
  obtain ⟨vs, n, hL, hi⟩ := hl
  exact notin_list_ints hL.isList hi ⟨_, _, rfl, p⟩
end
end
end Mine

namespace Mine
noncomputable section
open PySem PySem.W PySem.Calls PyProof.Rows
set_option maxRecDepth 100000
set_option linter.unusedVariables false

section
variable {prog : Program} {w : World} {A : Around} {s0 : Shared} {h : Heap} {env : Env} {P : Value → Heap → Prop}

/-- f stands at a as a def -/
noncomputable def IsFn (h : Heap) (f : Addr) : Prop := ∃ o fd, h.get? f = some o ∧ o.data = .func fd
theorem IsFn.kp {h h' : Heap} {f : Addr} (x : IsFn h f) (k : Kp h h') : IsFn h' f := let ⟨o, fd, a, b⟩ := x; ⟨o, fd, k _ _ a, b⟩

theorem ev_call1 {x : Str} {p pos : Pos} {e : PySem.Expr} {f : Addr} (hf : Has prog w env x h (.ref f)) (hfn : IsFn h f)
    (r : Run prog w A s0 (eval e env) h fun v h1 => Kp h h1 ∧ Run prog w A s0 (call (.ref f) [v]) h1 P)
    (hs : starEach [e] env = [(false, eval e env)] := by rfl) (hd : (x == ("__debug__" : Str)) = false := by decide) :
    Run prog w A s0 (eval (.Call (.Name x p) [e] [] pos) env) h P := fun tk => by
  obtain ⟨o, fd, ho, hd'⟩ := hfn
  refine Call_Name1 (Run.use (P := fun v h' => v = .ref f ∧ h' = h) (ev_Name hf ⟨rfl, rfl⟩ hd) tk fun v h' t1 q => ?_) hs
  obtain ⟨rfl, rfl⟩ := q
  refine callWith_function (o := o) (fd := fd) (evalArgs_plain (spliced_cons (r.use t1 fun v h1 t2 q => spliced_nil ⟨⟨q.1 _ _ ho, hd'⟩, ?_⟩)))
  exact q.2 t2

theorem ev_call2 {x : Str} {p pos : Pos} {e e' : PySem.Expr} {f : Addr} (hf : Has prog w env x h (.ref f)) (hfn : IsFn h f)
    (r : Run prog w A s0 (eval e env) h fun v h1 => Run prog w A s0 (eval e' env) h1 fun v' h2 => Kp h h2 ∧ Run prog w A s0 (call (.ref f) [v, v']) h2 P)
    (hs : starEach [e, e'] env = [(false, eval e env), (false, eval e' env)] := by rfl) (hd : (x == ("__debug__" : Str)) = false := by decide) :
    Run prog w A s0 (eval (.Call (.Name x p) [e, e'] [] pos) env) h P := fun tk => by
  obtain ⟨o, fd, ho, hd'⟩ := hfn
  refine Call_Name2 (Run.use (P := fun v h' => v = .ref f ∧ h' = h) (ev_Name hf ⟨rfl, rfl⟩ hd) tk fun v h' t1 q => ?_) hs
  obtain ⟨rfl, rfl⟩ := q
  refine callWith_function (o := o) (fd := fd) (evalArgs_plain (spliced_cons (r.use t1 fun v h1 t2 q => spliced_cons (q.use t2 fun v' h2 t3 q' => spliced_nil ⟨⟨q'.1 _ _ ho, hd'⟩, ?_⟩))))
  exact q'.2 t3

theorem ev_call0 {x : Str} {p pos : Pos} {f : Addr} (hf : Has prog w env x h (.ref f)) (hfn : IsFn h f)
    (r : Run prog w A s0 (call (.ref f) []) h P) (hd : (x == ("__debug__" : Str)) = false := by decide) :
    Run prog w A s0 (eval (.Call (.Name x p) [] [] pos) env) h P := fun tk => by
  obtain ⟨o, fd, ho, hd'⟩ := hfn
  refine Call_Name0 (Run.use (P := fun v h' => v = .ref f ∧ h' = h) (ev_Name hf ⟨rfl, rfl⟩ hd) tk fun v h' t1 q => ?_)
  obtain ⟨rfl, rfl⟩ := q
  refine callWith_function (o := o) (fd := fd) (PyProof.Rows.evalArgs_none ⟨⟨ho, hd'⟩, ?_⟩)
  exact r t1

theorem ev_callB1 {x : Str} {p pos : Pos} {e : PySem.Expr} {id : String} (hf : Has prog w env x h (.builtin id))
    (r : Run prog w A s0 (eval e env) h fun v h1 => Run prog w A s0 (call (.builtin id) [v]) h1 P)
    (hs : starEach [e] env = [(false, eval e env)] := by rfl) (hd : (x == ("__debug__" : Str)) = false := by decide) :
    Run prog w A s0 (eval (.Call (.Name x p) [e] [] pos) env) h P := fun tk => by
  refine Call_Name1 (Run.use (P := fun v h' => v = .builtin id ∧ h' = h) (ev_Name hf ⟨rfl, rfl⟩ hd) tk fun v h' t1 q => ?_) hs
  obtain ⟨rfl, rfl⟩ := q
  exact callWith_builtin rfl (evalArgs_plain (spliced_cons (r.use t1 fun v h1 t2 q => spliced_nil (q t2))))

theorem ev_callB2 {x : Str} {p pos : Pos} {e e' : PySem.Expr} {id : String} (hf : Has prog w env x h (.builtin id))
    (r : Run prog w A s0 (eval e env) h fun v h1 => Run prog w A s0 (eval e' env) h1 fun v' h2 => Run prog w A s0 (call (.builtin id) [v, v']) h2 P)
    (hs : starEach [e, e'] env = [(false, eval e env), (false, eval e' env)] := by rfl) (hd : (x == ("__debug__" : Str)) = false := by decide) :
    Run prog w A s0 (eval (.Call (.Name x p) [e, e'] [] pos) env) h P := fun tk => by
  refine Call_Name2 (Run.use (P := fun v h' => v = .builtin id ∧ h' = h) (ev_Name hf ⟨rfl, rfl⟩ hd) tk fun v h' t1 q => ?_) hs
  obtain ⟨rfl, rfl⟩ := q
  exact callWith_builtin rfl (evalArgs_plain (spliced_cons (r.use t1 fun v h1 t2 q => spliced_cons (q.use t2 fun v' h2 t3 q' => spliced_nil (q' t3)))))

theorem ev_callT1 {x : Str} {p pos : Pos} {e : PySem.Expr} {T : String} (hf : Has prog w env x h (.type T))
    (r : Run prog w A s0 (eval e env) h fun v h1 => Run prog w A s0 (call (.type T) [v]) h1 P)
    (hs : starEach [e] env = [(false, eval e env)] := by rfl) (hd : (x == ("__debug__" : Str)) = false := by decide) :
    Run prog w A s0 (eval (.Call (.Name x p) [e] [] pos) env) h P := fun tk => by
  refine Call_Name1 (Run.use (P := fun v h' => v = .type T ∧ h' = h) (ev_Name hf ⟨rfl, rfl⟩ hd) tk fun v h' t1 q => ?_) hs
  obtain ⟨rfl, rfl⟩ := q
  exact PyProof.Rows.callWith_type rfl (evalArgs_plain (spliced_cons (r.use t1 fun v h1 t2 q => spliced_nil (q t2))))

theorem rb_len {l : Addr} {ns : List Int} (hl : ∃ vs, h.IsList l vs.toArray ∧ IntsAre vs ns) (hfit : ns.length ≤ 2 ^ 20) (p : ∀ t, P (.int ns.length t) h) : Run prog w A s0 (call (.builtin "len") [.ref l]) h P := fun tk => by
  obtain ⟨vs, hL, hi⟩ := hl
  have e := hi.length
  refine PyProof.Rows.len_list hL (by rw [List.size_toArray]; lia) ⟨_, _, rfl, ?_⟩
  rw [List.size_toArray, e]; exact p _

theorem rb_sum {l : Addr} {ns : List Int} (hh : A.handled = none) (hl : ∃ vs, h.IsList l vs.toArray ∧ IntsAre vs ns) (p : ∀ t h', Kp h h' → P (.int ns.sum t) h') : Run prog w A s0 (call (.builtin "sum") [.ref l]) h P := fun tk => by
  obtain ⟨vs, hL, hi⟩ := hl
  have hn := hi.numsOf
  obtain ⟨xs, hx⟩ := hi.allInts.items
  rw [hx] at hL
  refine sum_intListG hh hL fun h' tk' t' hk => ⟨h', tk', rfl, ?_⟩
  have e : preSum (numAt xs) xs.size = ns.sum := by
    rw [preSum_eq, List.take_of_length_le (by simp), ← hn]
    have : vs = (intItems xs).toList := by rw [← hx]
    rw [this, nums_intItems]
  rw [e]; exact p t' h' hk

theorem rb_range {n : Int} {t : Tok} (p : ∀ r h' t1 t2 t3, Kp h h' → h.get? r = none → IsRange h' r 0 n 1 t1 t2 t3 → P (.ref r) h') : Run prog w A s0 (call (.type "range") [.int n t]) h P := fun tk =>
  call_range_1 ⟨_, _, rfl, p _ _ _ _ _ (Kp.push _ _) (get_none_of_le (Nat.le_refl _)) (IsRange.new ..)⟩

end

section
variable {prog : Program} {w : World} {A : Around} {s0 : Shared} {h : Heap} {env : Env} {P : Value → Heap → Prop}

noncomputable def tests (ifs : List PySem.Expr) (env : Env) : Sem Bool := forIn ifs true fun c r => if r = true then do let ok ← isTrue c env (eval c env); pure (ForInStep.yield ok) else pure (ForInStep.yield r)
theorem tests_nil {P : Bool → Heap → Prop} (p : P true h) : Run prog w A s0 (tests [] env) h P := fun tk => wpAny_tests_nil ⟨_, _, rfl, p⟩
theorem tests_one {c : PySem.Expr} {P : Bool → Heap → Prop} (r : Run prog w A s0 (isTrue c env (eval c env)) h P) : Run prog w A s0 (tests [c] env) h P := fun tk => wpAny_tests_one (r tk)

/-- a comprehension's turns, its source of n items told by I -/
structure Turns (prog : Program) (w : World) (A : Around) (env : Env) (scope : Scope) (cl : List (Str × Addr)) (x : Str) (ifs : List PySem.Expr) (elt : PySem.Expr) (I : Nat → Value → Prop) (p : Value → Bool) (F : Value → Value → Prop) (h1 : Heap) : Prop where
  test : ∀ s1 C i v h3 m3, I i v → Kp h1 h3 → h3.Ns C m3 → m3 x = some v → h1.get? C = none → Run prog w A s1 (tests ifs (compEnvC scope cl C env)) h3 fun ok h4 => ok = p v ∧ Kp h3 h4
  elt : ∀ s1 C i v h3 m3, I i v → p v = true → Kp h1 h3 → h3.Ns C m3 → m3 x = some v → h1.get? C = none → Run prog w A s1 (eval elt (compEnvC scope cl C env)) h3 fun y h4 => F v y ∧ Kp h3 h4

theorem keeps_of {s : Shared} {h' : Heap} {tk : Nat} (k : Kp s.heap h') : Keeps s { s with heap := h', toks := tk } := ⟨h', tk, rfl, k⟩

theorem Turns.quiet {scope : Scope} {cl : List (Str × Addr)} {x : Str} {ifs : List PySem.Expr} {elt : PySem.Expr} {I : Nat → Value → Prop} {p : Value → Bool} {F : Value → Value → Prop} {h1 : Heap} {wr : List Addr} {s2 : Shared}
    (T : Turns prog w A env scope cl x ifs elt I p F h1) (hk : ∀ b o, h1.get? b = some o → b ∉ wr ∧ s2.heap.get? b = some o) : QuietOnC prog w A env scope cl x ifs elt wr I p F s2 where
  tests := fun C i v s3 m3 E' hC hi hn hm hkp _ => by
    have kp : Kp h1 s3.heap := fun b o e => hkp b o (hk b o e).1 (hk b o e).2
    have := (T.test s3 C i v s3.heap m3 hi kp hn hm (none_of_kp (fun b o e => (hk b o e).2) (get_none_of_le hC))) s3.toks
    exact wpAny_mono this (fun ok s4 q => by obtain ⟨h', tk', rfl, e, k⟩ := q; exact ⟨e, keeps_of k⟩) fun _ _ f => f.elim
  elt := fun C i v s3 m3 E' hC hi hp hn hm hkp _ => by
    have kp : Kp h1 s3.heap := fun b o e => hkp b o (hk b o e).1 (hk b o e).2
    have := (T.elt s3 C i v s3.heap m3 hi hp kp hn hm (none_of_kp (fun b o e => (hk b o e).2) (get_none_of_le hC))) s3.toks
    exact wpAny_mono this (fun ok s4 q => by obtain ⟨h', tk', rfl, e, k⟩ := q; exact ⟨e, keeps_of k⟩) fun _ _ f => f.elim

/-- a comprehension over a list -/
theorem ev_compL {elt iter : PySem.Expr} {x : Str} {px : Pos} {ifs : List PySem.Expr} {scope : Scope} {cl : List (Str × Addr)} {pos : Pos} (p : Value → Bool) (F : Value → Value → Prop)
    (hh : A.handled = none) (hclos : closureFor scope env = pure cl)
    (src : Run prog w A s0 (eval iter env) h fun xv h1 => ∃ l items, xv = .ref l ∧ h1.IsList l items ∧ items.size ≤ sizeLine ∧ Turns prog w A env scope cl x ifs elt (fun i v => items[i]? = some v) p F h1 ∧
      ∀ D h' ys, h1.get? D = none → Kp h1 h' → h'.PlainList D ys → Paired F (items.toList.filter p) ys.toList → P (.ref D) h')
    (hcell : ∀ y ∈ scope.names, y.2 ≠ .cell := by decide) (hkind : scope.kind = .function := by rfl)
    (hnames : ∀ y ∈ scope.names, y.2 = .local → scope.names.lookup y.1 = some .local := by decide) (hx : scope.names.lookup x = some .local := by rfl)
    (hs : ∀ x, foldedSetIterable iter env x = pure x := by intro _; rfl) :
    Run prog w A s0 (eval (.ListComp elt [⟨.Name x px, iter, ifs, 0⟩] scope pos) env) h P := fun tk => by
  refine wpAny_ListComp_free p F hclos hcell hkind hnames hx (src.use tk fun xv h1 t1 q => ?_) hs
  obtain ⟨l, items, rfl, hl, hsz, T, fin⟩ := q
  refine wpAny_pyIter_list (s := { s0 with heap := h1, toks := t1 }) hl ?_
  have hlt : l < h1.objs.size := by obtain ⟨o, ho, _⟩ := hl; exact Heap.lt_size ho
  have hk : ∀ b o, h1.get? b = some o → b ∉ [h1.objs.size] ∧ (h1.push { cls := .type "list_iterator", data := .fields #[.ref l, .int 0 0] }).get? b = some o :=
    fun b o e => ⟨by simpa using Nat.ne_of_lt (Heap.lt_size e), Heap.get?_push_of_some _ e⟩
  refine ⟨_, _, _, _, _, _, rfl, Walks.list hh h1.objs.size l (Nat.ne_of_lt hlt) items, hsz, ⟨⟨_, Heap.get?_push_size _ rfl, rfl, rfl⟩, hl.push _⟩, ?_, T.quiet hk, ?_⟩
  · intro b hb
    show b < (h1.push _).objs.size
    rw [Heap.size_push]
    rcases List.mem_cons.mp hb with rfl | hb
    · exact Nat.lt_succ_self _
    · rw [List.mem_singleton.mp hb]; exact Nat.lt_succ_of_lt hlt
  · intro D h' tk' ys vs hD hl' hpl hlen hP hF hkp
    refine ⟨h', tk', rfl, fin D h' ys (none_of_kp (Kp.push _ _) hD) (fun b o e => hkp b o (hk b o e).1 (hk b o e).2) hpl ?_⟩
    have e : vs = items.toList := list_of_places hlen hP
    rw [← e]; exact hF

/-- a comprehension over range(n) -/
theorem ev_compR {elt iter : PySem.Expr} {x : Str} {px : Pos} {ifs : List PySem.Expr} {scope : Scope} {cl : List (Str × Addr)} {pos : Pos} (p : Value → Bool) (F : Value → Value → Prop)
    (hh : A.handled = none) (hclos : closureFor scope env = pure cl)
    (src : Run prog w A s0 (eval iter env) h fun xv h1 => ∃ (r : Addr) (n : Nat) (t1 t2 t3 : Tok), xv = .ref r ∧ IsRange h1 r 0 n 1 t1 t2 t3 ∧ n ≤ 2 ^ 20 ∧ Turns prog w A env scope cl x ifs elt (fun i v => i < n ∧ ∃ t, v = Value.int i t) p F h1 ∧
      ∀ D h' ys (vs : List Value), h1.get? D = none → Kp h1 h' → h'.PlainList D ys → vs.length = n → (∀ (j : Nat) v, vs[j]? = some v → ∃ t, v = Value.int j t) → Paired F (vs.filter p) ys.toList → P (.ref D) h')
    (hcell : ∀ y ∈ scope.names, y.2 ≠ .cell := by decide) (hkind : scope.kind = .function := by rfl)
    (hnames : ∀ y ∈ scope.names, y.2 = .local → scope.names.lookup y.1 = some .local := by decide) (hx : scope.names.lookup x = some .local := by rfl)
    (hs : ∀ x, foldedSetIterable iter env x = pure x := by intro _; rfl) :
    Run prog w A s0 (eval (.ListComp elt [⟨.Name x px, iter, ifs, 0⟩] scope pos) env) h P := fun tk => by
  refine wpAny_ListComp_free p F hclos hcell hkind hnames hx (src.use tk fun xv h1 t1 q => ?_) hs
  obtain ⟨r, n, u1, u2, u3, rfl, hr, hsz, T, fin⟩ := q
  refine wpAny_pyIter_range (s := { s0 with heap := h1, toks := t1 }) hr (small_one (by lia) (by lia) (by lia) (by lia)) ?_
  have hk : ∀ b o, h1.get? b = some o → b ∉ [h1.objs.size] ∧ (h1.push { cls := .type "range_iterator", data := .fields #[rawInt 0, rawInt (Builtin.Range.rangeSize 0 n 1), rawInt 1] }).get? b = some o :=
    fun b o e => ⟨by simpa using Nat.ne_of_lt (Heap.lt_size e), Heap.get?_push_of_some _ e⟩
  have hW : Walks prog w A h1.objs.size [h1.objs.size] [h1.objs.size] n (fun i v => i < n ∧ ∃ t, v = Value.int i t) (fun i h => IsRangeIter h h1.objs.size (0 + (i : Nat) * 1) ((n : Int) - (i : Nat)) 1) := by
    have W := LCg.range_walks (prog := prog) (w := w) (A := A) (I := h1.objs.size) hh 0 n
    exact ⟨W.sub, W.frame, fun i s Q E hi st hQ => W.item i s Q E hi st fun v h' tk hp => hQ v h' tk ⟨hi, by obtain ⟨t, e⟩ := hp; exact ⟨t, by rw [e, Int.zero_add]⟩⟩, W.done, W.self⟩
  refine ⟨_, _, _, _, _, _, rfl, hW, by rw [sizeLine_eq]; lia, ?_, ?_, T.quiet hk, ?_⟩
  · have e : Builtin.Range.rangeSize 0 (n : Int) 1 = (n : Int) - (0 : Nat) := by
      rw [rangeSize_one]; split <;> lia
    show IsRangeIter (h1.push { cls := .type "range_iterator", data := .fields #[rawInt 0, rawInt (Builtin.Range.rangeSize 0 n 1), rawInt 1] }) h1.objs.size (0 + ((0 : Nat) : Int) * 1) ((n : Int) - (0 : Nat)) 1
    rw [e]
    exact Heap.get?_push_size _ rfl
  · intro b hb
    show b < (h1.push _).objs.size
    rw [Heap.size_push, List.mem_singleton.mp hb]
    exact Nat.lt_succ_self _
  · intro D h' tk' ys vs hD hl' hpl hlen hP hF hkp
    exact ⟨h', tk', rfl, fin D h' ys vs (none_of_kp (Kp.push _ _) hD) (fun b o e => hkp b o (hk b o e).1 (hk b o e).2) hpl hlen (fun j v e => (hP j v e).2) hF⟩
end
end
end Mine

namespace Mine
noncomputable section
open PySem PySem.W PySem.Calls PyProof.Rows
set_option maxRecDepth 100000
set_option linter.unusedVariables false
section
variable {prog : Program} {w : World} {A : Around} {s0 : Shared} {h : Heap} {P : Value → Heap → Prop}
theorem rv_add {a b : Int} {t u : Tok} (p : ∀ t, P (.int (a + b) t) h) : Run prog w A s0 (binaryOp .Add (.int a t) (.int b u)) h P := fun _ => wpAny_add_int ⟨_, _, rfl, p _⟩
end
section
variable {prog : Program} {w : World} {A : Around} {s0 : Shared} {h : Heap} {env : Env} {P : Flow → Heap → Prop}

theorem st_nil (p : P .next h) : Run prog w A s0 (execs [] env) h P := fun tk => wpAny_execs_nil ⟨_, _, rfl, p⟩
theorem st_cons {st : Stmt} {rest : List Stmt} (r : Run prog w A s0 (exec st env) h fun f h' => match f with | .next => Run prog w A s0 (execs rest env) h' P | f => P f h') :
    Run prog w A s0 (execs (st :: rest) env) h P := fun tk => wpAny_execs_cons (r.use tk fun f h' t1 q => by
  cases f with
  | next => exact q t1
  | brk => exact ⟨_, _, rfl, q⟩
  | cont => exact ⟨_, _, rfl, q⟩
  | ret v => exact ⟨_, _, rfl, q⟩)
theorem st_ret {e : PySem.Expr} {pos : Pos} (r : Run prog w A s0 (eval e env) h fun v h' => P (.ret v) h') : Run prog w A s0 (exec (.Return (some e) pos) env) h P :=
  fun tk => wpAny_Return_some (r.use tk fun v h' t1 q => ⟨_, _, rfl, q⟩)
theorem st_if {test : PySem.Expr} {body orelse : List Stmt} {pos : Pos} (r : Run prog w A s0 (isTrue test env (eval test env)) h fun b h' => if b then Run prog w A s0 (execs body env) h' P else Run prog w A s0 (execs orelse env) h' P) :
    Run prog w A s0 (exec (.If test body orelse pos) env) h P := fun tk => wpAny_If (r.use tk fun b h' t1 q => by cases b <;> exact q t1)

/-- x = e, x a local of the frame -/
theorem st_assign {x : Str} {px pos : Pos} {value : PySem.Expr} (r : Run prog w A s0 (eval value env) h fun v h1 => ∃ m, h1.Ns env.locals m ∧ ∀ h', h'.Ns env.locals (fun y => if y = x then some v else m y) → Heap.SameBut env.locals h1 h' → P .next h')
    (hk : env.scope.kind = .function) (hx : env.kindOf x = some .local) (hs : swapsWith value (some (.Name x px)) pos.line env = pure false := by rfl) :
    Run prog w A s0 (exec (.Assign [.Name x px] value pos) env) h P := fun tk => wpAny_Assign_Name (r.use tk fun v h1 t1 q => by
  obtain ⟨m, hn, q⟩ := q
  exact wpAny_storeName_local hx hn (fun h' hn' hs' => ⟨_, _, rfl, q h' hn' hs'⟩) (by rw [hk]; rfl)) hs

/-- x = e, x a cell -/
theorem st_assignC {x : Str} {px pos : Pos} {value : PySem.Expr} {c : Addr} (r : Run prog w A s0 (eval value env) h fun v h1 => (∃ v0, h1.IsCell c v0) ∧ ∀ h', CellAt h' c v → Heap.SameBut c h1 h' → P .next h')
    (hc : env.cells.lookup x = some c) (hk : env.scope.kind = .function) (hx : env.kindOf x = some .cell) (hs : swapsWith value (some (.Name x px)) pos.line env = pure false := by rfl) :
    Run prog w A s0 (exec (.Assign [.Name x px] value pos) env) h P := fun tk => wpAny_Assign_Name (r.use tk fun v h1 t1 q => by
  obtain ⟨⟨v0, hv⟩, q⟩ := q
  exact wpAny_storeName_cell hk hx hc hv (fun h' hv' hs' => ⟨_, _, rfl, q h' hv' hs'⟩)) hs

/-- a while by an invariant over the heap and a measure -/
theorem st_while {test : PySem.Expr} {body : List Stmt} {pos : Pos} (I : Nat → Heap → Prop) (n : Nat) (h0 : I n h)
    (turn : ∀ n h, I n h → Run prog w A s0 (isTrue test env (eval test env)) h fun b h2 => if b then Run prog w A s0 (execs body env) h2 (fun f h3 => match f with
      | .next => ∃ m, m < n ∧ I m h3
      | .cont => ∃ m, m < n ∧ I m h3
      | .brk => P .next h3
      | .ret v => P (.ret v) h3) else P .next h2) :
    Run prog w A s0 (exec (.While test body [] pos) env) h P := fun tk => by
  refine wpAny_While (codeAny_whileLoop (fun n s => ∃ h t, s = { s0 with heap := h, toks := t } ∧ I n h) (fun n s hs => ?_) n ⟨h, tk, rfl, h0⟩)
  obtain ⟨h, t, rfl, hI⟩ := hs
  refine (turn n h hI).use t fun b h2 t2 q => ?_
  cases b with
  | false => exact wpAny_execs_nil ⟨_, _, rfl, q⟩
  | true =>
    refine Run.use q t2 fun f h3 t3 q3 => ?_
    cases f with
    | next => obtain ⟨m, hm, x⟩ := q3; exact ⟨m, hm, _, _, rfl, x⟩
    | cont => obtain ⟨m, hm, x⟩ := q3; exact ⟨m, hm, _, _, rfl, x⟩
    | brk => exact ⟨_, _, rfl, q3⟩
    | ret v => exact ⟨_, _, rfl, q3⟩
end
end
end Mine

namespace Mine
noncomputable section
open PySem PySem.W PySem.Calls PyProof.Rows
set_option maxRecDepth 100000
set_option linter.unusedVariables false

/-- room for n frames more -/
structure Room (A : Around) (n : Nat) : Prop where
  hd : A.handled = none
  dp : A.depth + n < 1000
  un : A.units + 10 * n < 9900
theorem Room.deeper {A : Around} {n : Nat} (r : Room A (n + 1)) (env : Env) : Room (A.deeper env) n := ⟨r.hd, by have := r.dp; show A.depth + 1 + n < 1000; lia, by have := r.un; show A.units + 3 + 10 * n < 9900; lia⟩
theorem Room.in1 {A : Around} {n : Nat} (r : Room A (n + 1)) : Room A.in1 n := ⟨r.hd, by have := r.dp; show A.depth + n < 1000; lia, by have := r.un; show A.units + 1 + 10 * n < 9900; lia⟩
theorem Room.le {A : Around} {n m : Nat} (r : Room A n) (h : m ≤ n) : Room A m := ⟨r.hd, by have := r.dp; lia, by have := r.un; lia⟩

section
variable {prog : Program} {w : World} {A : Around} {s0 : Shared} {h : Heap} {P : Value → Heap → Prop}

/-- a call of a def with cells -/
theorem run_cells {f : Addr} {o : Obj} {fd : FuncData} {body : List Stmt} {vals : List Value} {binds : List (Str × Value)} {n : Nat} (hroom : Room A n)
    (ho : h.get? f = some o) (hdata : o.data = .func fd) (hlim : h.NoLimit) (hcd : h.CodeRec fd.code fd.qualname)
    (hbody : fd.body = .stmts body) (hbind : bindArgs fd ⟨vals, []⟩ = pure binds) (hclo : fd.closure = [])
    (hkind : ∀ x ∈ binds, fd.scope.names.lookup x.1 = some .local ∨ (fd.scope.names.lookup x.1 = some .cell ∧ ((cellsFrom (h.objs.size + 1) fd.scope.names []).lookup x.1).isSome = true))
    (r : ∀ h1, Kp h h1 → h1.Ns h.objs.size (bindL (callEnvC fd h.objs.size f).kindOf binds fun _ => none) →
      (∀ n c, (callEnvC fd h.objs.size f).cells.lookup n = some c → h1.IsCell c (bindC (callEnvC fd h.objs.size f).kindOf binds (fun _ => none) n) ∧ h.get? c = none) →
      Run prog w (A.deeper (callEnvC fd h.objs.size f)) s0 (execs body (callEnvC fd h.objs.size f)) h1 fun fl h' => P (match fl with | .ret v => v | _ => .none) h')
    (hco : fd.scope.isCoroutine = false := by rfl) (hgen : fd.scope.isGenerator = false := by rfl) (hk : fd.scope.kind = .function := by rfl) :
    Run prog w A s0 (call (.ref f) vals) h P := fun tk => by
  refine wpAny_call (codeAny_call_cells (s := { s0 with heap := h, toks := tk }) (by have := hroom.dp; show A.depth < 1000; lia) ho hdata hlim hcd hbody hbind hclo hkind (fun s1 x => ?_) hco hgen hk)
  obtain ⟨⟨h1, t1, rfl⟩, hns, hkeep, hfr⟩ := x.toInCall
  refine (r h1 hkeep hns fun n c hc => ⟨x.cell n c hc, get_none_of_le (Nat.le_of_lt (x.above n c (mem_of_lookup hc)))⟩).use t1 fun fl h' tk' p => ⟨h', tk', rfl, p⟩
end

/-- the list without its k-th item -/
noncomputable def del (l : List Int) (k : Nat) : List Int := l.take k ++ l.drop (k + 1)
/-- is the k-th item the first of its value -/
noncomputable def isFst (l : List Int) (k : Nat) : Bool := !(l.take k).any (· == l.getD k 0)
noncomputable def fsts (l : List Int) : List Nat := (List.range l.length).filter (isFst l)
noncomputable def cntF : Nat → List Int → Int
  | 0, _ => 1
  | n + 1, l => 1 + ((fsts l).map fun k => cntF n (del l k)).sum
noncomputable def cnt (l : List Int) : Int := cntF l.length l
theorem del_length {l : List Int} {k : Nat} (h : k < l.length) : (del l k).length = l.length - 1 := by
  unfold del; rw [List.length_append, List.length_take, List.length_drop]; lia
theorem mem_fsts {l : List Int} {k : Nat} (h : k ∈ fsts l) : k < l.length ∧ isFst l k = true := by
  unfold fsts at h; rw [List.mem_filter, List.mem_range] at h; exact h
theorem cnt_eq (l : List Int) : cnt l = 1 + ((fsts l).map fun k => cnt (del l k)).sum := by
  unfold cnt
  cases hl : l.length with
  | zero =>
    have : l = [] := List.eq_nil_of_length_eq_zero hl
    subst this; rfl
  | succ n =>
    rw [cntF]
    congr 2
    refine List.map_congr_left fun k hk => ?_
    rw [del_length (mem_fsts hk).1, hl]; rfl

/-- what a comprehension over range(n) has made of the ints -/
theorem paired_range {p : Nat → Bool} {g : Nat → Int} {P : Value → Bool} {F : Value → Value → Prop} (hP : ∀ (i : Nat) t, P (.int i t) = p i) (hF : ∀ (i : Nat) t y, F (.int i t) y → ∃ u, y = .int (g i) u) :
    ∀ (a : Nat) (vs ys : List Value), (∀ (j : Nat) v, vs[j]? = some v → ∃ t, v = Value.int ((a + j : Nat) : Int) t) → Paired F (vs.filter P) ys → IntsAre ys ((((List.range' a vs.length).filter p)).map g) := by
  intro a vs
  induction vs generalizing a with
  | nil =>
    intro ys _ hp
    cases hp
    exact .nil
  | cons v vs ih =>
    intro ys hv hp
    obtain ⟨t, rfl⟩ := hv 0 v rfl
    have hv' : ∀ (j : Nat) v, vs[j]? = some v → ∃ t, v = Value.int ((a + 1 + j : Nat) : Int) t := fun j u hj => by
      obtain ⟨t, e⟩ := hv (j + 1) u hj
      exact ⟨t, by rw [e]; congr 2; lia⟩
    rw [List.length_cons, List.range'_succ]
    by_cases hc : p a = true
    · rw [List.filter_cons_of_pos (by rw [Nat.add_zero, hP]; exact hc)] at hp
      rw [List.filter_cons_of_pos hc, List.map_cons]
      cases hp with
      | cons h1 h2 =>
        obtain ⟨u, rfl⟩ := hF _ _ _ h1
        exact .cons _ _ (ih (a + 1) _ hv' h2)
    · rw [List.filter_cons_of_neg (by rw [Nat.add_zero, hP]; exact hc)] at hp
      rw [List.filter_cons_of_neg hc]
      exact ih (a + 1) _ hv' hp

section
variable {prog : Program} {w : World} {mg mb : Str → Option Value}

theorem count_ok : ∀ (N : Nat) (ns : List Int), ns.length = N → N ≤ 100 → ∀ (A : Around) (s0 : Shared) (h : Heap) (l : Addr), Bs w mg mb h → Room A (N + 2) → IL h l ns →
    Run prog w A s0 (call (.ref 57) [.ref l]) h fun v h' => (∃ t, v = .int (cnt ns) t) ∧ Kp h h' := by
  intro N
  induction N using Nat.strongRecOn with
  | _ N ih =>
  intro ns hN hle A s0 h l B R hl
  refine run_cells R (B.k 57 _ rfl) rfl B.nolimit (codeRec_of B.k (by rfl)) rfl (binds := [("left", .ref l)]) rfl rfl ?_ ?_
  · intro x hx
    rw [List.mem_singleton.mp hx]
    exact .inr ⟨rfl, rfl⟩
  intro h1 k1 n1 c1
  have B1 := B.kp k1
  have hl1 := hl.kp k1
  have cL : CellAt h1 (h.objs.size + 1) (.ref l) := (c1 "left" (h.objs.size + 1) rfl).1
  refine st_cons (st_ret (ev_BinOp (ev_int fun t => ev_callB1 (has_builtin B1 rfl rfl (by decide) rfl rfl rfl rfl) ?_)))
  refine ev_compR (cl := [("left", h.objs.size + 1)]) (fun v => match v with | .int i _ => isFst ns i.toNat | _ => false) (fun v y => ∃ i t u, v = .int i t ∧ y = .int (cnt (del ns i.toNat)) u) R.hd rfl ?_
  refine ev_callT1 (has_builtin B1 rfl rfl (by decide) rfl rfl rfl rfl) ?_
  refine ev_callB1 (has_builtin B1 rfl rfl (by decide) rfl rfl rfl rfl) ?_
  refine ev_Name (has_cell cL rfl rfl rfl) ?_
  refine rb_len hl1.lst (by lia) fun t2 => ?_
  refine rb_range fun r h2 u1 u2 u3 k2 _ hr => ?_
  refine ⟨r, ns.length, u1, u2, u3, rfl, hr, by lia, ⟨?_, ?_⟩, ?_⟩
  · intro s1 C i v h3 m3 hi k3 n3 hm hC
    obtain ⟨hi, t3, rfl⟩ := hi
    have k13 := k2.trans k3
    have c3 := cL.kp k13
    refine tests_one (ev_test ((pv_item (pv_Name (has_cell c3 rfl rfl rfl)) ((pv_Name (has_local n3 hm rfl rfl rfl)).mono fun v e => ⟨t3, e⟩) (hl1.kp k13) (by lia) (by lia) (by lia)).run fun v e => ?_))
    obtain ⟨t4, rfl⟩ := e
    refine ev_upto (pv_Name (has_cell c3 rfl rfl rfl)) ((pv_Name (has_local n3 hm rfl rfl rfl)).mono fun v e => ⟨t3, e⟩) (hl1.kp k13).lst (by lia) (by lia) fun l' h4 k4 _ hl' => ?_
    refine rl_notin hl' ⟨_, rfl, ?_, k4⟩
    simp [isFst]
  · intro s1 C i v h3 m3 hi hp k3 n3 hm hC
    obtain ⟨hi, t3, rfl⟩ := hi
    have k13 := k2.trans k3
    have c3 := cL.kp k13
    have B3 := B1.kp k13
    refine ev_call1 (has_global B3 rfl rfl rfl rfl) ⟨_, _, B3.k 57 _ rfl, rfl⟩ (ev_BinOp ?_)
    refine ev_upto (pv_Name (has_cell c3 rfl rfl rfl)) ((pv_Name (has_local n3 hm rfl rfl rfl)).mono fun v e => ⟨t3, e⟩) (hl1.kp k13).lst (by lia) (by lia) fun l' h4 k4 _ hl' => ?_
    refine ev_from (pv_Name (has_cell (c3.kp k4) rfl rfl rfl)) (pv_add ((pv_Name (has_local (ns_kp n3 k4) hm rfl rfl rfl)).mono fun v e => ⟨t3, e⟩) pv_int) ((hl1.kp k13).kp k4).lst (by lia) (by lia) fun l'' h5 k5 _ hl'' => ?_
    refine rl_add (hl'.kp k5) hl'' (by simp only [List.length_take, List.length_drop]; lia) fun l3 h6 k6 _ hl3 => ?_
    refine ⟨(k4.trans k5).trans k6, ?_⟩
    have e : ns.take (i : Int).toNat ++ ns.drop ((i : Int) + 1).toNat = del ns i := by unfold del; congr 2
    rw [e] at hl3
    have hd := del_length hi
    refine (ih (ns.length - 1) (by lia) (del ns i) hd (by lia) _ s1 h6 l3 (B3.kp ((k4.trans k5).trans k6)) ((R.le (by lia) : Room A (ns.length - 1 + 2 + 1)).deeper _) hl3).mono fun v h7 q => ?_
    obtain ⟨⟨t7, rfl⟩, k7⟩ := q
    exact ⟨⟨i, t3, t7, rfl, rfl⟩, (((k4.trans k5).trans k6).trans k7)⟩
  · intro D h' ys vs hD k3 hpl hlen hvs hpair
    have hi : IntsAre ys.toList ((fsts ns).map fun k => cnt (del ns k)) := by
      have := paired_range (p := isFst ns) (g := fun k => cnt (del ns k)) (fun i t => by simp) (fun i t y q => by
        obtain ⟨j, t', u, e, rfl⟩ := q
        cases e
        exact ⟨u, rfl⟩) 0 vs ys.toList (fun j v e => by simpa using hvs j v e) hpair
      rw [hlen] at this
      simpa [fsts, List.range_eq_range'] using this
    obtain ⟨n, hD'⟩ := hpl
    refine rb_sum R.hd ⟨ys.toList, ⟨_, hD', rfl, n, rfl⟩, hi⟩ fun t4 h4 k4 => ?_
    refine rv_add fun t5 => ⟨⟨t5, by rw [cnt_eq]⟩, k1.trans (k2.trans (k3.trans k4))⟩
end
end
end Mine

namespace Mine
noncomputable section
open PySem PySem.W PySem.Calls PyProof.Rows
set_option maxRecDepth 100000
set_option linter.unusedVariables false

/-- every object but those of X stands -/
noncomputable def KpX (X : List Addr) (h h' : Heap) : Prop := ∀ b o, b ∉ X → h.get? b = some o → h'.get? b = some o
theorem Kp.x {h h' : Heap} (k : Kp h h') (X : List Addr) : KpX X h h' := fun b o _ e => k b o e
theorem KpX.refl (X : List Addr) (h : Heap) : KpX X h h := fun _ _ _ e => e
theorem KpX.trans {X : List Addr} {a b c : Heap} (x : KpX X a b) (y : KpX X b c) : KpX X a c := fun q o n e => y q o n (x q o n e)
theorem KpX.mono {X Y : List Addr} {a b : Heap} (x : KpX X a b) (s : ∀ q ∈ X, q ∈ Y) : KpX Y a b := fun q o n e => x q o (fun m => n (s q m)) e
theorem same_x {L : Addr} {h h' : Heap} (s : Heap.SameBut L h h') {X : List Addr} (hL : L ∈ X) : KpX X h h' := fun b o n e => s.extBut b o (fun q => n (q ▸ hL)) e

/-- an iterator stands at I -/
noncomputable def IterAt (h : Heap) (I : Addr) : Prop := ∃ o, h.get? I = some o ∧ (o.cls = .type "list_iterator" ∨ o.cls = .type "range_iterator")

section
variable {prog : Program} {w : World} {A : Around} {s0 : Shared} {h : Heap} {env : Env} {P : Flow → Heap → Prop}

theorem st_for {x : Str} {px pos : Pos} {iter : PySem.Expr} {body : List Stmt} (mt : List Addr) (hL : env.locals ∈ mt)
    (hk : env.scope.kind = .function) (hx : env.kindOf x = some .local)
    (src : Run prog w A s0 (eval iter env) h fun xv h1 => Run prog w A s0 (pyIter xv) h1 fun it h2 => ∃ (I : Addr) (fp : List Addr) (n : Nat) (Pi : Nat → Value → Prop) (St : Nat → Heap → Prop) (J : Nat → (Str → Option Value) → Heap → Prop) (m : Str → Option Value),
      it = .ref I ∧ Walks prog w A I fp [I] n Pi St ∧ St 0 h2 ∧ (∀ b ∈ mt, b ∉ fp) ∧ (∀ i h, St i h → IterAt h I) ∧ J 0 m h2 ∧ h2.Ns env.locals m ∧
      (∀ i m h h', J i m h → IterAt h I → KpX [I] h h' → J i m h') ∧
      (∀ i v ha hb m, i < n → Pi i v → J i m ha → ha.Ns env.locals m → hb.Ns env.locals (fun y => if y = x then some v else m y) → Heap.SameBut env.locals ha hb →
        Run prog w A s0 (execs body env) hb fun f hc => (f = .next ∨ f = .cont) ∧ KpX mt hb hc ∧ ∃ m', hc.Ns env.locals m' ∧ J (i + 1) m' hc) ∧
      (∀ m h', J n m h' → h'.Ns env.locals m → P .next h'))
    (hs : ∀ x, foldedSetIterable iter env x = pure x := by intro _; rfl) :
    Run prog w A s0 (exec (.For (.Name x px) iter body [] pos) env) h P := fun tk => by
  refine wpAny_For (src.use tk fun xv h1 t1 q1 => q1.use t1 fun it h2 t2 q2 => ?_) hs
  obtain ⟨I, fp, n, Pi, St, J, m, rfl, W, hst, hmut, hit, hj, hn, pres, turn, fin⟩ := q2
  refine codeAny_forLoop (fun k s => ∃ h' tk' i m', s = { s0 with heap := h', toks := tk' } ∧ i ≤ n ∧ k = n - i ∧ St i h' ∧ h'.Ns env.locals m' ∧ J i m' h') ?_ n ⟨h2, t2, 0, m, rfl, Nat.zero_le _, rfl, hst, hn, hj⟩
  rintro k s ⟨h', tk', i, m', rfl, hi, rfl, hst', hn', hj'⟩
  have hIfp : I ∈ fp := W.sub I (List.mem_singleton.mpr rfl)
  have hLI : env.locals ≠ I := fun e => hmut _ hL (e ▸ hIfp)
  by_cases hlt : i < n
  · refine W.item i _ _ _ hlt hst' fun v h3 t3 hv hst3 hk3 => ?_
    have n3 : h3.Ns env.locals m' := hn'.at' fun o e => hk3 _ o (by simpa using hLI) e
    have j3 : J i m' h3 := pres i m' h' h3 hj' (hit _ _ hst') fun b o hb e => hk3 b o hb e
    refine wpAny_assign_Name (wpAny_storeName_local hx n3 (fun h4 n4 s4 => ?_) (by rw [hk]; rfl))
    refine (turn i v h3 h4 m' hlt hv j3 n3 n4 s4).use _ fun f h5 t5 q5 => ?_
    obtain ⟨hf, hkx, m5, n5, j5⟩ := q5
    have hst5 : St (i + 1) h5 := W.frame _ _ _ hst3 fun b hb o e => hkx b o (fun hm => hmut b hm hb) (s4.extBut b o (fun q => hmut _ hL (q ▸ hb)) e)
    have res : ∃ m, m < n - i ∧ ∃ h' tk' i m', ({ s0 with heap := h5, toks := t5 } : Shared) = { s0 with heap := h', toks := tk' } ∧ i ≤ n ∧ m = n - i ∧ St i h' ∧ h'.Ns env.locals m' ∧ J i m' h' :=
      ⟨n - (i + 1), by lia, h5, t5, i + 1, m5, rfl, hlt, rfl, hst5, n5, j5⟩
    rcases hf with rfl | rfl
    · exact res
    · exact res
  · obtain rfl : i = n := Nat.le_antisymm hi (Nat.not_lt.mp hlt)
    refine W.done _ _ _ hst' fun h3 t3 hk3 => ?_
    exact wpAny_execs_nil ⟨_, _, rfl, fin m' h3 (pres i m' h' h3 hj' (hit _ _ hst') fun b o hb e => hk3 b o hb e) (hn'.at' fun o e => hk3 _ o (by simpa using hLI) e)⟩

/-- for x in range(n) -/
theorem st_forR {x : Str} {px pos : Pos} {iter : PySem.Expr} {body : List Stmt} (hh : A.handled = none) (mt : List Addr) (hL : env.locals ∈ mt)
    (hk : env.scope.kind = .function) (hx : env.kindOf x = some .local)
    (src : Run prog w A s0 (eval iter env) h fun xv h1 => ∃ (r : Addr) (n : Nat) (t1 t2 t3 : Tok) (J : Nat → (Str → Option Value) → Heap → Prop) (m : Str → Option Value),
      xv = .ref r ∧ IsRange h1 r 0 n 1 t1 t2 t3 ∧ n ≤ 2 ^ 20 ∧ (∀ b ∈ mt, ∃ o, h1.get? b = some o) ∧ (∀ h', Kp h1 h' → J 0 m h') ∧ h1.Ns env.locals m ∧
      (∀ i m h h' I, h1.get? I = none → J i m h → IterAt h I → KpX [I] h h' → J i m h') ∧
      (∀ (i : Nat) t ha hb m, i < n → J i m ha → ha.Ns env.locals m → hb.Ns env.locals (fun y => if y = x then some (.int i t) else m y) → Heap.SameBut env.locals ha hb →
        Run prog w A s0 (execs body env) hb fun f hc => (f = .next ∨ f = .cont) ∧ KpX mt hb hc ∧ ∃ m', hc.Ns env.locals m' ∧ J (i + 1) m' hc) ∧
      (∀ m h', J n m h' → h'.Ns env.locals m → P .next h'))
    (hs : ∀ x, foldedSetIterable iter env x = pure x := by intro _; rfl) :
    Run prog w A s0 (exec (.For (.Name x px) iter body [] pos) env) h P := by
  refine st_for mt hL hk hx (src.mono fun xv h1 q => ?_) hs
  obtain ⟨r, n, u1, u2, u3, J, m, rfl, hr, hsz, hmut, hj, hn, pres, turn, fin⟩ := q
  intro tk
  refine wpAny_pyIter_range (s := { s0 with heap := h1, toks := tk }) hr (small_one (by lia) (by lia) (by lia) (by lia)) ⟨_, _, rfl, ?_⟩
  have e : Builtin.Range.rangeSize 0 (n : Int) 1 = (n : Int) - (0 : Nat) := by
    rw [rangeSize_one]; split <;> lia
  refine ⟨_, _, _, _, _, J, m, rfl, LCg.range_walks hh 0 n, ?_, ?_, ?_, hj _ (Kp.push _ _), ns_kp hn (Kp.push _ _), fun i m h h' => pres i m h h' _ (get_none_of_le (Nat.le_refl _)), ?_, fin⟩
  · show IsRangeIter (h1.push { cls := .type "range_iterator", data := .fields #[rawInt 0, rawInt (Builtin.Range.rangeSize 0 n 1), rawInt 1] }) h1.objs.size (0 + ((0 : Nat) : Int) * 1) ((n : Int) - (0 : Nat)) 1
    rw [e]
    exact Heap.get?_push_size _ rfl
  · intro b hb hb'
    obtain ⟨o, ho⟩ := hmut b hb
    rw [List.mem_singleton.mp hb'] at ho
    exact Nat.lt_irrefl _ (Heap.lt_size ho)
  · intro i h st
    exact ⟨_, st, .inr rfl⟩
  · intro i v ha hb m hi hv
    obtain ⟨t, rfl⟩ := hv
    rw [Int.zero_add]
    exact turn i t ha hb m hi

/-- for x in l -/
theorem st_forL {x : Str} {px pos : Pos} {iter : PySem.Expr} {body : List Stmt} (hh : A.handled = none) (mt : List Addr) (hL : env.locals ∈ mt)
    (hk : env.scope.kind = .function) (hx : env.kindOf x = some .local)
    (src : Run prog w A s0 (eval iter env) h fun xv h1 => ∃ (l : Addr) (items : Array Value) (J : Nat → (Str → Option Value) → Heap → Prop) (m : Str → Option Value),
      xv = .ref l ∧ h1.IsList l items ∧ l ∉ mt ∧ (∀ b ∈ mt, ∃ o, h1.get? b = some o) ∧ (∀ h', Kp h1 h' → J 0 m h') ∧ h1.Ns env.locals m ∧
      (∀ i m h h' I, h1.get? I = none → J i m h → IterAt h I → KpX [I] h h' → J i m h') ∧
      (∀ (i : Nat) v ha hb m, items[i]? = some v → J i m ha → ha.Ns env.locals m → hb.Ns env.locals (fun y => if y = x then some v else m y) → Heap.SameBut env.locals ha hb →
        Run prog w A s0 (execs body env) hb fun f hc => (f = .next ∨ f = .cont) ∧ KpX mt hb hc ∧ ∃ m', hc.Ns env.locals m' ∧ J (i + 1) m' hc) ∧
      (∀ m h', J items.size m h' → h'.Ns env.locals m → P .next h'))
    (hs : ∀ x, foldedSetIterable iter env x = pure x := by intro _; rfl) :
    Run prog w A s0 (exec (.For (.Name x px) iter body [] pos) env) h P := by
  refine st_for mt hL hk hx (src.mono fun xv h1 q => ?_) hs
  obtain ⟨l, items, J, m, rfl, hl, hlm, hmut, hj, hn, pres, turn, fin⟩ := q
  intro tk
  refine wpAny_pyIter_list (s := { s0 with heap := h1, toks := tk }) hl ⟨_, _, rfl, ?_⟩
  have hlt : l < h1.objs.size := by obtain ⟨o, ho, _⟩ := hl; exact Heap.lt_size ho
  refine ⟨_, _, _, _, _, J, m, rfl, Walks.list hh h1.objs.size l (Nat.ne_of_lt hlt) items, ⟨⟨_, Heap.get?_push_size _ rfl, rfl, rfl⟩, hl.push _⟩, ?_, ?_, hj _ (Kp.push _ _), ns_kp hn (Kp.push _ _), fun i m h h' => pres i m h h' _ (get_none_of_le (Nat.le_refl _)), ?_, fin⟩
  · intro b hb hb'
    rcases List.mem_cons.mp hb' with e | hb'
    · obtain ⟨o, ho⟩ := hmut b hb
      rw [e] at ho
      exact Nat.lt_irrefl _ (Heap.lt_size ho)
    · rw [List.mem_singleton.mp hb'] at hb; exact hlm hb
  · intro i h st
    obtain ⟨o, ho, hc, _⟩ := st.1
    exact ⟨o, ho, .inl hc⟩
  · intro i v ha hb m hi hv
    exact turn i v ha hb m hv

/-- a call of a def without cells -/
theorem run_plain {P : Value → Heap → Prop} {f : Addr} {o : Obj} {name : Str} {params : Arguments} {body : List Stmt} {scope : Scope} {pm cd doc : Value} {vals : List Value} {binds : List (Str × Value)} {n : Nat} (hroom : Room A n)
    (ho : h.get? f = some o) (hdata : o.data = .func (docDef name params body scope pm cd doc)) (hlim : h.NoLimit) (hcd : h.CodeRec cd name)
    (hbind : bindArgs (docDef name params body scope pm cd doc) ⟨vals, []⟩ = pure binds)
    (hloc : ∀ x ∈ binds, scope.names.lookup x.1 = some .local)
    (r : ∀ h1, Kp h h1 → h1.Ns h.objs.size (fun x => binds.reverse.lookup x) →
      Run prog w (A.deeper (envOf name scope h.objs.size f cd)) s0 (execs body (envOf name scope h.objs.size f cd)) h1 fun fl h' => P (match fl with | .ret v => v | _ => .none) h')
    (hco : scope.isCoroutine = false := by rfl) (hgen : scope.isGenerator = false := by rfl) (hk : scope.kind = .function := by rfl)
    (hcell : ∀ x ∈ scope.names, x.2 ≠ .cell := by decide) :
    Run prog w A s0 (call (.ref f) vals) h P := fun tk => by
  refine wpAny_call (call_plain (s := { s0 with heap := h, toks := tk }) (by have := hroom.dp; show A.depth < 1000; lia) ho hdata hlim hcd hbind hloc (fun h1 F => ?_) hco hgen hk hcell)
  exact (r h1 F.keep F.ns).use _ fun fl h' tk' p => ⟨h', tk', rfl, p⟩
end
end
end Mine

namespace Mine
noncomputable section
open PySem PySem.W PySem.Calls PyProof.Rows
set_option maxRecDepth 100000
set_option linter.unusedVariables false
section
variable {prog : Program} {w : World} {A : Around} {s0 : Shared} {h : Heap} {env : Env}

theorem st_expr {P : Flow → Heap → Prop} {e : PySem.Expr} {pos : Pos} (r : Run prog w A s0 (eval e env) h fun v h' => v = .none ∧ P .next h')
    (hi : interactive env = false := by rfl) (hs : swapsWith e none pos.line env = pure false := by rfl) : Run prog w A s0 (exec (.Expr e pos) env) h P :=
  fun tk => wpAny_Expr (r.use tk fun v h' t1 q => by obtain ⟨rfl, q⟩ := q; exact ⟨_, _, rfl, q⟩) hi hs

variable {P : Value → Heap → Prop}
theorem rb_newList {vs : List Value} (hsz : vs.length ≤ 2 ^ 20) (p : ∀ l h', Kp h h' → h.get? l = none → IsL h' l vs.toArray 0 → P (.ref l) h') : Run prog w A s0 (newList vs) h P := fun tk =>
  wpAny_newObj_type ⟨_, _, rfl, p _ _ (Kp.push _ _) (get_none_of_le (Nat.le_refl _)) (Heap.get?_push_size _ rfl)⟩ (by show vs.toArray.size ≤ sizeLine; rw [List.size_toArray, sizeLine_eq]; lia)

theorem ev_list0 {pos : Pos} (r : Run prog w A s0 (newList []) h P) : Run prog w A s0 (eval (.List [] pos) env) h P := fun tk => List_ (args_nil (r tk))
theorem ev_list1 {e : PySem.Expr} {pos : Pos} (r : Run prog w A s0 (eval e env) h fun v h1 => Run prog w A s0 (newList [v]) h1 P) (he : starEach [e] env = (false, eval e env) :: starEach [] env := by rfl) :
    Run prog w A s0 (eval (.List [e] pos) env) h P := fun tk => List_ (args_cons (r.use tk fun v h1 t1 q => args_nil (q t1)) he)
theorem ev_list2 {e e' : PySem.Expr} {pos : Pos} (r : Run prog w A s0 (eval e env) h fun v h1 => Run prog w A s0 (eval e' env) h1 fun v' h2 => Run prog w A s0 (newList [v, v']) h2 P)
    (he : starEach [e, e'] env = (false, eval e env) :: starEach [e'] env := by rfl) (he' : starEach [e'] env = (false, eval e' env) :: starEach [] env := by rfl) :
    Run prog w A s0 (eval (.List [e, e'] pos) env) h P := fun tk => List_ (args_cons (r.use tk fun v h1 t1 q => args_cons (q.use t1 fun v' h2 t2 q' => args_nil (q' t2)) he') he)

/-- l.name(e), l a plain list -/
theorem ev_methL1 {o e : PySem.Expr} {name : Str} {apos pos : Pos} {id : String} (slot : Slot "list" name id) (hty : typeOf (.builtin id) = pure (.type "method_descriptor"))
    (r : Run prog w A s0 (eval o env) h fun ov h1 => ∃ l items n, ov = .ref l ∧ IsL h1 l items n ∧ Run prog w A s0 (eval e env) h1 fun v h2 => Run prog w A s0 (call (.builtin id) [.ref l, v]) h2 P)
    (hbase : attributeBase o name env (eval o env) = eval o env := by rfl) (hline : (apos.endLine == pos.line) = true := by rfl)
    (hs : starEach [e] env = [(false, eval e env)] := by rfl) :
    Run prog w A s0 (eval (.Call (.Attribute o name apos) [e] [] pos) env) h P := fun tk => by
  have ht : backTo pos (starEach [e] env) = [(false, eval e env)] := by rw [hs]; rfl
  refine wpAny_Call_method hbase (by rw [ht]; rfl) hline PySem.F.plainAttrs_list slot hty (r.use tk fun ov h1 t1 q => ?_)
  obtain ⟨l, items, n, rfl, hl, q⟩ := q
  refine ⟨⟨_, hl, rfl⟩, fun a e => by cases e; exact ⟨_, hl, rfl⟩, ?_⟩
  rw [ht]
  exact callWith_builtin rfl (evalArgs_plain (spliced_cons (q.use t1 fun v h2 t2 q' => spliced_nil (q' t2))))

/-- s.name(e), s a str -/
theorem ev_methS1 {o e : PySem.Expr} {name : Str} {apos pos : Pos} {id : String} (slot : Slot "str" name id) (hty : typeOf (.builtin id) = pure (.type "method_descriptor"))
    (r : Run prog w A s0 (eval o env) h fun ov h1 => ∃ x t, ov = .str x t ∧ Run prog w A s0 (eval e env) h1 fun v h2 => Run prog w A s0 (call (.builtin id) [.str x t, v]) h2 P)
    (hbase : attributeBase o name env (eval o env) = eval o env := by rfl) (hline : (apos.endLine == pos.line) = true := by rfl)
    (hs : starEach [e] env = [(false, eval e env)] := by rfl) :
    Run prog w A s0 (eval (.Call (.Attribute o name apos) [e] [] pos) env) h P := fun tk => by
  have ht : backTo pos (starEach [e] env) = [(false, eval e env)] := by rw [hs]; rfl
  refine wpAny_Call_method hbase (by rw [ht]; rfl) hline PySem.F.plainAttrs_str slot hty (r.use tk fun ov h1 t1 q => ?_)
  obtain ⟨x, t, rfl, q⟩ := q
  refine ⟨rfl, fun a e => (nomatch e), ?_⟩
  rw [ht]
  exact callWith_builtin rfl (evalArgs_plain (spliced_cons (q.use t1 fun v h2 t2 q' => spliced_nil (q' t2))))

theorem rb_append {l : Addr} {vs : List Value} {n : Nat} {x : Value} (hl : IsL h l vs.toArray n) (hsz : vs.length ≤ 2 ^ 20) (p : ∀ h' n', IsL h' l (vs ++ [x]).toArray n' → Heap.SameBut l h h' → P .none h') :
    Run prog w A s0 (call (.builtin "list.append") [.ref l, x]) h P := fun tk => by
  refine wpAny_list_append_plain (hsz := by rw [List.size_toArray, sizeLine_eq]; lia) (⟨n, hl⟩ : h.PlainList l vs.toArray) fun h' hp hs => ?_
  obtain ⟨n', hp⟩ := hp
  refine ⟨_, _, rfl, p h' n' ?_ hs⟩
  rw [show (vs ++ [x]).toArray = vs.toArray.push x by simp]
  exact hp
end
end
end Mine

namespace Mine
noncomputable section
open PySem PySem.W PySem.Calls PyProof.Rows
set_option maxRecDepth 100000
set_option linter.unusedVariables false

/-- these values are plain lists of ints -/
inductive RowsAre (h : Heap) : List Value → List (List Int) → Prop
  | nil : RowsAre h [] []
  | cons {a : Addr} {r : List Int} {vs : List Value} {rs : List (List Int)} : IL h a r → RowsAre h vs rs → RowsAre h (.ref a :: vs) (r :: rs)
theorem RowsAre.length {h : Heap} {vs : List Value} {rs : List (List Int)} (x : RowsAre h vs rs) : vs.length = rs.length := by
  induction x with
  | nil => rfl
  | cons _ _ ih => rw [List.length_cons, List.length_cons, ih]
theorem IL.kpx {h h' : Heap} {X : List Addr} {a : Addr} {r : List Int} (x : IL h a r) (k : KpX X h h') (hX : ∀ b ∈ X, ¬ IL h b r) : IL h' a r := by
  obtain ⟨vs, n, e, i⟩ := id x
  exact ⟨vs, n, k a _ (fun m => hX a m x) e, i⟩
theorem RowsAre.kpx {h h' : Heap} {X : List Addr} {vs : List Value} {rs : List (List Int)} (x : RowsAre h vs rs) (k : KpX X h h') (hX : ∀ b ∈ X, ∀ r, ¬ IL h b r) : RowsAre h' vs rs := by
  induction x with
  | nil => exact .nil
  | cons i _ ih => exact .cons (i.kpx k fun b m => hX b m _) ih
theorem RowsAre.kp {h h' : Heap} {vs : List Value} {rs : List (List Int)} (x : RowsAre h vs rs) (k : Kp h h') : RowsAre h' vs rs := x.kpx (k.x []) (fun _ m => nomatch m)
theorem RowsAre.snoc {h : Heap} {vs : List Value} {rs : List (List Int)} {a : Addr} {r : List Int} (x : RowsAre h vs rs) (i : IL h a r) : RowsAre h (vs ++ [.ref a]) (rs ++ [r]) := by
  induction x with
  | nil => exact .cons i .nil
  | cons j _ ih => exact .cons j ih
theorem RowsAre.at {h : Heap} {vs : List Value} {rs : List (List Int)} (x : RowsAre h vs rs) : ∀ {i : Nat} {v : Value}, vs[i]? = some v → ∃ a r, v = .ref a ∧ rs[i]? = some r ∧ IL h a r := by
  induction x with
  | nil => intro i v e; simp at e
  | cons j _ ih =>
    intro i v e
    cases i with
    | zero => simp at e; exact ⟨_, _, e.symm, rfl, j⟩
    | succ i => exact ih (by simpa using e)

/-- a plain list of plain lists of ints -/
noncomputable def LL (h : Heap) (D : Addr) (rs : List (List Int)) : Prop := ∃ vs n, IsL h D vs.toArray n ∧ RowsAre h vs rs
theorem LL.kp {h h' : Heap} {D : Addr} {rs : List (List Int)} (x : LL h D rs) (k : Kp h h') : LL h' D rs := let ⟨vs, n, a, b⟩ := x; ⟨vs, n, k _ _ a, b.kp k⟩
theorem LL.kpx {h h' : Heap} {X : List Addr} {D : Addr} {rs : List (List Int)} (x : LL h D rs) (k : KpX X h h') (hD : D ∉ X) (hX : ∀ b ∈ X, ∀ r, ¬ IL h b r) : LL h' D rs :=
  let ⟨vs, n, a, b⟩ := x; ⟨vs, n, k _ _ hD a, b.kpx k hX⟩
theorem LL.notil {h : Heap} {D : Addr} {r : List Int} {rs : List (List Int)} (x : LL h D (r :: rs)) (q : List Int) : ¬ IL h D q := by
  rintro ⟨us, n', e', i⟩
  obtain ⟨vs, n, e, b⟩ := x
  rw [IsL, e] at e'
  cases b with
  | cons _ _ =>
    have := Option.some.inj e'
    simp only [Obj.mk.injEq, Data.seq.injEq] at this
    have h1 := congrArg Array.toList this.2.2.1.1
    simp only at h1
    rw [← h1] at i
    cases i
theorem notil_ns {h : Heap} {L : Addr} {m : Str → Option Value} (n : h.Ns L m) (q : List Int) : ¬ IL h L q := by
  rintro ⟨us, n', e', i⟩
  obtain ⟨o, es, ep, ho, hd, _⟩ := n
  rw [IsL, ho] at e'
  cases e'
  cases hd
theorem notil_iter {h : Heap} {I : Addr} (x : IterAt h I) (q : List Int) : ¬ IL h I q := by
  rintro ⟨us, n', e', i⟩
  obtain ⟨o, ho, hc⟩ := x
  rw [IsL, ho] at e'
  cases e'
  rcases hc with hc | hc <;> exact absurd (Value.type.inj hc) (by decide)
theorem isL_ne_iter {h : Heap} {I D : Addr} {items : Array Value} {n : Nat} (x : IterAt h I) (y : IsL h D items n) : D ≠ I := by
  rintro rfl
  obtain ⟨o, ho, hc⟩ := x
  rw [IsL, ho] at y
  cases y
  rcases hc with hc | hc <;> exact absurd (Value.type.inj hc) (by decide)
theorem isL_ne_ns {h : Heap} {L D : Addr} {items : Array Value} {n : Nat} {m : Str → Option Value} (x : h.Ns L m) (y : IsL h D items n) : D ≠ L := by
  rintro rfl
  obtain ⟨o, es, ep, ho, hd, _⟩ := x
  rw [IsL, ho] at y
  cases y
  cases hd

noncomputable def rowsF : Nat → List Int → List (List Int)
  | 0, _ => [[]]
  | n + 1, l => [] :: (fsts l).flatMap fun k => (rowsF n (del l k)).map (l.getD k 0 :: ·)
noncomputable def rows (l : List Int) : List (List Int) := rowsF l.length l
/-- the rows of the first i places -/
noncomputable def part (l : List Int) (i : Nat) : List (List Int) := ((List.range i).filter (isFst l)).flatMap fun k => (rows (del l k)).map (l.getD k 0 :: ·)
theorem rows_eq (l : List Int) : rows l = [] :: part l l.length := by
  unfold rows part
  cases hl : l.length with
  | zero =>
    have : l = [] := List.eq_nil_of_length_eq_zero hl
    subst this; rfl
  | succ n =>
    rw [rowsF]
    congr 1
    have e : fsts l = (List.range (n + 1)).filter (isFst l) := by unfold fsts; rw [hl]
    rw [← e, List.flatMap_def, List.flatMap_def]
    congr 1
    refine List.map_congr_left fun k hk => ?_
    rw [rows, del_length (mem_fsts hk).1, hl]; rfl
theorem part_zero (l : List Int) : part l 0 = [] := rfl
theorem part_succ (l : List Int) (i : Nat) : part l (i + 1) = part l i ++ if isFst l i then (rows (del l i)).map (l.getD i 0 :: ·) else [] := by
  unfold part
  rw [List.range_succ, List.filter_append, List.flatMap_append]
  congr 1
  by_cases hc : isFst l i = true
  · simp [hc]
  · simp [hc]

noncomputable def rbound : Nat → Nat
  | 0 => 1
  | n + 1 => 1 + (n + 1) * rbound n
theorem part_len (l : List Int) (B : Nat) (hB : ∀ k, k < l.length → (rows (del l k)).length ≤ B) : ∀ i, i ≤ l.length → (part l i).length ≤ i * B := by
  intro i
  induction i with
  | zero => intro _; simp [part]
  | succ i ih =>
    intro hi
    rw [part_succ, List.length_append, Nat.succ_mul]
    have h1 := ih (by lia)
    have h2 := hB i (by lia)
    split
    · rw [List.length_map]; lia
    · simp only [List.length_nil]; lia
theorem rows_len : ∀ (N : Nat) (l : List Int), l.length = N → (rows l).length ≤ rbound N := by
  intro N
  induction N with
  | zero =>
    intro l hl
    rw [rows_eq, List.length_cons, hl, part_zero]; exact Nat.le_refl _
  | succ N ih =>
    intro l hl
    have := part_len l (rbound N) (fun k hk => ih _ (by rw [del_length hk, hl]; rfl)) l.length (Nat.le_refl _)
    rw [rows_eq, List.length_cons, rbound, ← hl]
    lia

theorem mem_part {l : List Int} {i : Nat} {r : List Int} (h : r ∈ part l i) : ∃ k r', k < i ∧ isFst l k = true ∧ r' ∈ rows (del l k) ∧ r = l.getD k 0 :: r' := by
  unfold part at h
  obtain ⟨k, hk, hr⟩ := List.mem_flatMap.mp h
  obtain ⟨r', hr', rfl⟩ := List.mem_map.mp hr
  rw [List.mem_filter, List.mem_range] at hk
  exact ⟨k, r', hk.1, hk.2, hr', rfl⟩
theorem rows_mem_len : ∀ (N : Nat) (l : List Int), l.length = N → ∀ r ∈ rows l, r.length ≤ N := by
  intro N
  induction N using Nat.strongRecOn with
  | _ N ih =>
    intro l hl r hr
    rw [rows_eq] at hr
    rcases List.mem_cons.mp hr with rfl | hr
    · exact Nat.zero_le _
    · obtain ⟨k, r', hk, _, hr', rfl⟩ := mem_part hr
      have hd := del_length hk
      have := ih (l.length - 1) (by lia) (del l k) hd r' hr'
      rw [List.length_cons]; lia

/-- what _law_rows hands back -/
inductive RowsOut (h : Heap) (ns : List Int) (v : Value) (h' : Heap) : Prop
  | mk : (∃ D, v = .ref D ∧ h.get? D = none ∧ LL h' D (rows ns)) → Kp h h' → RowsOut h ns v h'
/-- the outer loop -/
inductive RowsI (h : Heap) (l D : Addr) (ns : List Int) (i : Nat) (m : Str → Option Value) (hc : Heap) : Prop
  | mk : Kp h hc → m "left" = some (.ref l) → m "rows" = some (.ref D) → LL hc D ([] :: part ns i) → RowsI h l D ns i m hc
/-- the inner loop -/
inductive RowsJ (h hb : Heap) (l D : Addr) (ns : List Int) (vs' : List Value) (i j : Nat) (m : Str → Option Value) (hc : Heap) : Prop
  | mk : Kp h hc → m "left" = some (.ref l) → m "rows" = some (.ref D) → (∃ t, m "k" = some (.int i t)) → RowsAre hc vs' (rows (del ns i)) → KpX [h.objs.size, D] hb hc →
      LL hc D (([] :: part ns i) ++ ((rows (del ns i)).take j).map (ns.getD i 0 :: ·)) → RowsJ h hb l D ns vs' i j m hc

section
variable {prog : Program} {w : World} {mg mb : Str → Option Value}

theorem rows_ok : ∀ (N : Nat) (ns : List Int), ns.length = N → N ≤ 8 → ∀ (A : Around) (s0 : Shared) (h : Heap) (l : Addr), Bs w mg mb h → Room A (N + 2) → IL h l ns →
    Run prog w A s0 (call (.ref 52) [.ref l]) h (RowsOut h ns) := by
  intro N
  induction N using Nat.strongRecOn with
  | _ N ih =>
  intro ns hN hle A s0 h l B R hl
  refine run_plain R (B.k 52 _ rfl) rfl B.nolimit (codeRec_of B.k (by rfl)) (binds := [("left", .ref l)]) rfl ?_ ?_
  · intro x hx
    rw [List.mem_singleton.mp hx]
    rfl
  intro h1 k1 n1
  refine st_cons (st_assign (ev_list1 (ev_list0 (rb_newList (by simp) fun a h2 k2 _ ha => rb_newList (by simp) fun D h3 k3 hD hD3 => ?_))) rfl rfl)
  have k13 := k2.trans k3
  refine ⟨_, ns_kp n1 k13, fun h4 n4 s4 => ?_⟩
  have hDL : D ≠ h.objs.size := isL_ne_ns (ns_kp n1 k13) hD3
  have hh4 : Kp h h4 := fun b o e => s4.extBut b o (Nat.ne_of_lt (Heap.lt_size e)) (k13 _ _ (k1 _ _ e))
  have hD0 : h.get? D = none := none_of_kp (k1.trans k2) hD
  have hLL4 : LL h4 D [[]] := by
    have : LL h3 D [[]] := ⟨[.ref a], 0, hD3, .cons ⟨[], 0, k3 _ _ ha, .nil⟩ .nil⟩
    refine this.kpx (same_x s4 (List.mem_singleton.mpr rfl)) (fun q => hDL (List.mem_singleton.mp q)) fun b hb r => ?_
    rw [List.mem_singleton.mp hb]; exact notil_ns (ns_kp n1 k13) r
  have B4 := B.kp hh4
  have hl4 := hl.kp hh4
  have hr7 : ∀ n, n ≤ 7 → rbound n ≤ 2 ^ 14 := by decide
  refine st_cons (st_forR R.hd [h.objs.size, D] (List.mem_cons_self ..) rfl rfl ?_)
  refine ev_callT1 (has_builtin B4 rfl rfl (by decide) rfl rfl rfl rfl) ?_
  refine ev_callB1 (has_builtin B4 rfl rfl (by decide) rfl rfl rfl rfl) ?_
  refine ev_Name (has_local n4 rfl rfl rfl rfl) ?_
  refine rb_len hl4.lst (by lia) fun t2 => ?_
  refine rb_range fun r h5 u1 u2 u3 k5 _ hr => ?_
  refine ⟨r, ns.length, u1, u2, u3, RowsI h l D ns, _, rfl, hr, by lia, ?_, ?_, ns_kp n4 k5, ?_, ?_, ?_⟩
  · intro b hb
    rcases List.mem_cons.mp hb with rfl | hb
    · obtain ⟨o, es, ep, ho, _⟩ := ns_kp n4 k5; exact ⟨o, ho⟩
    · rw [List.mem_singleton.mp hb]; obtain ⟨vs, n, e, _⟩ := hLL4; exact ⟨_, k5 _ _ e⟩
  · intro h' k'
    exact ⟨hh4.trans (k5.trans k'), rfl, rfl, hLL4.kp (k5.trans k')⟩
  · rintro i m ha hb I hI ⟨q1, q2, q3, q4⟩ hIt hk
    have hI0 : h.get? I = none := none_of_kp (hh4.trans k5) hI
    refine ⟨fun b o e => hk b o (fun q => ?_) (q1 _ _ e), q2, q3, q4.kpx hk (fun q => ?_) fun b hb r => ?_⟩
    · rw [List.mem_singleton.mp q, hI0] at e; cases e
    · obtain ⟨vs, n, e, _⟩ := q4; exact isL_ne_iter hIt e (List.mem_singleton.mp q)
    · rw [List.mem_singleton.mp hb]; exact notil_iter hIt r
  · rintro i t ha hb m hi ⟨q1, q2, q3, q4⟩ na nb sb
    have nL : ha.Ns h.objs.size m := na
    have nB : hb.Ns h.objs.size (fun y => if y = "k" then some (.int i t) else m y) := nb
    have q4b : LL hb D ([] :: part ns i) := q4.kpx (same_x sb (List.mem_singleton.mpr rfl)) (fun q => hDL (List.mem_singleton.mp q)) fun b hb' r => by
      rw [List.mem_singleton.mp hb']; exact notil_ns nL r
    have q1b : Kp h hb := fun b o e => sb.extBut b o (Nat.ne_of_lt (Heap.lt_size e)) (q1 _ _ e)
    have Bb := B.kp q1b
    have hlb := hl.kp q1b
    have vL : (fun y => if y = "k" then some (.int i t) else m y) "left" = some (Value.ref l) := by rw [← q2]; rfl
    have vR : (fun y => if y = "k" then some (.int i t) else m y) "rows" = some (Value.ref D) := by rw [← q3]; rfl
    refine st_cons (st_if (ev_test ((pv_item (pv_Name (has_local nB vL rfl rfl rfl)) ((pv_Name (has_local nB rfl rfl rfl rfl)).mono fun v e => ⟨t, e⟩) hlb (by lia) (by lia) (by lia)).run fun v e => ?_)))
    obtain ⟨t4, rfl⟩ := e
    refine ev_upto (pv_Name (has_local nB vL rfl rfl rfl)) ((pv_Name (has_local nB rfl rfl rfl rfl)).mono fun v e => ⟨t, e⟩) hlb.lst (by lia) (by lia) fun l' h6 k6 _ hl' => ?_
    refine rl_notin hl' ⟨_, rfl, ?_⟩
    show if isFst ns i = true then _ else _
    have n6 := ns_kp nB k6
    have q1c := q1b.trans k6
    have q4c := q4b.kp k6
    have B6 := B.kp q1c
    have hl6 := hl.kp q1c
    by_cases hc : isFst ns i = true
    · rw [if_pos hc]
      refine st_cons (st_forL R.hd [h.objs.size, D] (List.mem_cons_self ..) rfl rfl ?_)
      refine ev_call1 (has_global B6 rfl rfl rfl rfl) ⟨_, _, B6.k 52 _ rfl, rfl⟩ (ev_BinOp ?_)
      refine ev_upto (pv_Name (has_local n6 vL rfl rfl rfl)) ((pv_Name (has_local n6 rfl rfl rfl rfl)).mono fun v e => ⟨t, e⟩) hl6.lst (by lia) (by lia) fun l1 h7 k7 _ hl1 => ?_
      refine ev_from (pv_Name (has_local (ns_kp n6 k7) vL rfl rfl rfl)) (pv_add ((pv_Name (has_local (ns_kp n6 k7) rfl rfl rfl rfl)).mono fun v e => ⟨t, e⟩) pv_int) (hl6.kp k7).lst (by lia) (by lia) fun l2 h8 k8 _ hl2 => ?_
      refine rl_add (hl1.kp k8) hl2 (by simp only [List.length_take, List.length_drop]; lia) fun l3 h9 k9 _ hl3 => ?_
      have k69 := (k7.trans k8).trans k9
      refine ⟨k69, ?_⟩
      have e : ns.take (i : Int).toNat ++ ns.drop ((i : Int) + 1).toNat = del ns i := by unfold del; congr 2
      rw [e] at hl3
      have hd := del_length hi
      refine (ih (ns.length - 1) (by lia) (del ns i) hd (by lia) _ s0 h9 l3 (B6.kp k69) ((R.le (by lia) : Room A (ns.length - 1 + 2 + 1)).deeper _) hl3).mono fun v h10 q => ?_
      obtain ⟨⟨R', rfl, hR0, vs', n', hR', hrows⟩, k10⟩ := q
      have k610 := k69.trans k10
      have hDR : R' ≠ D := by
        rintro rfl
        obtain ⟨vs, n, e, _⟩ := q4c
        rw [k69 _ _ e] at hR0; cases hR0
      have hLR : R' ≠ h.objs.size := isL_ne_ns (ns_kp n6 k610) hR'
      have hrl := rows_len _ _ hd
      have hvl := hrows.length
      refine ⟨R', vs'.toArray, RowsJ h hb l D ns vs' i, _, rfl, hR'.isList, ?_, ?_, ?_, ns_kp n6 k610, ?_, ?_, ?_⟩
      · intro hm
        rcases List.mem_cons.mp hm with e | hm
        · exact hLR e
        · exact hDR (List.mem_singleton.mp hm)
      · intro b hb
        rcases List.mem_cons.mp hb with rfl | hb
        · obtain ⟨o, es, ep, ho, _⟩ := ns_kp n6 k610; exact ⟨o, ho⟩
        · rw [List.mem_singleton.mp hb]; obtain ⟨vs, n, e, _⟩ := q4c; exact ⟨_, k610 _ _ e⟩
      · intro h' k'
        exact ⟨q1c.trans (k610.trans k'), vL, vR, ⟨t, rfl⟩, hrows.kp k', (k6.trans (k610.trans k')).x _, by simpa using q4c.kp (k610.trans k')⟩
      · rintro j m ha' hb' I hI ⟨p1, p2, p3, p4, p5, p7, p6⟩ hIt hk
        have hI0 : h.get? I = none := none_of_kp (q1c.trans k610) hI
        have hIb : hb.get? I = none := none_of_kp (k6.trans k610) hI
        refine ⟨fun b o e => hk b o (fun q => ?_) (p1 _ _ e), p2, p3, p4, p5.kpx hk fun b hb r => ?_, fun b o hbm e => hk b o (fun q => ?_) (p7 b o hbm e), p6.kpx hk (fun q => ?_) fun b hb r => ?_⟩
        · rw [List.mem_singleton.mp q, hI0] at e; cases e
        · rw [List.mem_singleton.mp hb]; exact notil_iter hIt r
        · rw [List.mem_singleton.mp q, hIb] at e; cases e
        · obtain ⟨vs, n, e, _⟩ := p6; exact isL_ne_iter hIt e (List.mem_singleton.mp q)
        · rw [List.mem_singleton.mp hb]; exact notil_iter hIt r
      · rintro j v hA hB m' hj ⟨p1, p2, p3, ⟨tk', p4⟩, p5, p7, p6⟩ nA nBB sBB
        have nA' : hA.Ns h.objs.size m' := nA
        have nB' : hB.Ns h.objs.size (fun y => if y = "row" then some v else m' y) := nBB
        have hX : ∀ b ∈ [h.objs.size], ∀ r, ¬ IL hA b r := fun b hb r => by rw [List.mem_singleton.mp hb]; exact notil_ns nA' r
        have p6b := p6.kpx (same_x sBB (List.mem_singleton.mpr rfl)) (fun q => hDL (List.mem_singleton.mp q)) hX
        have p5b := p5.kpx (same_x sBB (List.mem_singleton.mpr rfl)) hX
        have p1b : Kp h hB := fun b o e => sBB.extBut b o (Nat.ne_of_lt (Heap.lt_size e)) (p1 _ _ e)
        have vL' : (fun y => if y = "row" then some v else m' y) "left" = some (Value.ref l) := by rw [← p2]; rfl
        have vR' : (fun y => if y = "row" then some v else m' y) "rows" = some (Value.ref D) := by rw [← p3]; rfl
        have vK' : (fun y => if y = "row" then some v else m' y) "k" = some (Value.int i tk') := by rw [← p4]; rfl
        obtain ⟨ar, rr, rfl, hjr, hIr⟩ := p5b.at (by simpa using hj)
        obtain ⟨dv, dn, hDv, hDr⟩ := id p6b
        have hlen := hDr.length
        refine st_cons (st_expr (ev_methL1 PySem.F.slot_list_append PySem.F.type_list_append (ev_Name (has_local nB' vR' rfl rfl rfl) ⟨D, dv.toArray, dn, rfl, hDv, ev_BinOp (ev_list1 ?_)⟩)))
        refine (pv_item (pv_Name (has_local nB' vL' rfl rfl rfl)) ((pv_Name (has_local nB' vK' rfl rfl rfl)).mono fun v e => ⟨tk', e⟩) (hl.kp p1b) (by lia) (by lia) (by lia)).run fun v e => ?_
        obtain ⟨t5, rfl⟩ := e
        refine rb_newList (by simp) fun l5 h11 k11 _ hl5 => ?_
        refine ev_Name (has_local (ns_kp nB' k11) rfl rfl rfl rfl) ?_
        have hrr := rows_mem_len _ _ hd rr (List.mem_of_getElem? hjr)
        have hb7 := hr7 (ns.length - 1) (by lia)
        have hpl := part_len ns (rbound (ns.length - 1)) (fun k hk => rows_len _ _ (del_length hk)) i (by lia)
        have hib : i * rbound (ns.length - 1) ≤ 8 * 2 ^ 14 := Nat.mul_le_mul (by lia) hb7
        refine rl_add (ns := [ns.getD i 0]) ⟨_, _, hl5, .cons _ _ .nil⟩ (hIr.kp k11) (by simp only [List.length_cons, List.length_nil]; lia) fun l6 h12 k12 _ hl6' => ?_
        have k1112 := k11.trans k12
        refine rb_append (k1112 _ _ hDv) (by
          rw [hlen, List.length_append, List.length_cons, List.length_map, List.length_take]
          lia) fun h13 n13 hD13 s13 => ⟨rfl, ?_⟩
        have p6c := p6b.kp k1112
        have hX13 : ∀ b ∈ [D], ∀ r, ¬ IL h12 b r := fun b hb r => by rw [List.mem_singleton.mp hb]; exact LL.notil (by simpa using p6c) r
        have sx13 := same_x s13 (X := [D]) (List.mem_singleton.mpr rfl)
        refine st_nil ⟨.inl rfl, (k1112.x _).trans (same_x s13 (List.mem_cons_of_mem _ (List.mem_singleton.mpr rfl))), _, (ns_kp nB' k1112).sameBut s13 (Ne.symm hDL), ?_, vL', vR', ⟨tk', vK'⟩, (p5b.kp k1112).kpx sx13 hX13, ?_, ?_⟩
        · intro b o e
          exact s13.extBut b o (fun q => by rw [q, hD0] at e; cases e) (k1112 _ _ (p1b _ _ e))
        · exact p7.trans ((same_x sBB (List.mem_cons_self ..)).trans ((k1112.x _).trans (same_x s13 (List.mem_cons_of_mem _ (List.mem_singleton.mpr rfl)))))
        · refine ⟨_, n13, hD13, ?_⟩
          have := ((hDr.kp k1112).kpx sx13 hX13).snoc (hl6'.kpx sx13 fun b hb => hX13 b hb _)
          rw [List.take_add_one, hjr]
          simpa using this
      · rintro m' h' ⟨p1, p2, p3, ⟨tk', p4⟩, p5, p7, p6⟩ nn
        refine st_nil (st_nil ⟨.inl rfl, p7, m', nn, p1, p2, p3, ?_⟩)
        rw [part_succ, if_pos hc]
        have e2 : (rows (del ns i)).take vs'.toArray.size = rows (del ns i) := by rw [List.size_toArray, hvl, List.take_length]
        rw [e2] at p6
        simpa using p6
    · rw [if_neg hc]
      refine st_nil (st_nil ⟨.inl rfl, k6.x _, _, n6, q1c, vL, vR, ?_⟩)
      rw [part_succ, if_neg hc, List.append_nil]
      exact q4c
  · rintro m h' ⟨q1, q2, q3, q4⟩ nn
    refine st_cons (st_ret (ev_Name (has_local nn q3 rfl rfl rfl) ?_))
    exact ⟨⟨D, rfl, hD0, by rw [rows_eq]; exact q4⟩, q1⟩
end
end
end Mine

namespace Mine
noncomputable section
open PySem PySem.W PySem.Calls PyProof.Rows
set_option maxRecDepth 100000
set_option linter.unusedVariables false

section
variable {prog : Program} {w : World} {A : Around} {s0 : Shared} {h : Heap} {P : Value → Heap → Prop}
theorem rv_sub {a b : Int} {t u : Tok} (p : ∀ t, P (.int (a - b) t) h) : Run prog w A s0 (binaryOp .Sub (.int a t) (.int b u)) h P := fun _ => sub_int ⟨_, _, rfl, p _⟩
theorem rv_gt {a b : Int} {t u : Tok} (p : P (.bool (decide (a > b))) h) : Run prog w A s0 (compareOp .Gt (.int a t) (.int b u)) h P := fun _ => gt_int ⟨_, _, rfl, p⟩
theorem rv_ge {a b : Int} {t u : Tok} (p : P (.bool (decide (a ≥ b))) h) : Run prog w A s0 (compareOp .GtE (.int a t) (.int b u)) h P := fun _ => ge_int ⟨_, _, rfl, p⟩
theorem rb_count {l : Addr} {ns : List Int} {k : Int} {t : Tok} (hl : IL h l ns) (p : ∀ t, P (.int (ns.count k : Nat) t) h) : Run prog w A s0 (call (.builtin "list.count") [.ref l, .int k t]) h P := fun tk => by
  obtain ⟨vs, n, hL, hi⟩ := hl
  exact count_list_ints hL.isList hi ⟨_, _, rfl, p _⟩
theorem rb_sorted {l : Addr} {ns : List Int} (hl : IL h l ns) (h64 : ns.length < 64) (p : ∀ l' h' ns', Kp h h' → h.get? l' = none → IL h' l' ns' → ns'.Perm ns → ns'.Pairwise (· ≤ ·) → P (.ref l') h') :
    Run prog w A s0 (call (.builtin "sorted") [.ref l]) h P := fun tk => by
  obtain ⟨vs, n, hL, hi⟩ := hl
  refine sorted_ints hL.isList hi (by rw [hi.length]; exact h64) fun out ns' a1 a2 a3 => ⟨_, _, rfl, ?_⟩
  obtain ⟨e, he⟩ := sortedAll_at h vs out
  exact p _ _ ns' (fun b o hb => sortedAll_old hb) (get_none_of_le (Nat.le_succ _)) ⟨out.toList, e, by simpa using he, a1⟩ a2 a3
theorem ints_erase : ∀ {vs : List Value} {ns : List Int}, IntsAre vs ns → ∀ k : Nat, IntsAre (vs.eraseIdx k) (ns.eraseIdx k)
  | _, _, .nil, _ => .nil
  | _, _, .cons n t h, 0 => h
  | _, _, .cons n t h, k + 1 => .cons n t (ints_erase h k)
theorem erase_del (l : List Int) (k : Nat) : l.eraseIdx k = del l k := by
  unfold del; exact List.eraseIdx_eq_take_drop_succ ..
theorem rb_pop {l : Addr} {ns : List Int} {i : Int} {t : Tok} (hl : IL h l ns) (h0 : 0 ≤ i) (hk : i < ns.length) (hsz : ns.length ≤ 2 ^ 20) (p : ∀ t h', IL h' l (del ns i.toNat) → Heap.SameBut l h h' → P (.int (ns.getD i.toNat 0) t) h') :
    Run prog w A s0 (call (.builtin "list.pop") [.ref l, .int i t]) h P := fun tk => by
  obtain ⟨vs, n, hL, hi⟩ := hl
  have hlen := hi.length
  have hk' : i.toNat < ns.length := by lia
  obtain ⟨u, hu⟩ := hi.get i.toNat ns[i.toNat] (by simp [hk'])
  have hfit : Builtin.List.listFitsIndex i = true := fitsIndex_of h0 (by lia)
  have hidx : seqIndex? i vs.toArray.size = some i.toNat := seqIndex_of h0 (by rw [List.size_toArray]; lia)
  have hget : vs.toArray[i.toNat]? = some (.int ns[i.toNat] u) := by simpa using hu
  have hszz : vs.toArray.size ≤ sizeLine := by rw [List.size_toArray, sizeLine_eq]; lia
  generalize hj : i.toNat = j at *
  refine call_meets PySem.F.slot_list_pop ⟨_, hL, rfl⟩ PySem.F.entry_list_pop (PySem.F.args_list_pop_2 _ _) (@PySem.MeetsSeq.list_pop_at l vs.toArray n i t j (.int ns[j] u) hfit hidx hget hszz) ⟨hL, ?_⟩
  refine ⟨_, _, rfl, ?_⟩
  have e : ns.getD j 0 = ns[j] := by simp [List.getD, hk']
  rw [← e]
  refine p u _ ?_ (Heap.SameBut.update ..)
  rw [← erase_del]
  have hu2 := IsL.update hL fun xs => xs.eraseIdxIfInBounds j
  have e2 : vs.toArray.eraseIdxIfInBounds j = (vs.eraseIdx j).toArray := by simp
  rw [e2] at hu2
  exact ⟨_, _, hu2, ints_erase hi j⟩
end

theorem IL.same {h h' : Heap} {L a : Addr} {r : List Int} {m : Str → Option Value} (x : IL h a r) (n : h.Ns L m) (s : Heap.SameBut L h h') : IL h' a r :=
  x.kpx (same_x s (List.mem_singleton.mpr rfl)) fun b hb => by rw [List.mem_singleton.mp hb]; exact notil_ns n r
theorem IL.other {h h' : Heap} {l a : Addr} {r : List Int} (x : IL h a r) (s : Heap.SameBut l h h') (hn : a ≠ l) : IL h' a r := by
  obtain ⟨vs, n, e, i⟩ := x
  exact ⟨vs, n, s.extBut a _ hn e, i⟩
theorem kp_same {h h1 h2 : Heap} {L : Addr} (k : Kp h h1) (hL : h.get? L = none) (s : Heap.SameBut L h1 h2) : Kp h h2 := fun b o e =>
  s.extBut b o (fun q => by rw [q, hL] at e; cases e) (k _ _ e)

/-! plain: the k-th block of a sorted list -/
theorem rows_cnt : ∀ (N : Nat) (l : List Int), l.length = N → cnt l = ((rows l).length : Int) := by
  intro N
  induction N using Nat.strongRecOn with
  | _ N ih =>
    intro l hl
    rw [cnt_eq, rows_eq, List.length_cons]
    have e : ∀ ks : List Nat, (∀ k ∈ ks, k < l.length) → (ks.map fun k => cnt (del l k)).sum = ((ks.flatMap fun k => (rows (del l k)).map (l.getD k 0 :: ·)).length : Int) := by
      intro ks
      induction ks with
      | nil => intro _; rfl
      | cons k ks ih2 =>
        intro hk
        rw [List.map_cons, List.sum_cons, List.flatMap_cons, List.length_append, ih2 fun j hj => hk j (List.mem_cons_of_mem _ hj), List.length_map]
        have hkl := hk k List.mem_cons_self
        rw [ih (l.length - 1) (by lia) (del l k) (del_length hkl)]
        lia
    rw [e (fsts l) fun k hk => (mem_fsts hk).1]
    have : part l l.length = (fsts l).flatMap fun k => (rows (del l k)).map (l.getD k 0 :: ·) := rfl
    rw [this]; lia

theorem isFst_iff (l : List Int) (k : Nat) : isFst l k = true ↔ ∀ j, j < k → j < l.length → l.getD j 0 ≠ l.getD k 0 := by
  unfold isFst
  rw [Bool.not_eq_true', List.any_eq_false]
  constructor
  · intro h j hj hl e
    refine h (l.getD j 0) ?_ (by simpa using e)
    rw [List.mem_take_iff_getElem]
    exact ⟨j, by lia, by simp [List.getD, hl]⟩
  · intro h x hx
    rw [List.mem_take_iff_getElem] at hx
    obtain ⟨j, hj, rfl⟩ := hx
    have := h j (by lia) (by lia)
    simpa [List.getD, show j < l.length by lia] using this

theorem getD_le {l : List Int} (hs : l.Pairwise (· ≤ ·)) {i j : Nat} (hij : i ≤ j) (hj : j < l.length) : l.getD i 0 ≤ l.getD j 0 := by
  have hi : i < l.length := by lia
  simp only [List.getD, hi, hj, List.getElem?_eq_getElem, Option.getD_some]
  by_cases e : i = j
  · subst e; exact Int.le_refl _
  · exact List.pairwise_iff_getElem.mp hs i j hi hj (by lia)

/-- the block that begins at k ends at k + count -/
theorem block {l : List Int} (hs : l.Pairwise (· ≤ ·)) : ∀ {k : Nat}, k < l.length → isFst l k = true → k + l.count (l.getD k 0) ≤ l.length ∧ 1 ≤ l.count (l.getD k 0) ∧
    ∀ j, k ≤ j → (j < k + l.count (l.getD k 0) ↔ j < l.length ∧ l.getD j 0 = l.getD k 0) := by
  induction l with
  | nil => intro k hk; simp at hk
  | cons x l ih =>
    intro k hk hf
    have hsl := List.pairwise_cons.mp hs
    cases k with
    | zero =>
      have e0 : (x :: l).getD 0 0 = x := rfl
      rw [e0, List.count_cons_self]
      clear ih hf hk
      have key : ∀ (m : List Int), m.Pairwise (· ≤ ·) → (∀ y ∈ m, x ≤ y) → m.count x ≤ m.length ∧ ∀ j, (j < m.count x ↔ j < m.length ∧ m.getD j 0 = x) := by
        intro m
        induction m with
        | nil => intro _ _; simp
        | cons y m ih2 =>
          intro hm hx
          have hm' := List.pairwise_cons.mp hm
          by_cases hy : y = x
          · subst hy
            obtain ⟨h1, h2⟩ := ih2 hm'.2 hm'.1
            rw [List.count_cons_self, List.length_cons]
            refine ⟨by lia, fun j => ?_⟩
            cases j with
            | zero => simp
            | succ j =>
              have := h2 j
              simp only [List.getD_cons_succ]
              lia
          · have hlt : x < y := by have := hx y List.mem_cons_self; lia
            have hno : m.count x = 0 := by
              rw [List.count_eq_zero]
              intro hmem
              have := hm'.1 x hmem
              lia
            rw [List.count_cons_of_ne (by exact hy), hno]
            refine ⟨by lia, fun j => ?_⟩
            constructor
            · intro h; lia
            · rintro ⟨hj, e⟩
              exfalso
              cases j with
              | zero => exact hy e
              | succ j =>
                simp only [List.getD_cons_succ, List.length_cons] at hj e
                have hj' : j < m.length := by lia
                have hmem : m.getD j 0 ∈ m := by simp [List.getD, hj']
                have := hm'.1 _ hmem
                lia
      obtain ⟨h1, h2⟩ := key l hsl.2 hsl.1
      refine ⟨by rw [List.length_cons]; lia, by lia, fun j _ => ?_⟩
      cases j with
      | zero => simp
      | succ j =>
        have := h2 j
        simp only [List.getD_cons_succ, List.length_cons]
        lia
    | succ k =>
      rw [List.length_cons] at hk
      have hk' : k < l.length := by lia
      have hne : x ≠ l.getD k 0 := by
        have := (isFst_iff _ _).mp hf 0 (by lia) (by rw [List.length_cons]; lia)
        simpa using this
      have hf' : isFst l k = true := by
        rw [isFst_iff] at hf ⊢
        intro j hj hjl
        have := hf (j + 1) (by lia) (by rw [List.length_cons]; lia)
        simpa using this
      obtain ⟨h1, h2, h3⟩ := ih hsl.2 hk' hf'
      have e : (x :: l).getD (k + 1) 0 = l.getD k 0 := rfl
      rw [e, List.count_cons_of_ne hne, List.length_cons]
      refine ⟨by lia, h2, fun j hj => ?_⟩
      cases j with
      | zero => lia
      | succ j =>
        have := h3 j (by lia)
        simp only [List.getD_cons_succ]
        lia

/-- from one block to the next -/
theorem next_block {l : List Int} (hs : l.Pairwise (· ≤ ·)) {k : Nat} (hk : k < l.length) (hf : isFst l k = true) :
    part l (k + l.count (l.getD k 0)) = part l k ++ (rows (del l k)).map (l.getD k 0 :: ·) ∧ (k + l.count (l.getD k 0) < l.length → isFst l (k + l.count (l.getD k 0)) = true) := by
  obtain ⟨h1, h2, h3⟩ := block hs hk hf
  constructor
  · have key : ∀ c, 1 ≤ c → c ≤ l.count (l.getD k 0) → part l (k + c) = part l k ++ (rows (del l k)).map (l.getD k 0 :: ·) := by
      intro c
      induction c with
      | zero => intro h; lia
      | succ c ih =>
        intro _ hc
        rw [← Nat.add_assoc, part_succ]
        by_cases hc0 : c = 0
        · subst hc0; rw [Nat.add_zero, if_pos hf]
        · rw [ih (by lia) (by lia)]
          have hnf : ¬ isFst l (k + c) = true := by
            rw [isFst_iff]
            intro hh
            have hj := (h3 (k + c) (by lia)).mp (by lia)
            exact hh k (by lia) hk hj.2.symm
          rw [if_neg hnf, List.append_nil]
    exact key _ h2 (Nat.le_refl _)
  · intro hlt
    rw [isFst_iff]
    intro j hj hjl e
    have h4 := (h3 (k + l.count (l.getD k 0)) (by lia))
    have hge := getD_le hs (i := k) (j := k + l.count (l.getD k 0)) (by lia) hlt
    have hne : l.getD (k + l.count (l.getD k 0)) 0 ≠ l.getD k 0 := fun q => by
      have := h4.mpr ⟨hlt, q⟩; lia
    by_cases hjk : j < k
    · have := getD_le hs (i := j) (j := k) (by lia) hk
      lia
    · have := (h3 j (by lia)).mp (by lia)
      rw [this.2] at e
      exact hne e.symm

theorem part_prefix (l : List Int) (i : Nat) : ∀ d, ∃ r, part l (i + d) = part l i ++ r := by
  intro d
  induction d with
  | zero => exact ⟨[], by simp⟩
  | succ d ih =>
    obtain ⟨r, hr⟩ := ih
    rw [← Nat.add_assoc, part_succ, hr]
    exact ⟨_, List.append_assoc ..⟩

section
variable {prog : Program} {w : World} {mg mb : Str → Option Value}

/-- the names and lists that the loops of _law_told turn -/
structure TI (h : Heap) (L lf rw : Addr) (m : Str → Option Value) (cur pre : List Int) (p : Int) (hc : Heap) : Prop where
  kp : Kp h hc
  ns : hc.Ns L m
  left : m "left" = some (.ref lf)
  row : m "row" = some (.ref rw)
  place : ∃ t, m "place" = some (.int p t)
  il : IL hc lf cur
  ir : IL hc rw pre
theorem TI.kpp {h : Heap} {L lf rw : Addr} {m : Str → Option Value} {cur pre : List Int} {p : Int} {hc hd : Heap} (x : TI h L lf rw m cur pre p hc) (k : Kp hc hd) : TI h L lf rw m cur pre p hd :=
  ⟨x.kp.trans k, ns_kp x.ns k, x.left, x.row, x.place, x.il.kp k, x.ir.kp k⟩
theorem TI.set {h : Heap} {L lf rw : Addr} {m : Str → Option Value} {cur pre : List Int} {p : Int} {hc hd : Heap} {y : Str} {v : Value} (x : TI h L lf rw m cur pre p hc) (hL : h.get? L = none) (n : hd.Ns L (fun z => if z = y then some v else m z))
    (s : Heap.SameBut L hc hd) (h1 : (Str.ofString "left") ≠ y) (h2 : (Str.ofString "row") ≠ y) (h3 : (Str.ofString "place") ≠ y) : TI h L lf rw (fun z => if z = y then some v else m z) cur pre p hd :=
  ⟨kp_same x.kp hL s, n, by rw [if_neg h1]; exact x.left, by rw [if_neg h2]; exact x.row, by obtain ⟨t, e⟩ := x.place; exact ⟨t, by rw [if_neg h3]; exact e⟩, x.il.same x.ns s, x.ir.same x.ns s⟩
theorem TI.setP {h : Heap} {L lf rw : Addr} {m : Str → Option Value} {cur pre : List Int} {p q : Int} {t : Tok} {hc hd : Heap} (x : TI h L lf rw m cur pre p hc) (hL : h.get? L = none) (n : hd.Ns L (fun z => if z = "place" then some (.int q t) else m z))
    (s : Heap.SameBut L hc hd) : TI h L lf rw (fun z => if z = "place" then some (.int q t) else m z) cur pre q hd :=
  ⟨kp_same x.kp hL s, n, by rw [if_neg (by decide)]; exact x.left, by rw [if_neg (by decide)]; exact x.row, ⟨t, by rw [if_pos rfl]⟩, x.il.same x.ns s, x.ir.same x.ns s⟩

/-- what _law_told hands back -/
inductive ToldOut (h : Heap) (ns : List Int) (p0 : Int) (v : Value) (h' : Heap) : Prop
  | mk (srt : List Int) (D : Addr) (r : List Int) : v = .ref D → srt.Perm ns → srt.Pairwise (· ≤ ·) → IL h' D r → (rows srt)[p0.toNat]? = some r → Kp h h' → ToldOut h ns p0 v h'
/-- the outer while -/
inductive ToldW (h : Heap) (lf rw : Addr) (srt r : List Int) (n : Nat) (hc : Heap) : Prop
  | mk (m : Str → Option Value) (cur pre : List Int) (p : Int) : TI h h.objs.size lf rw m cur pre p hc → cur.Pairwise (· ≤ ·) → cur.length ≤ 8 → pre.length + cur.length = srt.length → 0 ≤ p → n = cur.length → (∃ r', (rows cur)[p.toNat]? = some r' ∧ r = pre ++ r') → ToldW h lf rw srt r n hc
/-- the inner while -/
inductive ToldV (h : Heap) (lf rw : Addr) (cur pre : List Int) (p : Int) (n : Nat) (hc : Heap) : Prop
  | mk (m : Str → Option Value) (k : Nat) (p' : Int) : TI h h.objs.size lf rw m cur pre p' hc → (∃ t, m "k" = some (.int (k : Nat) t)) → (∃ t, m "ways" = some (.int (cnt (del cur k)) t)) → k < cur.length → isFst cur k = true → 0 ≤ p' → ((part cur k).length : Int) + p' = p - 1 → n = cur.length - k → ToldV h lf rw cur pre p n hc

theorem told_ok (ns : List Int) (hn : ns.length ≤ 8) (A : Around) (s0 : Shared) (h : Heap) (l : Addr) (p0 : Int) (t0 : Tok) (B : Bs w mg mb h) (R : Room A 20) (hl : IL h l ns) (h0 : 0 ≤ p0)
    (hp0 : ∀ srt : List Int, srt.Perm ns → srt.Pairwise (· ≤ ·) → p0 < ((rows srt).length : Int)) :
    Run prog w A s0 (call (.ref 64) [.ref l, .int p0 t0]) h (ToldOut h ns p0) := by
  refine run_plain R (B.k 64 _ rfl) rfl B.nolimit (codeRec_of B.k (by rfl)) (binds := [("drawn", .ref l), ("place", .int p0 t0)]) rfl ?_ ?_
  · intro x hx
    rcases List.mem_cons.mp hx with rfl | hx
    · rfl
    · rw [List.mem_singleton.mp hx]; rfl
  intro h1 k1 n1
  have B1 := B.kp k1
  have hL0 : h.get? h.objs.size = none := get_none_of_le (Nat.le_refl _)
  refine st_cons (st_assign (ev_callB1 (has_builtin B1 rfl rfl (by decide) rfl rfl rfl rfl) (ev_Name (has_local n1 rfl rfl rfl rfl) (rb_sorted (hl.kp k1) (by lia) fun lf h2 srt k2 hlf0 hlf hperm hsort => ⟨_, ns_kp n1 k2, fun h3 n3 s3 => ?_⟩))) rfl rfl)
  have k3 : Kp h h3 := kp_same (k1.trans k2) hL0 s3
  have hlf3 := hlf.same (ns_kp n1 k2) s3
  refine st_cons (st_assign (ev_list0 (rb_newList (by simp) fun rw h4 k4 hrw0 hrw => ⟨_, ns_kp n3 k4, fun h5 n5 s5 => ?_⟩)) rfl rfl)
  have k5 : Kp h h5 := kp_same (k3.trans k4) hL0 s5
  have hrw5 : IL h5 rw [] := IL.same (m := _) ⟨[], 0, hrw, .nil⟩ (ns_kp n3 k4) s5
  have hlf5 := (hlf3.kp k4).same (ns_kp n3 k4) s5
  have hne : lf ≠ rw := by
    rintro rfl
    obtain ⟨o, ho⟩ := hlf3.some
    rw [ho] at hrw0; cases hrw0
  have hlfh : h.get? lf = none := none_of_kp k1 hlf0
  have hrwh : h.get? rw = none := none_of_kp k3 hrw0
  have hplace := hp0 srt hperm hsort
  obtain ⟨r, hr⟩ : ∃ r, (rows srt)[p0.toNat]? = some r := ⟨(rows srt)[p0.toNat]'(by lia), List.getElem?_eq_getElem _⟩
  have hslen := hperm.length_eq
  refine st_cons (st_while (ToldW h lf rw srt r) srt.length
    ⟨_, srt, [], p0, ⟨k5, n5, rfl, rfl, ⟨t0, rfl⟩, hlf5, hrw5⟩, hsort, by lia, by simp, h0, rfl, r, hr, rfl⟩ ?_)
  rintro n hc ⟨m, cur, pre, p, X, hcs, hc8, hpl, hp, rfl, r', hr', hrr⟩
  obtain ⟨tp, hmp⟩ := X.place
  refine ev_test (ev_Name (has_local X.ns hmp rfl rfl rfl) (ev_int fun t1 => rv_gt ⟨_, rfl, ?_⟩))
  by_cases hpos : p > 0
  · rw [if_pos (by simpa using hpos)]
    have hlt : p.toNat < (rows cur).length := by
      have := List.getElem?_eq_some_iff.mp hr'; exact this.1
    have hne0 : 0 < cur.length := by
      rcases Nat.eq_zero_or_pos cur.length with e | e
      · exfalso
        rw [rows_eq, e, part_zero] at hlt
        simp at hlt; lia
      · exact e
    have hpart : p.toNat - 1 < (part cur cur.length).length := by rw [rows_eq, List.length_cons] at hlt; lia
    refine st_cons (st_assign (ev_BinOp (ev_Name (has_local X.ns hmp rfl rfl rfl) (ev_int fun t2 => rv_sub fun t3 => ⟨_, X.ns, fun ha na sa => ?_⟩))) rfl rfl)
    have Xa := X.setP hL0 na sa
    refine st_cons (st_assign (ev_int fun t4 => ⟨_, Xa.ns, fun hb nb sb => ?_⟩) rfl rfl)
    have Xb := Xa.set hL0 nb sb (by decide) (by decide) (by decide)
    have Bb := B.kp Xb.kp
    refine st_cons (st_assign (ev_call1 (has_global Bb rfl rfl rfl rfl) ⟨_, _, Bb.k 57 _ rfl, rfl⟩ (ev_from (pv_Name (has_local Xb.ns Xb.left rfl rfl rfl)) pv_int Xb.il.lst (by lia) (by lia) fun l1 hd kd _ hl1 => ⟨kd, ?_⟩)) rfl rfl)
    have Xd := Xb.kpp kd
    have e1 : cur.drop (1 : Int).toNat = del cur 0 := by unfold del; simp
    rw [e1] at hl1
    have hd0 := del_length hne0
    refine (count_ok (cur.length - 1) (del cur 0) hd0 (by lia) _ s0 hd l1 (B.kp Xd.kp) ((R.le (by lia) : Room A (cur.length - 1 + 2 + 1)).deeper _) hl1).mono fun v he q => ?_
    obtain ⟨⟨tw, rfl⟩, ke⟩ := q
    have Xe := Xd.kpp ke
    refine ⟨_, Xe.ns, fun hf nf sf => ?_⟩
    have Xf := Xe.set hL0 nf sf (by decide) (by decide) (by decide)
    refine st_cons (st_while (ToldV h lf rw cur pre p) cur.length
      ⟨_, 0, p - 1, Xf, ⟨t4, rfl⟩, ⟨tw, rfl⟩, hne0, rfl, by lia, by rw [part_zero]; simp, rfl⟩ ?_)
    rintro n hg ⟨mg', k, p', Y, ⟨tk, hmk⟩, ⟨tw', hmw⟩, hk, hf, hp', hsum, rfl⟩
    obtain ⟨tp', hmp'⟩ := Y.place
    refine ev_test (ev_Name (has_local Y.ns hmp' rfl rfl rfl) (ev_Name (has_local Y.ns hmw rfl rfl rfl) (rv_ge ⟨_, rfl, ?_⟩)))
    have hdk := del_length hk
    have hcr := rows_cnt _ (del cur k) hdk
    obtain ⟨hb1, hb2, hb3⟩ := block hcs hk hf
    obtain ⟨hnb1, hnb2⟩ := next_block hcs hk hf
    by_cases hge : p' ≥ cnt (del cur k)
    · rw [if_pos (by simpa using hge)]
      have hlen2 : (part cur (k + cur.count (cur.getD k 0))).length = (part cur k).length + (rows (del cur k)).length := by rw [hnb1, List.length_append, List.length_map]
      have hk2 : k + cur.count (cur.getD k 0) < cur.length := by
        rcases Nat.lt_or_ge (k + cur.count (cur.getD k 0)) cur.length with e | e
        · exact e
        · have e' : k + cur.count (cur.getD k 0) = cur.length := by lia
          rw [e'] at hlen2
          lia
      refine st_cons (st_assign (ev_BinOp (ev_Name (has_local Y.ns hmp' rfl rfl rfl) (ev_Name (has_local Y.ns hmw rfl rfl rfl) (rv_sub fun t5 => ⟨_, Y.ns, fun hh nh sh => ?_⟩)))) rfl rfl)
      have Yh := Y.setP hL0 nh sh
      have hmk' : (fun z => if z = "place" then some (Value.int (p' - cnt (del cur k)) t5) else mg' z) "k" = some (.int (k : Nat) tk) := by rw [← hmk]; rfl
      refine st_cons (st_assign (ev_BinOp (ev_Name (has_local Yh.ns hmk' rfl rfl rfl) ?_)) rfl rfl)
      obtain ⟨lv, ln, hlv, hli⟩ := id Yh.il
      refine ev_methL1 PySem.F.slot_list_count PySem.F.type_list_count (ev_Name (has_local Yh.ns Yh.left rfl rfl rfl) ⟨lf, _, _, rfl, hlv, ?_⟩)
      refine (pv_item (pv_Name (has_local Yh.ns Yh.left rfl rfl rfl)) ((pv_Name (has_local Yh.ns hmk' rfl rfl rfl)).mono fun v e => ⟨tk, e⟩) Yh.il (by lia) (by lia) (by lia)).run fun v e => ?_
      obtain ⟨t6, rfl⟩ := e
      refine rb_count Yh.il fun t7 => rv_add fun t8 => ⟨_, Yh.ns, fun hi ni si => ?_⟩
      have Yi := Yh.set hL0 ni si (by decide) (by decide) (by decide)
      have ek2 : ((k : Nat) : Int) + ((cur.count (cur.getD ((k : Nat) : Int).toNat 0) : Nat) : Int) = ((k + cur.count (cur.getD k 0) : Nat) : Int) := by
        rw [Int.toNat_natCast]; lia
      rw [ek2] at ni Yi
      generalize hk2e : k + cur.count (cur.getD k 0) = k2 at *
      have Bi := B.kp Yi.kp
      refine st_cons (st_assign (ev_call1 (has_global Bi rfl rfl rfl rfl) ⟨_, _, Bi.k 57 _ rfl, rfl⟩ (ev_BinOp ?_)) rfl rfl)
      refine ev_upto (pv_Name (has_local Yi.ns Yi.left rfl rfl rfl)) ((pv_Name (has_local Yi.ns rfl rfl rfl rfl)).mono fun v e => ⟨t8, e⟩) Yi.il.lst (by lia) (by lia) fun l2 hj kj _ hl2 => ?_
      have Yj := Yi.kpp kj
      refine ev_from (pv_Name (has_local Yj.ns Yj.left rfl rfl rfl)) (pv_add ((pv_Name (has_local Yj.ns rfl rfl rfl rfl)).mono fun v e => ⟨t8, e⟩) pv_int) Yj.il.lst (by lia) (by lia) fun l3 hkk kk _ hl3 => ?_
      refine rl_add (hl2.kp kk) hl3 (by simp only [List.length_take, List.length_drop]; lia) fun l4 hm km _ hl4 => ?_
      have Ym := (Yj.kpp kk).kpp km
      refine ⟨(kj.trans kk).trans km, ?_⟩
      have e : cur.take (k2 : Int).toNat ++ cur.drop ((k2 : Int) + 1).toNat = del cur k2 := by unfold del; congr 2
      rw [e] at hl4
      have hdk2 := del_length hk2
      refine (count_ok (cur.length - 1) (del cur k2) hdk2 (by lia) _ s0 hm l4 (B.kp Ym.kp) ((R.le (by lia) : Room A (cur.length - 1 + 2 + 1)).deeper _) hl4).mono fun v hn' q => ?_
      obtain ⟨⟨tw2, rfl⟩, kn⟩ := q
      have Yn := Ym.kpp kn
      refine ⟨_, Yn.ns, fun ho no so => ?_⟩
      have Yo := Yn.set hL0 no so (by decide) (by decide) (by decide)
      exact st_nil ⟨cur.length - k2, by lia, _, k2, _, Yo, ⟨t8, rfl⟩, ⟨tw2, rfl⟩, hk2, hnb2 hk2, by lia, by lia, rfl⟩
    · rw [if_neg (by simpa using hge)]
      obtain ⟨lv, ln, hlv, hli⟩ := id Y.il
      obtain ⟨rv, rn, hrv, hri⟩ := id Y.ir
      have hrl := hri.length
      refine st_cons (st_expr (ev_methL1 PySem.F.slot_list_append PySem.F.type_list_append (ev_Name (has_local Y.ns Y.row rfl rfl rfl) ⟨rw, _, _, rfl, hrv, ?_⟩)))
      refine ev_methL1 PySem.F.slot_list_pop PySem.F.type_list_pop (ev_Name (has_local Y.ns Y.left rfl rfl rfl) ⟨lf, _, _, rfl, hlv, ?_⟩)
      refine ev_Name (has_local Y.ns hmk rfl rfl rfl) ?_
      refine rb_pop Y.il (by lia) (by lia) (by lia) fun t5 hh hlh sh => ?_
      rw [Int.toNat_natCast] at hlh ⊢
      have hrv2 : IsL hh rw rv.toArray rn := sh.extBut _ _ (Ne.symm hne) hrv
      refine rb_append hrv2 (by lia) fun hi n2 hri2 si => ⟨rfl, ?_⟩
      have hLlf : h.objs.size ≠ lf := Ne.symm (isL_ne_ns Y.ns hlv)
      have hLrw : h.objs.size ≠ rw := Ne.symm (isL_ne_ns Y.ns hrv)
      have n3' : hi.Ns h.objs.size mg' := (Y.ns.sameBut sh hLlf).sameBut si hLrw
      refine st_nil ⟨cur.length - 1, by lia, mg', del cur k, pre ++ [cur.getD k 0], p', ⟨kp_same (kp_same Y.kp hlfh sh) hrwh si, n3', Y.left, Y.row, ⟨tp', hmp'⟩, hlh.other si hne, ⟨_, _, hri2, hri.append (.cons _ _ .nil)⟩⟩, ?_, by lia, by rw [List.length_append, hdk]; simp only [List.length_cons, List.length_nil]; lia, hp', hdk.symm, ?_⟩
      · rw [← erase_del]; exact hcs.sublist (List.eraseIdx_sublist ..)
      · have hp'lt : p'.toNat < (rows (del cur k)).length := by lia
        refine ⟨(rows (del cur k))[p'.toNat], List.getElem?_eq_getElem _, ?_⟩
        rw [hrr]
        obtain ⟨rest, hrest⟩ := part_prefix cur (k + 1) (cur.length - (k + 1))
        rw [show k + 1 + (cur.length - (k + 1)) = cur.length by lia, part_succ, if_pos hf] at hrest
        have e : (rows cur)[p.toNat]? = some (cur.getD k 0 :: (rows (del cur k))[p'.toNat]) := by
          rw [rows_eq, hrest, show p.toNat = ((part cur k).length + p'.toNat) + 1 by lia, List.getElem?_cons_succ, List.append_assoc, List.getElem?_append_right (by lia), Nat.add_sub_cancel_left,
            List.getElem?_append_left (by rw [List.length_map]; exact hp'lt)]
          simp [hp'lt]
        rw [e] at hr'
        have := Option.some.inj hr'
        rw [← this]
        simp
  · rw [if_neg (by simpa using hpos)]
    refine st_cons (st_ret (ev_Name (has_local X.ns X.row rfl rfl rfl) ?_))
    have hp0 : p = 0 := by lia
    subst hp0
    rw [rows_eq] at hr'
    simp at hr'
    subst hr'
    rw [List.append_nil] at hrr
    subst hrr
    exact ⟨srt, rw, _, rfl, hperm, hsort, X.ir, hr, X.kp⟩
end
end
end Mine

namespace Mine
noncomputable section
open PySem PySem.W PySem.Calls PyProof.Rows
set_option maxRecDepth 100000
set_option linter.unusedVariables false

/-- the text of these code points -/
noncomputable def mkS (l : List Nat) : Str := ⟨l.toArray⟩
theorem mkS_cps (l : List Nat) : (mkS l).cps.toList = l := rfl
theorem mkS_len (l : List Nat) : (mkS l).length = l.length := by simp [mkS, Str.length]

theorem slice_to_le {x : Str} {j : Int} (h0 : 0 ≤ j) (h1 : j ≤ x.cps.toList.length) : Txt.slice x none (some j) = ⟨(x.cps.toList.take j.toNat).toArray⟩ := by
  show StrLaws.sliceText x none (some j) = _
  rw [StrLaws.sliceText_to ⟨h0, h1⟩]; simp
theorem slice_to {l : List Nat} {j : Int} (h0 : 0 ≤ j) : Txt.slice (mkS l) none (some j) = mkS (l.take j.toNat) := by
  by_cases h1 : j ≤ (l.length : Int)
  · exact slice_to_le h0 h1
  · have hl : (l.length : Int) < j := by lia
    have e : Builtin.Str.strSliceIndices none (some j) 1 (mkS l).length = Builtin.Str.strSliceIndices none (some ((mkS l).length : Int)) 1 (mkS l).length := by
      rw [mkS_len]
      have a : ¬ (j < 0) := by lia
      have b : ¬ ((l.length : Int) < 0) := by lia
      have c : max (0 : Int) (min j (l.length : Int)) = max (0 : Int) (min (l.length : Int) (l.length : Int)) := by lia
      simp only [Builtin.Str.strSliceIndices, a, b, if_false, c, show (1 : Int) > 0 from by decide, if_true]
    have h2 := slice_to_le (x := mkS l) (j := ((mkS l).length : Int)) (by lia) (by rw [mkS_cps, mkS_len]; lia)
    have e2 : StrLaws.sliceText (mkS l) none (some j) = StrLaws.sliceText (mkS l) none (some ((mkS l).length : Int)) := by unfold StrLaws.sliceText; rw [e]
    refine (show StrLaws.sliceText (mkS l) none (some j) = _ from e2).trans ((show StrLaws.sliceText (mkS l) none (some ((mkS l).length : Int)) = _ from h2).trans ?_)
    rw [mkS_cps, mkS_len, Int.toNat_natCast, List.take_length, List.take_of_length_le (by lia)]; rfl
theorem slice_from {l : List Nat} {i : Int} (h0 : 0 ≤ i) (h1 : i ≤ (l.length : Int)) : Txt.slice (mkS l) (some i) none = mkS (l.drop i.toNat) := by
  show StrLaws.sliceText (mkS l) (some i) none = _
  rw [StrLaws.sliceText_from (x := mkS l) ⟨h0, h1⟩, mkS_cps, List.take_of_length_le (by rw [List.length_drop]; lia)]; rfl

section
variable {prog : Program} {w : World} {A : Around} {s0 : Shared} {h : Heap} {env : Env} {P : Value → Heap → Prop}

theorem keptH_kp (h : Heap) : KeptH (Kp h) := fun h1 o k => k.trans (Kp.push _ _)

theorem ev_supto {ve ue : PySem.Expr} {p pos : Pos} {x : List Nat} {t : Tok} {b : Int} (v : Pv prog w env ve h (· = .str (mkS x) t)) (y : Pv prog w env ue h fun v => ∃ t, v = .int b t) (h0 : 0 ≤ b) (hsz : x.length ≤ 2 ^ 20)
    (q : ∀ t' h', Kp h h' → P (.str (mkS (x.take b.toNat)) t') h')
    (hs : ∀ a, subscripted (.Slice none (some ue) none p) false (.str (mkS x) t) (.ref a) = operate [.ref a, .str (mkS x) t] (getItem (.str (mkS x) t) (.ref a)) := by intro a; with_unfolding_all rfl)
    (ht : ∀ r, letTemporaryGo ve (.str (mkS x) t) r = pure () := by intro _; with_unfolding_all rfl) :
    Run prog w A s0 (eval (.Subscript ve (.Slice none (some ue) none p) pos) env) h P := by
  refine ev_Subscript (v.run fun o e => ?_)
  subst e
  refine ev_Slice (ev_part_none (ev_part_some (y.run fun u f => ev_part_none ?_)))
  obtain ⟨t2, rfl⟩ := f
  intro tk
  refine tail_of_ItemOn (s := { s0 with heap := h.push _, toks := tk }) (SBH.sliceItem_ns (s := { s0 with heap := h, toks := tk }) (keptH_kp h) (Kp.refl h) (fun h' t' k' kp => ⟨h', k', rfl, ?_⟩) (by rw [mkS_len, sizeLine_eq]; lia)) (hs _) ht
  rw [slice_to h0]
  exact q t' h' kp

theorem ev_sfrom {ve ue : PySem.Expr} {p pos : Pos} {x : List Nat} {t : Tok} (v : Pv prog w env ve h (· = .str (mkS x) t)) (hsz : x.length ≤ 2 ^ 20)
    (y : Run prog w A s0 (eval ue env) h fun u h1 => ∃ (b : Int) (t2 : Tok), u = .int b t2 ∧ 0 ≤ b ∧ b ≤ x.length ∧ ∀ t' h', Kp h1 h' → P (.str (mkS (x.drop b.toNat)) t') h')
    (hs : ∀ a, subscripted (.Slice (some ue) none none p) false (.str (mkS x) t) (.ref a) = operate [.ref a, .str (mkS x) t] (getItem (.str (mkS x) t) (.ref a)) := by intro a; with_unfolding_all rfl)
    (ht : ∀ r, letTemporaryGo ve (.str (mkS x) t) r = pure () := by intro _; with_unfolding_all rfl) :
    Run prog w A s0 (eval (.Subscript ve (.Slice (some ue) none none p) pos) env) h P := by
  refine ev_Subscript (v.run fun o e => ?_)
  subst e
  refine ev_Slice (ev_part_some (y.mono fun u h1 f => ev_part_none (ev_part_none ?_)))
  obtain ⟨b, t2, rfl, h0, hb, q⟩ := f
  intro tk
  refine tail_of_ItemOn (s := { s0 with heap := h1.push _, toks := tk }) (SBH.sliceItem_sn (s := { s0 with heap := h1, toks := tk }) (keptH_kp h1) (Kp.refl h1) (fun h' t' k' kp => ⟨h', k', rfl, ?_⟩) (by rw [mkS_len, sizeLine_eq]; lia)) (hs _) ht
  rw [slice_from h0 hb]
  exact q t' h' kp

theorem rv_sne {x y : List Nat} {t u : Tok} (p : P (.bool (x != y)) h) : Run prog w A s0 (compareOp .NotEq (.str (mkS x) t) (.str (mkS y) u)) h P := fun _ => PySem.P.ne_str ⟨_, _, rfl, p⟩
theorem rv_sgt {x y : List Nat} {t u : Tok} (p : P (.bool (decide (y < x))) h) : Run prog w A s0 (compareOp .Gt (.str (mkS x) t) (.str (mkS y) u)) h P := fun _ => PySem.P.gt_str ⟨_, _, rfl, p⟩
theorem rv_slt {x y : List Nat} {t u : Tok} (p : P (.bool (decide (x < y))) h) : Run prog w A s0 (compareOp .Lt (.str (mkS x) t) (.str (mkS y) u)) h P := fun _ => PySem.P.lt_str ⟨_, _, rfl, p⟩
theorem rb_slen {x : List Nat} {t : Tok} (hfit : x.length ≤ 2 ^ 20) (p : ∀ t, P (.int x.length t) h) : Run prog w A s0 (call (.builtin "len") [.str (mkS x) t]) h P := fun tk => by
  refine len_str (by rw [mkS_len]; lia) ⟨_, _, rfl, ?_⟩
  rw [mkS_len]; exact p _

theorem rv_eq {a b : Value} {da db : PyData} {as bs : List Addr} (ra : Reads h a da as) (rb : Reads h b db bs) (ha : da.canLay0 = true) (hb : db.canLay0 = true) (hu : A.units + min da.depth db.depth < 9900) (p : P (.bool (PyData.eqv da db)) h) :
    Run prog w A s0 (compareOp .Eq a b) h P := fun tk => SeqAt.compareEq_reads ra rb ha hb hu ⟨_, _, rfl, p⟩
theorem rv_ne {a b : Value} {da db : PyData} {as bs : List Addr} (ra : Reads h a da as) (rb : Reads h b db bs) (ha : da.canLay0 = true) (hb : db.canLay0 = true) (hu : A.units + min da.depth db.depth < 9900) (p : P (.bool (!PyData.eqv da db)) h) :
    Run prog w A s0 (compareOp .NotEq a b) h P := fun tk => SeqAt.compareNe_reads ra rb ha hb hu ⟨_, _, rfl, p⟩
end

/-- a plain list of texts -/
inductive StrsV : List Value → List (List Nat) → Prop
  | nil : StrsV [] []
  | cons (x : List Nat) (t : Tok) {vs : List Value} {xs : List (List Nat)} : StrsV vs xs → StrsV (.str (mkS x) t :: vs) (x :: xs)
theorem StrsV.length {vs : List Value} {xs : List (List Nat)} (s : StrsV vs xs) : vs.length = xs.length := by
  induction s with
  | nil => rfl
  | cons _ _ _ ih => rw [List.length_cons, List.length_cons, ih]
theorem StrsV.at {vs : List Value} {xs : List (List Nat)} (s : StrsV vs xs) : ∀ {i : Nat} {v : Value}, vs[i]? = some v → ∃ x t, v = .str (mkS x) t ∧ xs[i]? = some x := by
  induction s with
  | nil => intro i v e; simp at e
  | cons x t _ ih =>
    intro i v e
    cases i with
    | zero => simp at e; exact ⟨x, t, e.symm, rfl⟩
    | succ i => exact ih (by simpa using e)
theorem StrsV.get {vs : List Value} {xs : List (List Nat)} (s : StrsV vs xs) : ∀ {i : Nat} {x : List Nat}, xs[i]? = some x → ∃ t, vs[i]? = some (.str (mkS x) t) := by
  induction s with
  | nil => intro i v e; simp at e
  | cons x t _ ih =>
    intro i v e
    cases i with
    | zero => simp at e; subst e; exact ⟨t, rfl⟩
    | succ i => exact ih (by simpa using e)
noncomputable def SL (h : Heap) (l : Addr) (xs : List (List Nat)) : Prop := ∃ vs n, IsL h l vs.toArray n ∧ StrsV vs xs
theorem SL.kp {h h' : Heap} {l : Addr} {xs : List (List Nat)} (x : SL h l xs) (k : Kp h h') : SL h' l xs := let ⟨vs, n, a, b⟩ := x; ⟨vs, n, k _ _ a, b⟩

theorem reads_ints {h : Heap} : ∀ {vs : List Value} {ns : List Int}, IntsAre vs ns → ReadsAll h vs (ns.map .int) []
  | _, _, .nil => .nil
  | _, _, .cons n t r => .cons (.int n t) (reads_ints r)
theorem IL.reads {h : Heap} {l : Addr} {ns : List Int} (x : IL h l ns) : Reads h (.ref l) (.list (ns.map .int)) [l] := by
  obtain ⟨vs, n, e, i⟩ := x
  exact .list e rfl rfl (reads_ints i)
theorem reads_strs {h : Heap} : ∀ {vs : List Value} {xs : List (List Nat)}, StrsV vs xs → ReadsAll h vs (xs.map fun x => .str (mkS x)) []
  | _, _, .nil => .nil
  | _, _, .cons x t r => .cons (.str _ t) (reads_strs r)
theorem SL.reads {h : Heap} {l : Addr} {xs : List (List Nat)} (x : SL h l xs) : Reads h (.ref l) (.list (xs.map fun x => .str (mkS x))) [l] := by
  obtain ⟨vs, n, e, i⟩ := x
  exact .list e rfl rfl (reads_strs i)
theorem canLay_ints (ns : List Int) : (PyData.list (ns.map .int)).canLay0 = true := canLayAll_ints ns
theorem depth_ints (ns : List Int) : (PyData.list (ns.map .int)).depth = 1 := by
  simp only [PyData.depth, PyProof.Rows.depthAll_ints]
theorem eqv_ints : ∀ (a b : List Int), PyData.eqvAll (a.map .int) (b.map .int) = decide (a = b)
  | [], [] => by simp [PyData.eqvAll]
  | [], _ :: _ => by simp [PyData.eqvAll]
  | _ :: _, [] => by simp [PyData.eqvAll]
  | x :: a, y :: b => by
    simp only [List.map_cons, PyData.eqvAll, PyData.eqv, eqv_ints a b]
    by_cases h1 : x = y
    · subst h1; by_cases h2 : a = b <;> simp [h2]
    · simp [h1]

/-- x = [a comprehension], told by its source's walk; what is told may hang on the source -/
theorem st_comp {prog : Program} {w : World} {A : Around} {s0 : Shared} {h : Heap} {env : Env} {P : Flow → Heap → Prop} {elt iter : PySem.Expr} {x y : Str} {px py : Pos} {ifs : List PySem.Expr} {scope : Scope} {cl : List (Str × Addr)} {pos spos : Pos}
    (hsw : swapsWith (.ListComp elt [⟨.Name x px, iter, ifs, 0⟩] scope pos) (some (.Name y py)) spos.line env = pure true) (hclos : closureFor scope env = pure cl)
    (hy : env.kindOf y = some .local) (hek : env.scope.kind = .function)
    (src : Run prog w A s0 (eval iter env) h fun xv h1 => Run prog w A s0 (pyIter xv) h1 fun it h2 => ∃ (I : Addr) (fp : List Addr) (n : Nat) (Pi : Nat → Value → Prop) (St : Nat → Heap → Prop) (p : Value → Bool) (F : Value → Value → Prop) (m : Str → Option Value),
      it = .ref I ∧ Walks prog w A I fp [I] n Pi St ∧ n ≤ sizeLine ∧ St 0 h2 ∧ (∀ b ∈ fp, b < h2.objs.size) ∧ (∀ b o, h1.get? b = some o → b ∉ [I] ∧ h2.get? b = some o) ∧ h1.Ns env.locals m ∧ Turns prog w A env scope cl x ifs elt Pi p F h1 ∧
      ∀ D h' ys (vs : List Value), h1.get? D = none → h'.PlainList D ys → vs.length = n → (∀ j v, vs[j]? = some v → Pi j v) → Paired F (vs.filter p) ys.toList → h'.Ns env.locals (fun z => if z = y then some (.ref D) else m z) →
        (∀ b o, b ≠ env.locals → h1.get? b = some o → h'.get? b = some o) → P .next h')
    (hcell : ∀ y ∈ scope.names, y.2 ≠ .cell := by decide) (hkind : scope.kind = .function := by rfl)
    (hnames : ∀ y ∈ scope.names, y.2 = .local → scope.names.lookup y.1 = some .local := by decide) (hx : scope.names.lookup x = some .local := by rfl)
    (hs : ∀ x, foldedSetIterable iter env x = pure x := by intro _; rfl) :
    Run prog w A s0 (exec (.Assign [.Name y py] (.ListComp elt [⟨.Name x px, iter, ifs, 0⟩] scope pos) spos) env) h P := fun tk => by
  rw [exec_Assign_Name_used _ _ _ _ hsw]
  refine wpAny_bind (wpAny_standAt (wpAny_bind ?_))
  show wpAny _ A (do let _ ← comprehension (.ListComp elt [⟨.Name x px, iter, ifs, 0⟩] scope pos) scope env _ (newList []) false (eval iter env) (some (assign (.Name y py) env))) _ _ _
  refine wpAny_bind (wpAny_mono (wpAny_comprehension_free (use := some (assign (.Name y py) env)) (Q := fun _ s' => ∃ h' tk', s' = { s0 with heap := h', toks := tk' } ∧ P .next h') rfl hs hclos hkind hnames
    (src.use tk fun xv h1 t1 q1 => q1.use t1 fun it h2 t2 q2 => ?_)) (fun _ s' hq => wpAny_pure (wpAny_pure hq)) fun _ _ e => e)
  obtain ⟨I, fp, n, Pi, St, p, F, m, rfl, W, hsz, hst, hfp, hk, hn, T, fin⟩ := q2
  refine comp_block_walkC (s₂ := { s0 with heap := h2, toks := t2 }) (RR := fun acc C => compPost (model prog w) A (fun _ _ => False) (some (assign (.Name y py) env)) (fun _ s' => ∃ h' tk', s' = { s0 with heap := h', toks := tk' } ∧ P .next h') acc C) W hsz p F hcell hkind hx hst hfp (T.quiet hk) ?_
  intro D C h' tk' m' ys vs hD hC hDC hnC hlD hplD hlen hP hF hkp
  have hD1 : h1.get? D = none := none_of_kp (fun b o e => (hk b o e).2) hD
  have hC1 : h1.get? C = none := none_of_kp (fun b o e => (hk b o e).2) hC
  have hLC : env.locals ≠ C := by rintro rfl; obtain ⟨o, _, _, ho, _⟩ := hn; rw [hC1] at ho; cases ho
  have hLD : env.locals ≠ D := by rintro rfl; obtain ⟨o, _, _, ho, _⟩ := hn; rw [hD1] at ho; cases ho
  have up : Kp h1 h' := fun b o e => hkp b o (hk b o e).1 (hk b o e).2
  show wpAny _ A (assign (.Name y py) env (.ref D)) _ _ _
  refine wpAny_assign_Name (wpAny_storeName_local hy (hn.keeps up) (fun h₂ hn₂ hs₂ => ?_) (by rw [hek]; rfl))
  refine ⟨m', hnC.sameBut hs₂ (Ne.symm hLC), fun h₃ hs₃ => ⟨_, _, rfl, ?_⟩⟩
  exact fin D h₃ ys vs hD1 ((hplD.extBut hs₂.extBut (Ne.symm hLD)).extBut hs₃.extBut hDC) hlen hP hF (hn₂.sameBut hs₃ hLC) fun b o hbL e =>
    hs₃.extBut b o (by rintro rfl; rw [hC1] at e; cases e) (hs₂.extBut b o hbL (up b o e))
end
end Mine

namespace Mine
noncomputable section
open PySem PySem.W PySem.Calls PyProof.Rows
set_option maxRecDepth 100000
set_option linter.unusedVariables false

/-- the 29 signs, as code points -/
noncomputable def sgs : List (List Nat) := [[33, 61], [37, 61], [38, 61], [40], [41], [42, 42, 61], [42, 61], [43, 61], [44], [45, 61], [45, 62], [46, 46, 46], [47, 47, 61], [47, 61], [58, 61], [59], [60, 60, 61], [60, 61], [61, 61], [62, 61], [62, 62, 61], [64, 61], [91], [93], [94, 61], [123], [124, 61], [125], [126]]
noncomputable def nums : List Int := [28, 40, 41, 7, 8, 46, 38, 36, 12, 37, 51, 52, 48, 39, 53, 13, 44, 29, 27, 30, 45, 50, 9, 10, 43, 25, 42, 26, 31]
noncomputable def sg (k : Nat) : List Nat := sgs.getD k []
noncomputable def num (k : Nat) : Int := nums.getD k 0

/-- the table of the operators: a text, its code points, its number, two tokens -/
noncomputable def ents : List (String × List Nat × Int × Nat × Nat) := [("!", [33], 54, 300, 298), ("!=", [33, 61], 28, 302, 246), ("%", [37], 24, 304, 238), ("%=", [37, 61], 40, 306, 270), ("&", [38], 19, 308, 228), ("&=", [38, 61], 41, 310, 272), ("(", [40], 7, 312, 204), (")", [41], 8, 314, 206), ("*", [42], 16, 316, 222), ("**", [42, 42], 35, 318, 260), ("**=", [42, 42, 61], 46, 320, 282), ("*=", [42, 61], 38, 322, 266), ("+", [43], 14, 324, 218), ("+=", [43, 61], 36, 326, 262), (",", [44], 12, 328, 214), ("-", [45], 15, 330, 220), ("-=", [45, 61], 37, 332, 264), ("->", [45, 62], 51, 334, 292), (".", [46], 23, 336, 236), ("...", [46, 46, 46], 52, 338, 294), ("/", [47], 17, 340, 224), ("//", [47, 47], 47, 342, 284), ("//=", [47, 47, 61], 48, 344, 286), ("/=", [47, 61], 39, 346, 268), (":", [58], 11, 348, 212), (":=", [58, 61], 53, 350, 296), (";", [59], 13, 352, 216), ("<", [60], 20, 354, 230), ("<<", [60, 60], 33, 356, 256), ("<<=", [60, 60, 61], 44, 358, 278), ("<=", [60, 61], 29, 360, 248), ("=", [61], 22, 362, 234), ("==", [61, 61], 27, 364, 244), (">", [62], 21, 366, 232), (">=", [62, 61], 30, 368, 250), (">>", [62, 62], 34, 369, 258), (">>=", [62, 62, 61], 45, 370, 280), ("@", [64], 49, 371, 288), ("@=", [64, 61], 50, 372, 290), ("[", [91], 9, 373, 208), ("]", [93], 10, 374, 210), ("^", [94], 32, 375, 254), ("^=", [94, 61], 43, 376, 276), ("{", [123], 25, 377, 240), ("|", [124], 18, 378, 226), ("|=", [124, 61], 42, 379, 274), ("}", [125], 26, 380, 242), ("~", [126], 31, 381, 252)]
noncomputable def look (l : List Nat) : Option Int := (ents.find? fun e => e.2.1 = l).map (·.2.2.1)

theorem ents_codes : ∀ e ∈ ents, Str.ofString e.1 = mkS e.2.1 := by decide +kernel
noncomputable def entOf (P : Params) (e : String × List Nat × Int × Nat × Nat) : DictEntry := ⟨PyData.keyHash P (Str.ofString e.1), .str (Str.ofString e.1) e.2.2.2.1, .int e.2.2.1 e.2.2.2.2⟩
theorem look29 (P : Params) : (KK P).lookup 29 = some ⟨.type "dict", none, .dict (ents.map (entOf P)).toArray 48, #[]⟩ := rfl
theorem keys29 (P : Params) : ∀ l : List (String × List Nat × Int × Nat × Nat), KeysLit P (l.map (entOf P))
  | [] => True.intro
  | e :: l => ⟨⟨_, _, rfl, rfl⟩, keys29 P l⟩
theorem find29 (P : Params) (x : List Nat) : findBy Value.isStrOf (ents.map (entOf P)).toArray (mkS x) = (ents.find? fun e => e.2.1 = x).map fun e => Value.int e.2.2.1 e.2.2.2.2 := by
  unfold findBy
  rw [List.find?_toArray, List.find?_map, Option.map_map]
  have : ∀ l : List (String × List Nat × Int × Nat × Nat), (∀ e ∈ l, Str.ofString e.1 = mkS e.2.1) → l.find? ((fun e : DictEntry => Value.isStrOf (mkS x) e.key) ∘ entOf P) = l.find? fun e => e.2.1 = x := by
    intro l
    induction l with
    | nil => intro _; rfl
    | cons e l ih =>
      intro hl
      have h1 := hl e List.mem_cons_self
      have h2 : ((fun e : DictEntry => Value.isStrOf (mkS x) e.key) ∘ entOf P) e = decide (e.2.1 = x) := by
        show (Str.ofString e.1 == mkS x) = _
        rw [h1]
        by_cases h : e.2.1 = x
        · rw [h]; simp
        · have : mkS e.2.1 ≠ mkS x := fun q => h (congrArg (fun s : Str => s.cps.toList) q)
          simp [h, this]
      rw [List.find?_cons, List.find?_cons, h2, ih fun e he => hl e (List.mem_cons_of_mem _ he)]
  rw [this _ ents_codes]
  rfl

/-! reading a sign -/
theorem sg_in : ∀ k, k < 29 → look (sg k) = some (num k) := by decide +kernel
theorem sg_len : ∀ k, k < 29 → 1 ≤ (sg k).length ∧ (sg k).length ≤ 3 := by decide +kernel
theorem sg_whole : ∀ k, k < 29 → ∀ e ∈ ents, sg k <+: e.2.1 → e.2.1 = sg k := by decide +kernel
theorem look_mem {x : List Nat} {v : Int} (h : look x = some v) : ∃ e ∈ ents, e.2.1 = x := by
  unfold look at h
  obtain ⟨e, he, _⟩ := Option.map_eq_some_iff.mp h
  exact ⟨e, List.mem_of_find?_eq_some he, by simpa using List.find?_some he⟩
/-- a piece of the text that stands in the table and is no shorter than its first sign is that sign -/
theorem piece_is {k : Nat} (hk : k < 29) (rest : List Nat) {n : Nat} (hn : (sg k).length ≤ n) (h : (look ((sg k ++ rest).take n)).isSome = true) : (sg k ++ rest).take n = sg k := by
  obtain ⟨v, hv⟩ := Option.isSome_iff_exists.mp h
  obtain ⟨e, he, e2⟩ := look_mem hv
  rw [← e2]
  refine sg_whole k hk e he ?_
  rw [e2, List.take_append, List.take_of_length_le hn]
  exact List.prefix_append ..
theorem piece_at {k : Nat} (rest : List Nat) : (sg k ++ rest).take (sg k).length = sg k := by simp

end
end Mine

namespace Mine
noncomputable section
open PySem PySem.W PySem.Calls PyProof.Rows
set_option maxRecDepth 100000
set_option linter.unusedVariables false

/-- the text of a row of signs -/
noncomputable def txt (r : List Nat) : List Nat := r.flatMap sg
theorem txt_cons (k : Nat) (r : List Nat) : txt (k :: r) = sg k ++ txt r := rfl
theorem txt_len : ∀ (r : List Nat), (∀ k ∈ r, k < 29) → (txt r).length ≤ 3 * r.length
  | [], _ => Nat.le_refl _
  | k :: r, h => by
    have h1 := (sg_len k (h k List.mem_cons_self)).2
    have h2 := txt_len r fun j hj => h j (List.mem_cons_of_mem _ hj)
    rw [txt_cons, List.length_append, List.length_cons]; lia

section
variable {prog : Program} {w : World} {A : Around} {s0 : Shared} {h : Heap} {env : Env} {P : Value → Heap → Prop} {mg mb : Str → Option Value}

theorem rv_snel {x y : List Nat} {y' : Str} {t u : Tok} (e : y' = mkS y) (p : P (.bool (x != y)) h) : Run prog w A s0 (compareOp .NotEq (.str (mkS x) t) (.str y' u)) h P := by
  subst e; exact rv_sne p
theorem rv_eqlen {l b : Addr} {items items2 : Array Value} {n n2 : Nat} (hl : IsL h l items n) (hb : IsL h b items2 n2) (hsz : (items.size != items2.size) = true) (hu : A.units < 9900) (p : P (.bool false) h) :
    Run prog w A s0 (compareOp .Eq (.ref l) (.ref b)) h P := fun tk => SeqAt.eq_list_lengthsAt hl.isList hb.isList hsz hu ⟨_, _, rfl, p⟩
theorem rv_in29 (B : Bs w mg mb h) {x : List Nat} {t : Tok} (p : P (.bool (look x).isSome) h) : Run prog w A s0 (compareOp .In (.str (mkS x) t) (.ref 29)) h P := fun tk => by
  refine wpAny_in_of (strKind_is prog w (mkS x) t) rfl (mapOf_K (prog := prog) B.k (look29 w.params) (keys29 w.params ents)) ⟨_, _, rfl, ?_⟩
  rw [find29]
  have e : (Option.map (fun e : String × List Nat × Int × Nat × Nat => Value.int e.2.2.1 e.2.2.2.2) (ents.find? fun e => e.2.1 = x)).isSome = (look x).isSome := by
    unfold look; cases ents.find? fun e => decide (e.2.1 = x) <;> rfl
  rw [e]; exact p
theorem rv_get29 (B : Bs w mg mb h) {value slice : PySem.Expr} {x : List Nat} {t : Tok} {v : Int} (hv : look x = some v) (p : ∀ t, P (.int v t) h)
    (hs : subscripted slice false (.ref 29) (.str (mkS x) t) = operate [.ref 29, .str (mkS x) t] (getItem (.ref 29) (.str (mkS x) t))) :
    Run prog w A s0 (subscriptTail value slice (.ref 29) (.str (mkS x) t)) h P := fun tk => by
  have hm := mapOf_K (prog := prog) B.k (look29 w.params) (keys29 w.params ents)
  unfold look at hv
  obtain ⟨e, he, rfl⟩ := Option.map_eq_some_iff.mp hv
  exact tail_any (Heap.MapOf.typeIs (s := { s0 with heap := h, toks := tk }) hm) slot_dict_getitem.lookup (wpAny_getItem_of (strKind_is prog w (mkS x) t) hm (by rw [find29, he]; rfl) ⟨_, _, rfl, p _⟩) hs

theorem cell_ne_list {h : Heap} {c D : Addr} {v : Option Value} {items : Array Value} {n : Nat} (x : h.IsCell c v) (y : IsL h D items n) : D ≠ c := by
  rintro rfl
  obtain ⟨o, ho, hd⟩ := x
  rw [IsL, ho] at y
  cases y
  cases hd
theorem cell_ne_ns {h : Heap} {c L : Addr} {v : Option Value} {m : Str → Option Value} (x : h.IsCell c v) (y : h.Ns L m) : L ≠ c := by
  rintro rfl
  obtain ⟨o, ho, hd⟩ := x
  obtain ⟨o', es, ep, ho', hd', _⟩ := y
  rw [ho] at ho'; cases ho'
  rw [hd] at hd'; cases hd'
theorem CellAt.same {h h' : Heap} {c a : Addr} {v : Value} (x : CellAt h c v) (s : Heap.SameBut a h h') (hn : c ≠ a) : CellAt h' c v := Heap.IsCell.sameBut (v := some v) x s hn
theorem notil_cell {h : Heap} {c : Addr} {v : Option Value} (x : h.IsCell c v) (q : List Int) : ¬ IL h c q := by
  rintro ⟨us, n, e, i⟩
  exact cell_ne_list x e rfl

theorem pv_sitem {ve ie : PySem.Expr} {pos : Pos} {l : Addr} {xs : List (List Nat)} {k : Int} {x : List Nat} (a : Pv prog w env ve h (· = .ref l)) (y : Pv prog w env ie h fun v => ∃ t, v = .int k t) (hl : SL h l xs)
    (h0 : 0 ≤ k) (hfit : k < 2 ^ 20) (hx : xs[k.toNat]? = some x)
    (hs : ∀ u, subscripted ie false (.ref l) (.int k u) = operate [.ref l, .int k u] (getItem (.ref l) (.int k u)) := by intro u; with_unfolding_all rfl) :
    Pv prog w env (.Subscript ve ie pos) h fun v => ∃ t, v = .str (mkS x) t := fun A s0 h' kk => ev_Subscript ((a.kp kk).run fun o e => (y.kp kk).run fun i f => by
  subst e; obtain ⟨u, rfl⟩ := f
  intro tk
  obtain ⟨vs, n, hL, hi⟩ := hl.kp kk
  obtain ⟨t, ht⟩ := hi.get hx
  exact tail_any (Heap.IsList.typeIs (s := { s0 with heap := h', toks := tk }) hL.isList) slot_list_getitem.lookup
    (wpAny_getItem_list (x := .str (mkS x) t) hL.isList h0 (by lia) (by simpa using ht) ⟨_, _, rfl, ⟨t, rfl⟩, rfl⟩) (hs u))

theorem ev_tuple3 {a b c : PySem.Expr} {k : Nat} {pos : Pos} (r : Run prog w A s0 (eval a env) h fun va h1 => Run prog w A s0 (eval b env) h1 fun vb h2 => Run prog w A s0 (eval c env) h2 fun vc h3 =>
      P (.ref h3.objs.size) (h3.push { cls := .type "tuple", data := .seq [va, vb, vc].toArray }))
    (he : starEach [a, b, c] env = (false, eval a env) :: starEach [b, c] env := by rfl) (he' : starEach [b, c] env = (false, eval b env) :: starEach [c] env := by rfl) (he'' : starEach [c] env = (false, eval c env) :: starEach [] env := by rfl) :
    Run prog w A s0 (eval (.Tuple [a, b, c] k pos) env) h P := fun tk =>
  Tuple_ (args_cons (r.use tk fun va h1 t1 q => args_cons (q.use t1 fun vb h2 t2 q' => args_cons (q'.use t2 fun vc h3 t3 q'' => args_nil (wpAny_newTuple ⟨_, _, rfl, q''⟩)) he'') he') he)
end

/-- what a comprehension over ints has made of them, texts -/
theorem paired_strs {q : Int → Bool} {g : Int → List Nat} {P : Value → Bool} {F : Value → Value → Prop} (hP : ∀ i t, P (.int i t) = q i) (hF : ∀ i t y, F (.int i t) y → ∃ u, y = .str (mkS (g i)) u) :
    ∀ {vs : List Value} {ns : List Int} {ys : List Value}, IntsAre vs ns → Paired F (vs.filter P) ys → StrsV ys ((ns.filter q).map g) := by
  intro vs ns ys hi
  induction hi generalizing ys with
  | nil => intro hp; cases hp; exact .nil
  | cons n t _ ih =>
    intro hp
    by_cases hc : q n = true
    · rw [List.filter_cons_of_pos (by rw [hP]; exact hc)] at hp
      rw [List.filter_cons_of_pos hc, List.map_cons]
      cases hp with
      | cons h1 h2 =>
        obtain ⟨u, rfl⟩ := hF _ _ _ h1
        exact .cons _ _ (ih h2)
    · rw [List.filter_cons_of_neg (by rw [hP]; exact hc)] at hp
      rw [List.filter_cons_of_neg hc]
      exact ih hp

theorem first_piece {k : Nat} (hk : k < 29) (rest : List Nat) : ∃ ps, (([3, 2, 1] : List Int).filter fun i => (look ((sg k ++ rest).take i.toNat)).isSome).map (fun i => (sg k ++ rest).take i.toNat) = sg k :: ps ∧ ps.length ≤ 3 := by
  have hsl := sg_len k hk
  have hat := piece_at (k := k) rest
  have hin : (look (sg k)).isSome = true := by rw [sg_in k hk]; rfl
  have key : ∀ (is : List Int) (i : Int), 0 ≤ i → (sg k).length ≤ i.toNat → (look ((sg k ++ rest).take i.toNat)).isSome = true → is.length ≤ 2 →
      ∃ ps, ((i :: is).filter fun i => (look ((sg k ++ rest).take i.toNat)).isSome).map (fun i => (sg k ++ rest).take i.toNat) = sg k :: ps ∧ ps.length ≤ 3 := by
    intro is i _ hle hlook hlen
    rw [List.filter_cons_of_pos (by exact hlook), List.map_cons, piece_is hk rest hle hlook]
    refine ⟨_, rfl, ?_⟩
    rw [List.length_map]
    have := List.length_filter_le (fun i : Int => (look ((sg k ++ rest).take i.toNat)).isSome) is
    lia
  have at_ : ∀ i : Int, i.toNat = (sg k).length → (look ((sg k ++ rest).take i.toNat)).isSome = true := fun i e => by rw [e, hat]; exact hin
  by_cases h3 : (look ((sg k ++ rest).take (3 : Int).toNat)).isSome = true
  · exact key [2, 1] 3 (by decide) (by have : (3 : Int).toNat = 3 := rfl; lia) h3 (by decide)
  · rw [List.filter_cons_of_neg (by exact h3)]
    have hl3 : (sg k).length ≠ 3 := fun e => h3 (at_ 3 (by rw [e]; rfl))
    by_cases h2 : (look ((sg k ++ rest).take (2 : Int).toNat)).isSome = true
    · exact key [1] 2 (by decide) (by have : (2 : Int).toNat = 2 := rfl; lia) h2 (by decide)
    · rw [List.filter_cons_of_neg (by exact h2)]
      have hl2 : (sg k).length ≠ 2 := fun e => h2 (at_ 2 (by rw [e]; rfl))
      exact key [] 1 (by decide) (by have : (1 : Int).toNat = 1 := rfl; lia) (at_ 1 (by show 1 = _; lia)) (by decide)

section
variable {prog : Program} {w : World} {mg mb : Str → Option Value}

/-- what _law_read hands back -/
inductive ReadOut (h : Heap) (r : List Nat) (v : Value) (h' : Heap) : Prop
  | mk : (∃ D, v = .ref D ∧ h.get? D = none ∧ IL h' D (r.map num)) → Kp h h' → ReadOut h r v h'
/-- its while -/
inductive ReadW (h : Heap) (D : Addr) (r : List Nat) (n : Nat) (hc : Heap) : Prop
  | mk (m : Str → Option Value) (dn rest : List Nat) (t : Tok) : hc.Ns h.objs.size m → Kp h hc → m "told" = some (.ref D) → IL hc D (dn.map num) → CellAt hc (h.objs.size + 1) (.str (mkS (txt rest)) t) → r = dn ++ rest → n = rest.length → ReadW h D r n hc

theorem read_ok (r : List Nat) (hr : ∀ k ∈ r, k < 29) (hrl : r.length ≤ 8) (A : Around) (s0 : Shared) (h : Heap) (t0 : Tok) (B : Bs w mg mb h) (R : Room A 20) :
    Run prog w A s0 (call (.ref 69) [.str (mkS (txt r)) t0]) h (ReadOut h r) := by
  refine run_cells R (B.k 69 _ rfl) rfl B.nolimit (codeRec_of B.k (by rfl)) rfl (binds := [("text", .str (mkS (txt r)) t0)]) rfl rfl ?_ ?_
  · intro x hx
    rw [List.mem_singleton.mp hx]
    exact .inr ⟨rfl, rfl⟩
  intro h1 k1 n1 c1
  have cL : CellAt h1 (h.objs.size + 1) (.str (mkS (txt r)) t0) := (c1 "text" (h.objs.size + 1) rfl).1
  have hL0 : h.get? h.objs.size = none := get_none_of_le (Nat.le_refl _)
  have hC0 : h.get? (h.objs.size + 1) = none := get_none_of_le (Nat.le_succ _)
  refine st_cons (st_assign (ev_list0 (rb_newList (by simp) fun D h2 k2 hD0 hD2 => ⟨_, ns_kp n1 k2, fun h3 n3 s3 => ?_⟩)) rfl rfl)
  have k3 : Kp h h3 := kp_same (k1.trans k2) hL0 s3
  have hD3 : IL h3 D [] := IL.same (m := _) ⟨[], 0, hD2, .nil⟩ (ns_kp n1 k2) s3
  have hDh : h.get? D = none := none_of_kp k1 hD0
  have c3 : CellAt h3 (h.objs.size + 1) (.str (mkS (txt r)) t0) := (cL.kp k2).same s3 (by show h.objs.size + 1 ≠ h.objs.size; lia)
  refine st_cons (st_while (ReadW h D r) r.length
    ⟨_, [], r, t0, n3, k3, rfl, hD3, c3, rfl, rfl⟩ ?_)
  rintro n hc ⟨m, dn, rest, tt, ns, kc, hm, il, cc, hrr, rfl⟩
  refine ev_test (ev_Name (has_cell cc rfl rfl rfl) (ev_str fun t1 => ?_))
  refine rv_snel (y := []) (by decide +kernel) ⟨_, rfl, ?_⟩
  cases hrest : rest with
  | nil =>
    subst hrest
    rw [if_neg (by decide)]
    refine st_cons (st_ret (ev_Name (has_local ns hm rfl rfl rfl) ?_))
    rw [List.append_nil] at hrr
    subst hrr
    exact ⟨⟨D, rfl, hDh, il⟩, kc⟩
  | cons k rest' =>
    subst hrest
    have hk : k < 29 := hr k (by rw [hrr]; simp)
    have hsl := sg_len k hk
    have hne : (txt (k :: rest') != []) = true := by
      rw [txt_cons]
      cases e : sg k with
      | nil => rw [e] at hsl; simp at hsl
      | cons _ _ => simp
    rw [if_pos hne]
    have htl : (txt (k :: rest')).length ≤ 24 := by
      have := txt_len (k :: rest') fun j hj => hr j (by rw [hrr]; exact List.mem_append_right _ hj)
      have h2 : r.length = dn.length + (k :: rest').length := by rw [hrr, List.length_append]
      lia
    have Bc := B.kp kc
    generalize htx : txt (k :: rest') = tx at *
    refine st_cons (st_comp (cl := [("text", h.objs.size + 1)]) rfl rfl rfl rfl ?_)
    refine ev_tuple3 (ev_int fun t3 => ev_int fun t2 => ev_int fun t1 => ?_)
    intro tk
    refine wpAny_pyIter_tuple (items := [Value.int 3 t3, .int 2 t2, .int 1 t1].toArray) ⟨_, Heap.get?_push_size _ rfl, rfl, 0, rfl⟩ ⟨_, _, rfl, ?_⟩
    generalize hh1 : hc.push { cls := .type "tuple", data := .seq [Value.int 3 t3, .int 2 t2, .int 1 t1].toArray } = h4
    have k4 : Kp hc h4 := by rw [← hh1]; exact Kp.push _ _
    have hT4 : h4.IsTuple hc.objs.size [Value.int 3 t3, .int 2 t2, .int 1 t1].toArray := by rw [← hh1]; exact ⟨_, Heap.get?_push_size _ rfl, rfl, 0, rfl⟩
    have hlt4 : hc.objs.size < h4.objs.size := by obtain ⟨o, ho, _⟩ := hT4; exact Heap.lt_size ho
    have hpush : Kp h4 (h4.push { cls := .type "tuple_iterator", data := .fields #[.ref hc.objs.size, .int 0 0] }) := Kp.push _ _
    refine ⟨h4.objs.size, [h4.objs.size, hc.objs.size], [Value.int 3 t3, .int 2 t2, .int 1 t1].toArray.size, fun i v => [Value.int 3 t3, .int 2 t2, .int 1 t1].toArray[i]? = some v, fun i h => h.IsTupleIter h4.objs.size hc.objs.size i ∧ h.IsTuple hc.objs.size [Value.int 3 t3, .int 2 t2, .int 1 t1].toArray, (fun v => match v with | .int i _ => (look (tx.take i.toNat)).isSome | _ => false), (fun v y => ∃ i t t', v = .int i t ∧ y = .str (mkS (tx.take i.toNat)) t'), m, rfl,
      Walks.tuple (by exact R.hd) h4.objs.size hc.objs.size (Nat.ne_of_lt hlt4) _, by rw [sizeLine_eq, List.size_toArray]; simp only [List.length_cons, List.length_nil]; lia, ⟨⟨_, Heap.get?_push_size _ rfl, rfl, rfl⟩, hT4.at fun o e => hpush _ o e⟩, ?_, fun b o e => ⟨by simpa using Nat.ne_of_lt (Heap.lt_size e), hpush b o e⟩, ns_kp ns k4, ⟨?_, ?_⟩, ?_⟩
    · intro b hb
      show b < (h4.push _).objs.size
      rw [Heap.size_push]
      rcases List.mem_cons.mp hb with rfl | hb
      · exact Nat.lt_succ_self _
      · rw [List.mem_singleton.mp hb]; exact Nat.lt_succ_of_lt hlt4
    · intro s1 C i v h5 m5 hi k5 n5 hm5 hC
      have k45 := k4.trans k5
      obtain ⟨j, tj, rfl, hj⟩ : ∃ (j : Int) (tj : Tok), v = .int j tj ∧ 0 ≤ j := by
        have hi' : [Value.int 3 t3, .int 2 t2, .int 1 t1][i]? = some v := by simpa using hi
        match i, hi' with
        | 0, e => exact ⟨3, t3, by simpa using e.symm, by decide⟩
        | 1, e => exact ⟨2, t2, by simpa using e.symm, by decide⟩
        | 2, e => exact ⟨1, t1, by simpa using e.symm, by decide⟩
        | i + 3, e => simp at e
      refine tests_one (ev_test (ev_supto (pv_Name (has_cell (cc.kp k45) rfl rfl rfl)) ((pv_Name (has_local n5 hm5 rfl rfl rfl)).mono fun v e => ⟨tj, e⟩) hj (by lia) fun t' h6 k6 => ?_))
      refine ev_Name (has_global ((Bc.kp k45).kp k6) rfl rfl rfl rfl) ?_
      exact rv_in29 ((Bc.kp k45).kp k6) ⟨_, rfl, rfl, k6⟩
    · intro s1 C i v h5 m5 hi hp5 k5 n5 hm5 hC
      have k45 := k4.trans k5
      obtain ⟨j, tj, rfl, hj⟩ : ∃ (j : Int) (tj : Tok), v = .int j tj ∧ 0 ≤ j := by
        have hi' : [Value.int 3 t3, .int 2 t2, .int 1 t1][i]? = some v := by simpa using hi
        match i, hi' with
        | 0, e => exact ⟨3, t3, by simpa using e.symm, by decide⟩
        | 1, e => exact ⟨2, t2, by simpa using e.symm, by decide⟩
        | 2, e => exact ⟨1, t1, by simpa using e.symm, by decide⟩
        | i + 3, e => simp at e
      exact ev_supto (pv_Name (has_cell (cc.kp k45) rfl rfl rfl)) ((pv_Name (has_local n5 hm5 rfl rfl rfl)).mono fun v e => ⟨tj, e⟩) hj (by lia) fun t' h6 k6 => ⟨⟨j, tj, t', rfl, rfl⟩, k6⟩
    · intro Dp h5 ys vs hDp hpl hlen hvs hpair n5 kx5
      have hvs' : vs = [Value.int 3 t3, .int 2 t2, .int 1 t1] := by
        have := list_of_places (items := [Value.int 3 t3, .int 2 t2, .int 1 t1].toArray) (vs := vs) hlen hvs
        simpa using this
      subst hvs'
      have hpieces : ∃ ps, StrsV ys.toList (sg k :: ps) ∧ ps.length ≤ 3 := by
        have hs := paired_strs (q := fun i => (look (tx.take i.toNat)).isSome) (g := fun i => tx.take i.toNat) (ns := [3, 2, 1]) (fun i t => rfl) (fun i t y q => by
          obtain ⟨i', t', u, e, rfl⟩ := q
          cases e
          exact ⟨u, rfl⟩) (.cons 3 t3 (.cons 2 t2 (.cons 1 t1 .nil))) hpair
        obtain ⟨ps, e, hl⟩ := first_piece hk (txt rest')
        rw [← txt_cons, htx] at e
        rw [e] at hs
        exact ⟨ps, hs, hl⟩
      obtain ⟨ps, hps, hpsl⟩ := hpieces
      obtain ⟨np, hIp⟩ := hpl
      have hSL : SL h5 Dp (sg k :: ps) := ⟨ys.toList, np, by simpa using hIp, hps⟩
      have hLc : h.objs.size ≠ h.objs.size + 1 := by lia
      have kh5 : Kp h h5 := fun b o e => kx5 b o (by show b ≠ h.objs.size; rintro rfl; rw [hL0] at e; cases e) (k4 _ _ (kc _ _ e))
      have il5 : IL h5 D (dn.map num) := by
        obtain ⟨us, nn, e, i⟩ := id il
        exact ⟨us, nn, kx5 D _ (isL_ne_ns ns e) (k4 _ _ e), i⟩
      have cc5 : CellAt h5 (h.objs.size + 1) (.str (mkS tx) tt) := by
        obtain ⟨o, ho, hd⟩ := cc
        exact ⟨o, kx5 _ _ (Ne.symm hLc) (k4 _ _ ho), hd⟩
      have n5' : h5.Ns h.objs.size (fun z => if z = "pieces" then some (.ref Dp) else m z) := n5
      have hm5 : (fun z => if z = "pieces" then some (.ref Dp) else m z) "told" = some (Value.ref D) := by rw [← hm]; rfl
      have B5 := B.kp kh5
      have hu : A.units < 9700 := by have := R.un; lia
      refine st_cons (st_if (ev_test (ev_Name (has_local n5' rfl rfl rfl rfl) (ev_list0 (rb_newList (by simp) fun le h6 k6 _ hle => ?_)))))
      refine rv_eqlen (k6 _ _ hIp) hle ?_ (by show A.units + 3 < 9900; lia) ⟨_, rfl, ?_⟩
      · have e1 := hps.length
        rw [Array.length_toList, List.length_cons] at e1
        rw [e1]; simp
      rw [if_neg Bool.false_ne_true]
      refine st_nil ?_
      have n6 := ns_kp n5' k6
      have B6 := B5.kp k6
      obtain ⟨us, nn, eD, iD⟩ := id (il5.kp k6)
      have hus := iD.length
      have hdl : dn.length ≤ 8 := by rw [hrr, List.length_append] at hrl; lia
      refine st_cons (st_expr (ev_methL1 PySem.F.slot_list_append PySem.F.type_list_append (ev_Name (has_local n6 hm5 rfl rfl rfl) ⟨D, _, _, rfl, eD, ?_⟩)))
      refine ev_Subscript (ev_Name (has_global B6 rfl rfl rfl rfl) ?_)
      refine (pv_sitem (x := sg k) (pv_Name (has_local n6 rfl rfl rfl rfl)) pv_int (hSL.kp k6) (by decide) (by decide) rfl).run fun v e => ?_
      obtain ⟨t7, rfl⟩ := e
      refine rv_get29 B6 (sg_in k hk) (fun t8 => ?_) (by with_unfolding_all rfl)
      refine rb_append eD (by rw [hus, List.length_map]; lia) fun h7 n7 hD7 s7 => ⟨rfl, ?_⟩
      have cc6 := cc5.kp k6
      have hcD : D ≠ h.objs.size + 1 := cell_ne_list (v := some _) cc6 eD
      have hLD : D ≠ h.objs.size := isL_ne_ns n6 eD
      have nn7 := n6.sameBut s7 (Ne.symm hLD)
      have cc7 := cc6.same s7 (Ne.symm hcD)
      have kh7 : Kp h h7 := kp_same (kh5.trans k6) hDh s7
      have hSL7 : SL h7 Dp (sg k :: ps) := by
        obtain ⟨v1, n1', e1, i1⟩ := hSL.kp k6
        refine ⟨v1, n1', s7.extBut _ _ (fun q => ?_) e1, i1⟩
        have : IsL h6 D v1.toArray n1' := by rw [← q]; exact e1
        rw [IsL, eD] at this
        have := Option.some.inj this
        simp only [Obj.mk.injEq, Data.seq.injEq] at this
        have h1 := congrArg Array.toList this.2.2.1.1
        simp only at h1
        rw [h1] at iD
        cases i1 with
        | cons x t r => cases iD
      have B7 := B.kp kh7
      refine st_cons (st_assignC (c := h.objs.size + 1) (ev_sfrom (pv_Name (has_cell cc7 rfl rfl rfl)) (by lia) (ev_callB1 (has_builtin B7 rfl rfl (by decide) rfl rfl rfl rfl) ?_)) rfl rfl rfl)
      refine (pv_sitem (x := sg k) (pv_Name (has_local nn7 rfl rfl rfl rfl)) pv_int hSL7 (by decide) (by decide) rfl).run fun v e => ?_
      obtain ⟨t9, rfl⟩ := e
      refine rb_slen (by lia) fun t10 => ⟨_, t10, rfl, by lia, ?_, fun t11 h8 k8 => ⟨⟨_, cc7.kp k8⟩, fun h9 cc9 s9 => ?_⟩⟩
      · rw [← htx, txt_cons, List.length_append]; lia
      · have hdrop : tx.drop ((sg k).length : Int).toNat = txt rest' := by rw [← htx, txt_cons, Int.toNat_natCast, List.drop_left]
        rw [hdrop] at cc9
        have nn8 := ns_kp nn7 k8
        have hLc8 : h.objs.size ≠ h.objs.size + 1 := by lia
        have il7 : IL h7 D ((dn ++ [k]).map num) := ⟨_, n7, hD7, by rw [List.map_append]; exact iD.append (.cons _ _ .nil)⟩
        refine st_nil ⟨rest'.length, by rw [List.length_cons]; lia, _, dn ++ [k], rest', t11, nn8.sameBut s9 hLc8, kp_same (kh7.trans k8) hC0 s9, hm5, ?_, cc9, by rw [hrr]; simp, rfl⟩
        exact (il7.kp k8).other s9 hcD
end
end
end Mine

namespace Mine
noncomputable section
open PySem PySem.W PySem.Calls PyProof.Rows
set_option maxRecDepth 100000
set_option linter.unusedVariables false

/-- -1, 0 or 1, by the order of the two texts -/
noncomputable def coll (x y : List Nat) : Int := b2i (decide (y < x)) - b2i (decide (x < y))

/-- constants of a list display -/
inductive CI : List PySem.Expr → List Int → Prop
  | nil : CI [] []
  | cons {i : Int} {k : Nat} {pos : Pos} {es : List PySem.Expr} {ns : List Int} : CI es ns → CI (.Constant (.int i) k pos :: es) (i :: ns)
/-- a list of texts -/
noncomputable def SI (h : Heap) (l : Addr) (xs : List (List Nat)) : Prop := ∃ vs, h.IsList l vs.toArray ∧ StrsV vs xs
theorem SI.kp {h h' : Heap} {l : Addr} {xs : List (List Nat)} (x : SI h l xs) (k : Kp h h') : SI h' l xs := let ⟨vs, ⟨o, a, b⟩, c⟩ := x; ⟨vs, ⟨o, k _ _ a, b⟩, c⟩
theorem strsV_of : ∀ {l : List (Str × Tok)} {xs : List (List Nat)}, l.map (·.1) = xs.map mkS → StrsV (strValues l) xs
  | [], [], _ => .nil
  | [], _ :: _, e => by simp at e
  | _ :: _, [], e => by simp at e
  | (s, t) :: l, x :: xs, e => by
    simp only [List.map_cons, List.cons.injEq] at e
    obtain ⟨rfl, e2⟩ := e
    exact .cons x t (strsV_of e2)

section
variable {prog : Program} {w : World} {A : Around} {s0 : Shared} {h : Heap} {env : Env} {P : Value → Heap → Prop} {mg mb : Str → Option Value}
theorem pv_siitem {ve ie : PySem.Expr} {pos : Pos} {l : Addr} {xs : List (List Nat)} {k : Int} {x : List Nat} (a : Pv prog w env ve h (· = .ref l)) (y : Pv prog w env ie h fun v => ∃ t, v = .int k t) (hl : SI h l xs)
    (h0 : 0 ≤ k) (hfit : k < 2 ^ 20) (hx : xs[k.toNat]? = some x)
    (hs : ∀ u, subscripted ie false (.ref l) (.int k u) = operate [.ref l, .int k u] (getItem (.ref l) (.int k u)) := by intro u; with_unfolding_all rfl) :
    Pv prog w env (.Subscript ve ie pos) h fun v => ∃ t, v = .str (mkS x) t := fun A s0 h' kk => ev_Subscript ((a.kp kk).run fun o e => (y.kp kk).run fun i f => by
  subst e; obtain ⟨u, rfl⟩ := f
  intro tk
  obtain ⟨vs, hL, hi⟩ := hl.kp kk
  obtain ⟨t, ht⟩ := hi.get hx
  exact tail_any (Heap.IsList.typeIs (s := { s0 with heap := h', toks := tk }) hL) slot_list_getitem.lookup
    (wpAny_getItem_list (x := .str (mkS x) t) hL h0 (by lia) (by simpa using ht) ⟨_, _, rfl, ⟨t, rfl⟩, rfl⟩) (hs u))
theorem rv_subb {p q : Bool} (r : ∀ t, P (.int (b2i p - b2i q) t) h) : Run prog w A s0 (binaryOp .Sub (.bool p) (.bool q)) h P := fun _ => sub_bool ⟨_, _, rfl, r _⟩

theorem spliced_cints {pos : Pos} {es : List PySem.Expr} {ns : List Int} (c : CI es ns) : ∀ {P : List Value → Heap → Prop}, (∀ vs, IntsAre vs ns → P vs h) → Run prog w A s0 (spliced (backTo pos (starEach es env))) h P := by
  induction c with
  | nil => intro P p tk; exact args_nil ⟨_, _, rfl, p [] .nil⟩
  | @cons i k pos' es ns _ ih =>
    intro P p tk
    refine args_cons (Run.use (ev_int (P := fun v h' => h' = h ∧ ∃ t, v = .int i t) fun t => ⟨rfl, t, rfl⟩) tk fun v h1 t1 q => ?_) rfl
    obtain ⟨rfl, t, rfl⟩ := q
    exact (ih (P := fun vs h' => P (.int i t :: vs) h') fun vs hv => p _ (.cons _ _ hv)).use t1 fun vs h2 t2 q => ⟨_, _, rfl, q⟩

theorem ev_cints {pos : Pos} {es : List PySem.Expr} {ns : List Int} (c : CI es ns) (hl : ns.length ≤ 2 ^ 20) (p : ∀ D h', Kp h h' → h.get? D = none → IL h' D ns → P (.ref D) h') :
    Run prog w A s0 (eval (.List es pos) env) h P := fun tk => by
  refine List_ ((spliced_cints c (P := fun vs h' => h' = h ∧ IntsAre vs ns) fun vs hv => ⟨rfl, hv⟩).use tk fun vs h1 t1 q => ?_)
  obtain ⟨rfl, hv⟩ := q
  have e := hv.length
  exact (rb_newList (by lia) fun D h' k hD hL => p D h' k hD ⟨vs, 0, hL, hv⟩) t1

theorem coll_ok (A : Around) (s0 : Shared) (h : Heap) (x y : List Nat) (t u : Tok) (B : Bs w mg mb h) (R : Room A 2) :
    Run prog w A s0 (call (.ref 21) [.str (mkS x) t, .str (mkS y) u]) h fun v h' => (∃ t, v = .int (coll x y) t) ∧ Kp h h' := by
  refine run_plain R (B.k 21 _ rfl) rfl B.nolimit (codeRec_of B.k (by rfl)) (binds := [("a", .str (mkS x) t), ("b", .str (mkS y) u)]) rfl ?_ ?_
  · intro z hz
    rcases List.mem_cons.mp hz with rfl | hz
    · rfl
    · rw [List.mem_singleton.mp hz]; rfl
  intro h1 k1 n1
  refine st_cons (st_ret (ev_BinOp (ev_Compare ?_)))
  refine ev_Name (has_local n1 rfl rfl rfl rfl) (ev_Name (has_local n1 rfl rfl rfl rfl) (rv_sgt (ev_Compare ?_)))
  refine ev_Name (has_local n1 rfl rfl rfl rfl) (ev_Name (has_local n1 rfl rfl rfl rfl) (rv_slt (rv_subb fun t3 => ?_)))
  exact ⟨⟨t3, rfl⟩, k1⟩

theorem xfrm_ok (A : Around) (s0 : Shared) (h : Heap) (v : Value) (B : Bs w mg mb h) (R : Room A 2) :
    Run prog w A s0 (call (.ref 28) [v]) h fun v' h' => v' = v ∧ Kp h h' := by
  refine run_plain R (B.k 28 _ rfl) rfl B.nolimit (codeRec_of B.k (by rfl)) (binds := [("s", v)]) rfl ?_ ?_
  · intro z hz
    rw [List.mem_singleton.mp hz]; rfl
  intro h1 k1 n1
  exact st_cons (st_ret (ev_Name (has_local n1 rfl rfl rfl rfl) ⟨rfl, k1⟩))

theorem signs_ok (A : Around) (s0 : Shared) (h : Heap) (B : Bs w mg mb h) (R : Room A 2) :
    Run prog w A s0 (call (.ref 38) []) h fun v h' => (∃ D, v = .ref D ∧ SI h' D sgs) ∧ Kp h h' := by
  refine run_plain R (B.k 38 _ rfl) rfl B.nolimit (codeRec_of B.k (by rfl)) (binds := []) rfl (fun z hz => nomatch hz) ?_
  intro h1 k1 n1
  refine st_cons (st_ret (ev_methS1 PySem.F.slot_str_split PySem.F.type_str_split (ev_str fun t => ⟨_, t, rfl, ev_str fun t' => ?_⟩)))
  intro tk
  refine SCH.split1 (s := { s0 with heap := h1, toks := tk }) (keptH_kp h1) (Kp.refl h1) (by decide +kernel) (fun D l h' k' e kp hl => ⟨h', k', rfl, ?_⟩) (by decide +kernel) (by decide +kernel)
  refine ⟨⟨D, rfl, _, hl, strsV_of (e.trans ?_)⟩, k1.trans kp⟩
  decide +kernel
end
end
end Mine

namespace Mine
noncomputable section
open PySem PySem.W PySem.Calls PyProof.Rows
set_option maxRecDepth 100000
set_option linter.unusedVariables false
section
variable {prog : Program} {w : World} {A : Around} {s0 : Shared} {h : Heap} {env : Env} {P : Value → Heap → Prop} {mg mb : Str → Option Value}
/-- a def that hands back a written list of ints -/
theorem def_list {f : Addr} {o : Obj} {name : Str} {params : Arguments} {es : List PySem.Expr} {pos pos2 : Pos} {scope : Scope} {pm cd doc : Value} {ns : List Int} {n : Nat} (R : Room A n)
    (ho : h.get? f = some o) (hdata : o.data = .func (docDef name params [.Return (some (.List es pos)) pos2] scope pm cd doc)) (hlim : h.NoLimit) (hcd : h.CodeRec cd name)
    (hbind : bindArgs (docDef name params [.Return (some (.List es pos)) pos2] scope pm cd doc) ⟨[], []⟩ = pure []) (c : CI es ns) (hl : ns.length ≤ 2 ^ 20)
    (hco : scope.isCoroutine = false) (hgen : scope.isGenerator = false) (hk : scope.kind = .function) (hcell : ∀ x ∈ scope.names, x.2 ≠ .cell) :
    Run prog w A s0 (call (.ref f) []) h fun v h' => (∃ D, v = .ref D ∧ h.get? D = none ∧ IL h' D ns) ∧ Kp h h' := by
  refine run_plain R ho hdata hlim hcd hbind (fun z hz => nomatch hz) ?_ hco hgen hk hcell
  intro h1 k1 n1
  exact st_cons (st_ret (ev_cints c hl fun D h' k hD hl => ⟨⟨D, rfl, none_of_kp k1 hD, hl⟩, k1.trans k⟩))
theorem ci_nums {es : List PySem.Expr} (c : CI es [28, 40, 41, 7, 8, 46, 38, 36, 12, 37, 51, 52, 48, 39, 53, 13, 44, 29, 27, 30, 45, 50, 9, 10, 43, 25, 42, 26, 31]) : CI es nums := c
theorem numbers_ok (A : Around) (s0 : Shared) (h : Heap) (B : Bs w mg mb h) (R : Room A 2) :
    Run prog w A s0 (call (.ref 45) []) h fun v h' => (∃ D, v = .ref D ∧ h.get? D = none ∧ IL h' D nums) ∧ Kp h h' := by
  refine def_list R (B.k 45 _ rfl) rfl B.nolimit (codeRec_of B.k (by rfl)) rfl (ci_nums ?_) (by show 29 ≤ 2 ^ 20; lia) rfl rfl rfl (by decide)
  repeat (first | exact CI.nil | refine CI.cons ?_)
end
end
end Mine

namespace Mine
noncomputable section
open PySem PySem.W PySem.Calls PyProof.Rows
set_option maxRecDepth 100000
set_option linter.unusedVariables false
section
variable {prog : Program} {w : World} {A : Around} {s0 : Shared} {h : Heap} {env : Env} {P : Value → Heap → Prop} {mg mb : Str → Option Value}

theorem rv_mod {a b : Int} {t u : Tok} (hb : b ≠ 0) (p : ∀ t, P (.int (a.fmod b) t) h) : Run prog w A s0 (binaryOp .Mod (.int a t) (.int b u)) h P := fun _ => PyProof.Rows.mod_int hb ⟨_, _, rfl, p _⟩
theorem rb_max {a b : Int} {t u : Tok} (hh : A.handled = none) (p : ∀ t h', Kp h h' → P (.int (max a b) t) h') : Run prog w A s0 (call (.builtin "max") [.int a t, .int b u]) h P := fun tk =>
  max_two_ints hh fun h' tk' k => ⟨h', tk', rfl, by
    by_cases c : b > a
    · rw [if_pos c]; have := p u h' k; rwa [show max a b = b by lia] at this
    · rw [if_neg c]; have := p t h' k; rwa [show max a b = a by lia] at this⟩
theorem rb_min {a b : Int} {t u : Tok} (hh : A.handled = none) (p : ∀ t h', Kp h h' → P (.int (min a b) t) h') : Run prog w A s0 (call (.builtin "min") [.int a t, .int b u]) h P := fun tk =>
  min_two_ints hh fun h' tk' k => ⟨h', tk', rfl, by
    by_cases c : b < a
    · rw [if_pos c]; have := p u h' k; rwa [show min a b = b by lia] at this
    · rw [if_neg c]; have := p t h' k; rwa [show min a b = a by lia] at this⟩

theorem strsAre_of : ∀ {vs : List Value} {xs : List (List Nat)}, StrsV vs xs → StrsAre vs (xs.map mkS)
  | _, _, .nil => .nil
  | _, _, .cons x t r => .cons _ t (strsAre_of r)
theorem join_empty' : ∀ (xs : List (List Nat)), Str.join (mkS []) (xs.map mkS) = mkS xs.flatten
  | [] => rfl
  | [x] => by show mkS x = _; simp
  | x :: y :: r => by
    have ih := join_empty' (y :: r)
    have e : Str.join (mkS []) ((x :: y :: r).map mkS) = mkS x ++ mkS [] ++ Str.join (mkS []) ((y :: r).map mkS) := rfl
    rw [e, ih]
    apply Str.ext'
    simp [mkS, Str.cps_append]
theorem join_empty (xs : List (List Nat)) : Txt.join (mkS []) (xs.map mkS) = mkS xs.flatten := (StrLaws.glued_eq_join _ _).trans (join_empty' xs)
theorem sum_len (xs : List (List Nat)) : ((xs.map mkS).map (·.length)).sum = xs.flatten.length := by
  rw [List.length_flatten, List.map_map]
  have : ((fun s : Str => s.length) ∘ mkS) = List.length := funext fun x => mkS_len x
  rw [this]
theorem rb_join {D : Addr} {xs : List (List Nat)} {x : Str} {t : Tok} (e : x = mkS []) (hl : SL h D xs) (hsz : xs.flatten.length ≤ 2 ^ 20) (p : ∀ t, P (.str (mkS xs.flatten) t) h) : Run prog w A s0 (call (.builtin "str.join") [.str x t, .ref D]) h P := fun tk => by
  obtain ⟨vs, n, hL, hi⟩ := hl
  subst e
  refine PyProof.Rows.join_list (ys := xs.map mkS) hL.isList (strsAre_of hi) ?_ fun t' k => ⟨_, _, rfl, ?_⟩
  · rw [sum_len, mkS_len]; simp only [List.length_nil, Nat.mul_zero]; lia
  · rw [join_empty]; exact p t'

theorem paired_all {F : Value → Value → Prop} {g : Int → List Nat} (hF : ∀ i t y, F (.int i t) y → ∃ u, y = .str (mkS (g i)) u) {vs : List Value} {ns : List Int} {ys : List Value} (hi : IntsAre vs ns) (hp : Paired F (vs.filter fun _ => true) ys) :
    StrsV ys (ns.map g) := by
  have := paired_strs (q := fun _ => true) (P := fun _ => true) (fun _ _ => rfl) hF hi hp
  rwa [List.filter_eq_self.mpr (fun _ _ => rfl)] at this

/-- the ints of a row of places -/
noncomputable def ri (r : List Nat) : List Int := r.map Int.ofNat
theorem sg_at {k : Nat} (hk : k < 29) : sgs[k]? = some (sg k) := by
  have : k < sgs.length := hk
  simp [sg, List.getD, this]

/-- a row's text, as the law writes it -/
theorem ev_textOf {scope : Scope} {cS S l : Addr} {x : Str} {px p1 p2 pk pos lpos apos cpos kp : Pos} {ck : Nat} {r : List Nat} (hh : A.handled = none) (hclos : closureFor scope env = pure [(("signs" : Str), cS)])
    (src : Has prog w env x h (.ref l)) (hl : IL h l (ri r)) (hr : ∀ k ∈ r, k < 29) (hrl : r.length ≤ 8) (hc : CellAt h cS (.ref S)) (hS : SI h S sgs)
    (hkS : ∀ C, (compEnvC scope [(("signs" : Str), cS)] C env).kindOf "signs" = some .cell)
    (hcell : ∀ y ∈ scope.names, y.2 ≠ .cell) (hkind : scope.kind = .function) (hnames : ∀ y ∈ scope.names, y.2 = .local → scope.names.lookup y.1 = some .local) (hx : scope.names.lookup ("k" : Str) = some .local)
    (hd : (x == ("__debug__" : Str)) = false)
    (hline : (apos.endLine == pos.line) = true)
    (q : ∀ t h', Kp h h' → P (.str (mkS (txt r)) t) h') :
    Run prog w A s0 (eval (.Call (.Attribute (.Constant (.str "") ck cpos) "join" apos) [.ListComp (.Subscript (.Name "signs" p1) (.Name "k" p2) kp) [⟨.Name "k" pk, .Name x px, [], 0⟩] scope lpos] [] pos) env) h P := by
  refine ev_methS1 PySem.F.slot_str_join PySem.F.type_str_join (ev_str fun t0 => ⟨_, t0, rfl, ?_⟩) rfl hline
  have hrn : ∀ n ∈ ri r, 0 ≤ n ∧ n < 29 := fun n hn => by
    obtain ⟨k, hk, rfl⟩ := List.mem_map.mp hn
    have := hr k hk
    exact ⟨Int.natCast_nonneg k, by show ((k : Nat) : Int) < 29; lia⟩
  refine ev_compL (fun _ => true) (fun v y => ∃ i t u, v = .int i t ∧ y = .str (mkS (sg i.toNat)) u) hh hclos (ev_Name src ?_ hd) hcell hkind hnames hx
  obtain ⟨vs, n, hL, hi⟩ := id hl
  have hlen := hi.length
  have hrl' : (ri r).length = r.length := by simp [ri]
  refine ⟨l, vs.toArray, rfl, hL.isList, by rw [List.size_toArray, sizeLine_eq]; lia, ⟨?_, ?_⟩, ?_⟩
  · intro s1 C i v h3 m3 hiv k3 n3 hm hC
    exact tests_nil ⟨rfl, Kp.refl _⟩
  · intro s1 C i v h3 m3 hiv _ k3 n3 hm hC
    obtain ⟨k, t, rfl, hk⟩ := IntsAre.at hi i v (by simpa using hiv)
    obtain ⟨hk0, hk29⟩ := hrn k (List.mem_of_getElem? hk)
    have hsg : sgs[k.toNat]? = some (sg k.toNat) := sg_at (by lia)
    refine (pv_siitem (x := sg k.toNat) (pv_Name (has_cell (hc.kp k3) rfl hkind (hkS C))) ((pv_Name (has_local n3 hm rfl hkind (by exact lookup_relabel_local (env := env) hx))).mono fun v e => ⟨t, e⟩) (hS.kp k3) hk0 (by lia) hsg).run fun v e => ?_
    obtain ⟨u, rfl⟩ := e
    exact ⟨⟨k, t, u, rfl, rfl⟩, Kp.refl _⟩
  · intro D h' ys hD k' hpl hpair
    obtain ⟨nD, hD'⟩ := hpl
    have hstr := paired_all (F := fun v y => ∃ i t u, v = .int i t ∧ y = .str (mkS (sg i.toNat)) u) (g := fun i => sg i.toNat) (fun i t y q => by
      obtain ⟨i', t', u, e, rfl⟩ := q
      cases e
      exact ⟨u, rfl⟩) hi (by simpa using hpair)
    have e : ((ri r).map fun i => sg i.toNat).flatten = txt r := by
      unfold ri txt
      rw [List.map_map, List.flatMap_def]
      congr 1
    have hlt := txt_len r hr
    refine rb_join (by decide +kernel) ⟨ys.toList, nD, by simpa using hD', hstr⟩ (by rw [e]; lia) fun t => ?_
    rw [e]
    exact q t h' k'
end
end
end Mine

namespace Mine
noncomputable section
open PySem PySem.W PySem.Calls PyProof.Rows
set_option maxRecDepth 100000
set_option linter.unusedVariables false
/-- x = [.. for y in l], l a list -/
theorem st_compL {prog : Program} {w : World} {A : Around} {s0 : Shared} {h : Heap} {env : Env} {P : Flow → Heap → Prop} {elt iter : PySem.Expr} {x y : Str} {px py : Pos} {ifs : List PySem.Expr} {scope : Scope} {cl : List (Str × Addr)} {pos spos : Pos} (hh : A.handled = none)
    (hsw : swapsWith (.ListComp elt [⟨.Name x px, iter, ifs, 0⟩] scope pos) (some (.Name y py)) spos.line env = pure true) (hclos : closureFor scope env = pure cl)
    (hy : env.kindOf y = some .local) (hek : env.scope.kind = .function)
    (src : Run prog w A s0 (eval iter env) h fun xv h1 => ∃ (l : Addr) (items : Array Value) (p : Value → Bool) (F : Value → Value → Prop) (m : Str → Option Value),
      xv = .ref l ∧ h1.IsList l items ∧ items.size ≤ sizeLine ∧ h1.Ns env.locals m ∧ Turns prog w A env scope cl x ifs elt (fun i v => items[i]? = some v) p F h1 ∧
      ∀ D h' ys, h1.get? D = none → h'.PlainList D ys → Paired F (items.toList.filter p) ys.toList → h'.Ns env.locals (fun z => if z = y then some (.ref D) else m z) →
        (∀ b o, b ≠ env.locals → h1.get? b = some o → h'.get? b = some o) → P .next h')
    (hcell : ∀ y ∈ scope.names, y.2 ≠ .cell := by decide) (hkind : scope.kind = .function := by rfl)
    (hnames : ∀ y ∈ scope.names, y.2 = .local → scope.names.lookup y.1 = some .local := by decide) (hx : scope.names.lookup x = some .local := by rfl)
    (hs : ∀ x, foldedSetIterable iter env x = pure x := by intro _; rfl) :
    Run prog w A s0 (exec (.Assign [.Name y py] (.ListComp elt [⟨.Name x px, iter, ifs, 0⟩] scope pos) spos) env) h P := by
  refine st_comp hsw hclos hy hek (src.mono fun xv h1 q => ?_) hcell hkind hnames hx hs
  obtain ⟨l, items, p, F, m, rfl, hl, hsz, hn, T, fin⟩ := q
  intro tk
  refine wpAny_pyIter_list (s := { s0 with heap := h1, toks := tk }) hl ⟨_, _, rfl, ?_⟩
  have hlt : l < h1.objs.size := by obtain ⟨o, ho, _⟩ := hl; exact Heap.lt_size ho
  refine ⟨h1.objs.size, [h1.objs.size, l], items.size, fun i v => items[i]? = some v, fun i h => h.IsListIter h1.objs.size l i ∧ h.IsList l items, p, F, m, rfl, Walks.list hh _ l (Nat.ne_of_lt hlt) items, hsz, ⟨⟨_, Heap.get?_push_size _ rfl, rfl, rfl⟩, hl.push _⟩, ?_,
    fun b o e => ⟨by simpa using Nat.ne_of_lt (Heap.lt_size e), Heap.get?_push_of_some _ e⟩, hn, T, ?_⟩
  · intro b hb
    show b < (h1.push _).objs.size
    rw [Heap.size_push]
    rcases List.mem_cons.mp hb with rfl | hb
    · exact Nat.lt_succ_self _
    · rw [List.mem_singleton.mp hb]; exact Nat.lt_succ_of_lt hlt
  · intro D h' ys vs hD hpl hlen hP hF hn' hk
    have e : vs = items.toList := list_of_places hlen hP
    subst e
    exact fin D h' ys hD hpl hF hn' hk
end
end Mine

namespace Mine
noncomputable section
open PySem PySem.W PySem.Calls PyProof.Rows
set_option maxRecDepth 100000
set_option linter.unusedVariables false

noncomputable def txOf : Value → List Nat
  | .str x _ => x.cps.toList
  | _ => []
theorem strsV_all : ∀ {vs : List Value} {xs : List (List Nat)}, StrsV vs xs → ∀ v ∈ vs, ∃ x t, v = .str (mkS x) t
  | _, _, .nil, v, hv => nomatch hv
  | _, _, .cons x t r, v, hv => by
    rcases List.mem_cons.mp hv with rfl | hv
    · exact ⟨x, t, rfl⟩
    · exact strsV_all r v hv
theorem strsV_map : ∀ (vs : List Value), (∀ v ∈ vs, ∃ x t, v = .str (mkS x) t) → StrsV vs (vs.map txOf)
  | [], _ => .nil
  | v :: vs, h => by
    obtain ⟨x, t, rfl⟩ := h v (List.mem_cons_self ..)
    exact .cons x t (strsV_map vs fun u hu => h u (List.mem_cons_of_mem _ hu))
theorem strsV_tx : ∀ {vs : List Value} {xs : List (List Nat)}, StrsV vs xs → vs.map txOf = xs
  | _, _, .nil => rfl
  | _, _, .cons x t r => by rw [List.map_cons, strsV_tx r]; rfl

/-- what a sort by the texts themselves hands out -/
theorem out_strs {vs : List Value} {xs : List (List Nat)} (hS : StrsV vs xs) {arr : Array Keyed} (hp : arr.Perm (pairsOf vs)) (hs : SortedToK strKind arr arr.size) :
    ∃ ys, StrsV (arr.map (·.2)).toList ys ∧ ys.Perm xs ∧ ys.Pairwise (fun a b => ¬ b < a) := by
  have hl : arr.toList.Perm (vs.zip vs) := by rw [← pairsOf_toList]; exact Array.perm_iff_toList_perm.mp hp
  have hmem : ∀ p, p ∈ arr.toList → p.1 = p.2 ∧ p.1 ∈ vs := fun p hp' => mem_zip_self (hl.mem_iff.mp hp')
  have e : (arr.map (·.2)).toList = arr.toList.map (·.1) := by
    rw [Array.toList_map]; exact List.map_congr_left fun p hp' => (hmem p hp').1.symm
  rw [e]
  refine ⟨_, strsV_map _ fun v hv => ?_, ?_, ?_⟩
  · obtain ⟨p, hp', rfl⟩ := List.mem_map.mp hv
    exact strsV_all hS _ (hmem p hp').2
  · have h1 := (hl.map (·.1)).map txOf
    have e2 : (vs.zip vs).map (·.1) = vs := List.map_fst_zip (Nat.le_refl _)
    rw [e2, strsV_tx hS] at h1
    exact h1
  · rw [List.pairwise_iff_getElem]
    intro i j hi hj hij
    have hi' : i < arr.size := by simpa using hi
    have hj' : j < arr.size := by simpa using hj
    have h1 := hs i j (Nat.le_of_lt hij) hj'
    have kk : ∀ q, (hq : q < arr.size) → PyProof.Rows.KK strKind arr q = txOf arr[q].1 := fun q hq => by
      obtain ⟨x, t, ex⟩ := strsV_all hS _ (hmem arr[q] (by simp)).2
      have : arr[q] = (.str (mkS x) t, arr[q].2) := Prod.ext ex rfl
      rw [KK_str hq this, ex]; rfl
    rw [kk i hi', kk j hj'] at h1
    have h2 : decide (txOf arr[j].1 < txOf arr[i].1) = false := h1
    simpa using h2

section
variable {prog : Program} {w : World} {A : Around} {s0 : Shared} {E : Value → Shared → Prop}

/-- the sort of fewer than 64 texts, or of 65 -/
theorem sort_any {vs : List Value} {xs : List (List Nat)} (hS : StrsV vs xs) (hn : xs.Nodup) (hsz : xs.length < 64 ∨ xs.length = 65) {s : Shared} {Q : PUnit → SortSt → Prop} (h2 : 2 ≤ vs.length)
    (h : ∀ st', (arrOf st').Perm (pairsOf vs) → failedOf st' = none → SortedToK strKind (arrOf st') (arrOf st').size → Q ⟨⟩ st') :
    wpS (model prog w) A E s sortRuns' Q (SortSt.mk' oneType' (pairsOf vs) #[] 7 none) := by
  have hlen := hS.length
  have hps := pairsOf_size vs
  rcases hsz with h64 | h65
  · refine wpS_sortRunsK strKind_oneLt (a₀ := pairsOf vs) (strsAre_of hS).keysOf ⟨Array.Perm.refl _, rfl, rfl, rfl⟩ (by omega) (by omega) fun st' a1 a2 a3 => h st' a1 a2 ?_
    rw [a1.size_eq]; exact a3
  · refine sortRuns65 strKind_oneLt rfl rfl rfl ⟨fun i hi => ?_, ?_⟩ (by show (pairsOf vs).size = 65; omega) fun st' a1 a2 a3 => h st' a1 a2 ?_
    · have : (pairsOf vs)[i] ∈ (pairsOf vs).toList := by simp
      exact (strsAre_of hS).keysOf _ this
    · have e : (pairsOf vs).toList.map (kv strKind) = xs := by
        rw [pairsOf_toList, ← strsV_tx hS]
        have e2 : vs.map txOf = ((vs.zip vs).map (·.1)).map txOf := by rw [List.map_fst_zip (Nat.le_refl _)]
        rw [e2, List.map_map]
        refine List.map_congr_left fun p hp => ?_
        obtain ⟨x, t, ex⟩ := strsV_all hS _ (mem_zip_self hp).2
        show (strKind.keyOf p.1).getD strKind.dflt = txOf p.1
        rw [ex]; rfl
      show ((pairsOf vs).toList.map (kv strKind)).Nodup
      rw [e]; exact hn
    · rw [a1.size_eq]
      show SortedToK strKind (arrOf st') (pairsOf vs).size
      rw [show (pairsOf vs).size = 65 by omega]; exact a3
end
end
end Mine

namespace Mine
noncomputable section
open PySem PySem.W PySem.Calls PyProof.Rows
set_option maxRecDepth 100000
set_option linter.unusedVariables false
section
variable {prog : Program} {w : World} {A : Around} {s0 : Shared} {E : Value → Shared → Prop}

set_option maxHeartbeats 4000000 in
theorem key_tail {hc : Heap} {tk : Nat} {a kS : Addr} {kA : Array Value} {e e1 : Nat} {st : SortSt} {P : PySem.Fin → Shared → Prop} (hk : hc.get? kS = some (seqObj "list" kA e)) (ha : hc.get? a = some (seqObj "list" #[] e1)) (hne : kS ≠ a)
    (hf : failedOf st = none) (hz : (arrOf st).size ≤ 2 ^ 16) (hzk : kA.size ≤ 2 ^ 16)
    (h : ∀ h' tk' c, (∀ b o, b ≠ kS → b ≠ a → hc.get? b = some o → h'.get? b = some o) → IsL h' a ((arrOf st).map (·.2)) c → P (.done (.ret .none)) { s0 with heap := h', toks := tk' }) :
    wpAny (model prog w) A (ksk_tail a false e1 (.ref kS) st) P E { s0 with heap := hc, toks := tk } := by
  have s1 := Heap.SameBut.update hc kS (Obj.mapSeq fun _ => (#[] : Array Value))
  have na1 : (hc.update kS (Obj.mapSeq fun _ => (#[] : Array Value))).get? a = some (seqObj "list" #[] e1) := (s1.2 a hne.symm).trans ha
  have s2 := Heap.SameBut.update (hc.update kS (Obj.mapSeq fun _ => (#[] : Array Value))) a (Obj.mapSeq fun _ => (arrOf st).map (·.2))
  obtain ⟨c2, hc2⟩ : ∃ c2, ((hc.update kS (Obj.mapSeq fun _ => (#[] : Array Value))).update a (Obj.mapSeq fun _ => (arrOf st).map (·.2))).get? a = some (seqObj "list" ((arrOf st).map (·.2)) c2) :=
    ⟨_, get?_update_seq na1 fun _ => (arrOf st).map (·.2)⟩
  unfold ksk_tail
  dsimp only
  refine wpAny_bind (listUpdate_at (s := { s0 with heap := hc, toks := tk }) hk rfl ?_ (by rw [sizeLine_eq]; lia) (Nat.zero_le _))
  refine wpAny_bind (wpAny_letGo ?_)
  refine wpAny_bind (seqEpoch_at na1 rfl ?_)
  refine wpAny_bind (listUpdate_at na1 rfl ?_ (Nat.zero_le _) (by show ((arrOf st).map (·.2)).size ≤ _; rw [Array.size_map, sizeLine_eq]; lia))
  rw [hf]
  simp only [bne_self_eq_false, Bool.false_eq_true, if_false]
  exact wpAny_pure (h _ _ c2 (fun b o hb1 hb2 q => s2.extBut b o hb2 (s1.extBut b o hb1 q)) hc2)

theorem key_end {hc : Heap} {tk : Nat} {a kS : Addr} {vs : List Value} {xs : List (List Nat)} {e e1 : Nat} {P : PySem.Fin → Shared → Prop} (hS : StrsV vs xs) (hn : xs.Nodup) (hsz : xs.length < 64 ∨ xs.length = 65)
    (hk : hc.get? kS = some (seqObj "list" vs.toArray e)) (ha : hc.get? a = some (seqObj "list" #[] e1)) (hne : kS ≠ a)
    (h : ∀ h' tk' ys, (∀ b o, b ≠ kS → b ≠ a → hc.get? b = some o → h'.get? b = some o) → SL h' a ys → ys.Perm xs → ys.Pairwise (fun a b => ¬ b < a) → P (.done (.ret .none)) { s0 with heap := h', toks := tk' }) :
    wpAny (model prog w) A (ksk_end a false vs.toArray e1 (.ref kS) vs.toArray) P E { s0 with heap := hc, toks := tk } := by
  have hlen := hS.length
  have hps := pairsOf_size vs
  have fin : ∀ st : SortSt, (arrOf st).Perm (pairsOf vs) → failedOf st = none → SortedToK strKind (arrOf st) (arrOf st).size → wpAny (model prog w) A (ksk_tail a false e1 (.ref kS) st) P E { s0 with heap := hc, toks := tk } := fun st a1 a2 a3 => by
    have hz := a1.size_eq
    obtain ⟨ys, y1, y2, y3⟩ := out_strs hS a1 a3
    exact key_tail hk ha hne a2 (by lia) (by rw [List.size_toArray]; lia) fun h' tk' c q1 q2 => h h' tk' ys q1 ⟨_, c, by rw [Array.toArray_toList]; exact q2, y1⟩ y2 y3
  unfold ksk_end
  dsimp only
  rw [if_neg (by simp)]
  by_cases h2 : vs.toArray.size < 2
  · rw [if_pos h2, if_pos h2]
    refine wpAny_bind (wpAny_pure ?_)
    rw [StateT.run_pure]
    refine wpAny_bind (wpAny_pure ?_)
    dsimp only
    refine fin (SortSt.mk' general' (pairsOf vs) #[] 7 none) (Array.Perm.refl _) rfl fun i j hij hj => ?_
    have hj' : j < (pairsOf vs).size := hj
    rw [List.size_toArray] at h2
    obtain rfl : i = j := by lia
    exact PyProof.Rows.KeyOrd.kle_refl _
  · rw [if_neg h2, if_neg h2]
    rw [List.size_toArray] at h2
    have hkk : keyKind' vs.toArray = pure oneType' := by
      match vs, hS, h2 with
      | [], _, h2 => simp at h2
      | [_], _, h2 => simp at h2
      | v₁ :: v₂ :: rest, hS, _ => exact keyKind_strs (strsAre_of hS)
    rw [hkk]
    refine wpAny_bind (wpAny_pure ?_)
    refine wpAny_bind (wpAny_mono (sort_any hS hn hsz (s := { s0 with heap := hc, toks := tk }) (Q := fun _ st' => (arrOf st').Perm (pairsOf vs) ∧ failedOf st' = none ∧ SortedToK strKind (arrOf st') (arrOf st').size) (by lia) fun st' a1 a2 a3 => ⟨a1, a2, a3⟩) ?_ fun _ _ e => e)
    rintro ⟨⟨⟩, st'⟩ s' ⟨rfl, a1, a2, a3⟩
    exact fin st' a1 a2 a3

theorem key_rest {f : Value} {h hc : Heap} {tk : Nat} {a kS : Addr} {vs : List Value} {xs : List (List Nat)} {e1 : Nat} {P : PySem.Fin → Shared → Prop} (hS : StrsV vs xs) (hn : xs.Nodup) (hsz : xs.length < 64 ∨ xs.length = 65)
    (hk : hc.get? kS = some (seqObj "list" #[] 0)) (ha : hc.get? a = some (seqObj "list" #[] e1)) (hne : kS ≠ a) (hk0 : h.get? kS = none) (ha0 : h.get? a = none) (kp : Kp h hc)
    (turn : ∀ v ∈ vs, ∀ h', Kp h h' → Run prog w A s0 (call f [v]) h' fun v' h'' => v' = v ∧ Kp h' h'')
    (q : ∀ h' tk' ys, Kp h h' → SL h' a ys → ys.Perm xs → ys.Pairwise (fun a b => ¬ b < a) → P (.done (.ret .none)) { s0 with heap := h', toks := tk' }) :
    wpAny (model prog w) A (ksk_rest a f false vs.toArray e1 (.ref kS)) P E { s0 with heap := hc, toks := tk } := by
  have hlen := hS.length
  unfold ksk_rest
  refine wpAny_bind (wpAny_rule ?_)
  rw [List.forIn_toArray]
  refine wpAny_bind (ksk_fold (fun i s' => ∃ h' tk e, s' = { s0 with heap := h', toks := tk } ∧ Kp h h' ∧ h'.get? kS = some (seqObj "list" (vs.take i).toArray e) ∧ h'.get? a = some (seqObj "list" #[] e1)) vs 0 _ ⟨hc, tk, 0, rfl, kp, hk, ha⟩ ?step ?done)
  case step =>
    rintro j x s' hx ⟨h', tk', e, rfl, kp', hk', ha'⟩
    simp only [Nat.zero_add] at hk' ⊢
    have hj : j < vs.length := (List.getElem?_eq_some_iff.mp hx).1
    refine wpAny_bind (wpAny_attempt (wpAny_mono (turn x (List.mem_of_getElem? hx) h' kp' tk') (fun v s'' he => ?_) fun _ _ hF => hF.elim))
    obtain ⟨g, tk2, rfl, rfl, kg⟩ := he
    have hk2 := kg _ _ hk'
    have ha2 := kg _ _ ha'
    have s1 := Heap.SameBut.update g kS (Obj.mapSeq (·.push v))
    obtain ⟨c2, hc2⟩ : ∃ c2, (g.update kS (Obj.mapSeq (·.push v))).get? kS = some (seqObj "list" ((vs.take j).toArray.push v) c2) := ⟨_, get?_update_seq hk2 (·.push v)⟩
    refine wpAny_bind (listUpdate_at (s := { s0 with heap := g, toks := tk2 }) hk2 rfl ?_ (by rw [List.size_toArray, List.length_take, sizeLine_eq]; lia) (by show ((vs.take j).toArray.push v).size ≤ _; rw [Array.size_push, List.size_toArray, List.length_take, sizeLine_eq]; lia))
    refine wpAny_pure ⟨rfl, _, _, c2, rfl, fun b o eb => s1.extBut b o (by rintro rfl; rw [hk0] at eb; cases eb) (kg _ _ (kp' _ _ eb)), ?_, (s1.2 a hne.symm).trans ha2⟩
    rw [hc2, List.take_add_one, hx]; simp
  case done =>
    rintro s' ⟨h', tk', e, rfl, kp', hk', ha'⟩
    rw [List.take_of_length_le (by lia)] at hk'
    refine wpAny_bind (listItems_at (s := { s0 with heap := h', toks := tk' }) hk' rfl ?_)
    exact key_end hS hn hsz hk' ha' hne fun h3 tk3 ys k3 => q h3 tk3 ys fun b o eb => k3 b o (by rintro rfl; rw [hk0] at eb; cases eb) (by rintro rfl; rw [ha0] at eb; cases eb) (kp' _ _ eb)

/-- a list sorted by a key that hands back its own text -/
theorem rb_sortedKey {h : Heap} {P : Value → Heap → Prop} {f l : Addr} {xs : List (List Nat)} (hl : ∃ vs, h.IsList l vs.toArray ∧ StrsV vs xs) (hn : xs.Nodup) (hsz : xs.length < 64 ∨ xs.length = 65)
    (turn : ∀ x t h', Kp h h' → Run prog w A.in1.in1 s0 (call (.ref f) [.str (mkS x) t]) h' fun v' h'' => v' = .str (mkS x) t ∧ Kp h' h'')
    (p : ∀ D h' ys, Kp h h' → SL h' D ys → ys.Perm xs → ys.Pairwise (fun a b => ¬ b < a) → P (.ref D) h') :
    Run prog w A s0 (call (.builtin "sorted") [.ref l] [(Str.ofString "key", .ref f)]) h P := fun tk => by
  obtain ⟨vs, hL, hS⟩ := hl
  have hlen := hS.length
  refine call_function_entry_kw kind_sorted plain_sorted entry_sorted (ksk_s1 _ _) ?_
  unfold Builtin.«sorted»
  refine wpAny_bind (m := checkCount "sorted" 1 1 _) (wpAny_pure ?_)
  refine wpAny_bind (collect_list (s := { s0 with heap := h, toks := tk }) hL ?_ (by rw [sizeLine_eq]; lia))
  refine wpAny_bind (wpAny_newList ?_ (by rw [sizeLine_eq]; lia))
  have hz : ((h.push (seqObj "list" #[] 0)).update h.objs.size (Obj.mapSeq (· ++ vs.toArray))).objs.size = h.objs.size + 1 := by
    rw [Heap.size_update, size_push']
  have hoL : (((h.push (seqObj "list" #[] 0)).update h.objs.size (Obj.mapSeq (· ++ vs.toArray))).push (seqObj "list" vs.toArray 0)).get? (h.objs.size + 1) = some (seqObj "list" vs.toArray 0) := by
    rw [← hz]; exact Heap.get?_push_size _ rfl
  have k1 : Kp h (((h.push (seqObj "list" #[] 0)).update h.objs.size (Obj.mapSeq (· ++ vs.toArray))).push (seqObj "list" vs.toArray 0)) := fun b o q => by
    have hlt : b < h.objs.size := Heap.lt_size q
    rw [Heap.get?_push_ne _ _ _ (by rw [hz]; exact Nat.ne_of_lt (Nat.lt_succ_of_lt hlt)), Heap.get?_update_ne _ _ _ _ (Nat.ne_of_lt hlt), Heap.get?_push_ne _ _ _ (Nat.ne_of_lt hlt)]
    exact q
  show wpAny _ _ _ _ _ { s0 with heap := ((h.push (seqObj "list" #[] 0)).update h.objs.size (Obj.mapSeq (· ++ vs.toArray))).push (seqObj "list" vs.toArray 0), toks := tk }
  rw [hz]
  have ha0 : h.get? (h.objs.size + 1) = none := get_none_of_le (by lia)
  have hle : h.objs.size ≤ h.objs.size + 1 := Nat.le_succ _
  generalize ((h.push (seqObj "list" #[] 0)).update h.objs.size (Obj.mapSeq (· ++ vs.toArray))).push (seqObj "list" vs.toArray 0) = h1 at *
  generalize h.objs.size + 1 = a at *
  refine wpAny_bind (wpAny_holding (wpAny_call_entry_kw slot_list_sort ⟨_, hoL, rfl⟩ entry_list_sort ?body (ksk_l1 _ _)))
  case body =>
    show wpAny (model prog w) A.in1.in1 (Builtin.«list.sort» ⟨[.ref a], [(Str.ofString "key", .ref f)]⟩) _ _ _
    rw [ksk_t1]
    have s1 := Heap.SameBut.update h1 a (Obj.mapSeq fun _ => (#[] : Array Value))
    obtain ⟨e1, ho1⟩ : ∃ e1, (h1.update a (Obj.mapSeq fun _ => (#[] : Array Value))).get? a = some (seqObj "list" #[] e1) := ⟨_, get?_update_seq hoL fun _ => #[]⟩
    unfold ksk_tree
    refine wpAny_bind (listItems_at (s := { s0 with heap := h1, toks := tk }) hoL rfl ?_)
    refine wpAny_bind (listUpdate_at (s := { s0 with heap := h1, toks := tk }) hoL rfl ?_ (by rw [List.size_toArray, sizeLine_eq]; lia) (Nat.zero_le _))
    refine wpAny_bind (seqEpoch_at ho1 rfl ?_)
    refine wpAny_bind (wpAny_newTuple ?_ (by show vs.length ≤ _; rw [sizeLine_eq]; lia))
    refine wpAny_bind (wpAny_newList ?_ (Nat.zero_le _))
    refine wpAny_holding ?_
    have kb : Kp h (h1.update a (Obj.mapSeq fun _ => (#[] : Array Value))) := fun b o eb => s1.extBut b o (by rintro rfl; rw [ha0] at eb; cases eb) (k1 _ _ eb)
    have hlt : a < (h1.update a (Obj.mapSeq fun _ => (#[] : Array Value))).objs.size := Heap.lt_size ho1
    generalize h1.update a (Obj.mapSeq fun _ => (#[] : Array Value)) = h2 at *
    refine key_rest (h := h) (kS := (h2.push (seqObj "tuple" vs.toArray 0)).objs.size) hS hn hsz (Heap.get?_push_size _ rfl) (Heap.get?_push_of_some _ (Heap.get?_push_of_some _ ho1)) (by rw [size_push']; exact Nat.ne_of_gt (Nat.lt_succ_of_lt hlt)) ?_ ha0 (kb.trans ((Kp.push _ _).trans (Kp.push _ _)))
      (fun v hv h' k' => ?_) fun h' tk' ys k' y1 y2 y3 => ⟨_, rfl, wpAny_pure ⟨_, rfl, _, _, rfl, p a h' ys k' y1 y2 y3⟩⟩
    · exact get_none_of_le (by rw [size_push']; lia)
    · obtain ⟨x, t, rfl⟩ := strsV_all hS v hv
      exact turn x t h' k'
end
end
end Mine

namespace Mine
noncomputable section
open PySem PySem.W PySem.Calls PyProof.Rows
set_option maxRecDepth 100000
set_option linter.unusedVariables false
section
variable {prog : Program} {w : World} {A : Around} {E : Value → Shared → Prop} {R : Result → Shared → Prop} {s : Shared}

theorem start_two {elt t1 it1 t2 it2 ifs1 ifs2 scope pos it acc env}
    (h0 : codeAny (model prog w) A (.compLoop (.ListComp elt [⟨t1, it1, ifs1, 0⟩, ⟨t2, it2, ifs2, 0⟩] scope pos) 1 it acc env) R s)
    (h : ∀ E, wpAny (model prog w) A (pyIter it) (fun it' s' => codeAny (model prog w) A (.compLoop (.ListComp elt [⟨t1, it1, ifs1, 0⟩, ⟨t2, it2, ifs2, 0⟩] scope pos) 1 it' acc env) R s') E s) :
    codeAny (model prog w) A (.compStart (.ListComp elt [⟨t1, it1, ifs1, 0⟩, ⟨t2, it2, ifs2, 0⟩] scope pos) 1 it acc env) R s := by
  refine codeAny_of_tree ?_
  show wpAny _ _ ((compStart (.ListComp elt [⟨t1, it1, ifs1, 0⟩, ⟨t2, it2, ifs2, 0⟩] scope pos) 1 it acc env).onRaise (fun x => do noteFrame x env; standAt theWindowsPlace)) _ _ s
  refine wpAny_notedAt ?_
  unfold compStart
  show wpAny _ _ (ask >>= _) _ _ s
  refine wpAny_bind (wpAny_askSetting (wpAny_ite ?_))
  split
  · exact wpAny_bind (wpAny_pure (wpAny_pure (And.intro rfl h0)))
  · exact wpAny_bind (wpAny_rule (wpAny_bind (wpAny_standAt (wpAny_bind (wpAny_mono (h _) (fun it' s' h' => wpAny_pure (And.intro rfl h')) fun _ _ x => x)))))

/-- a second clause none of whose items comes through -/
theorem inner_none {elt t1 it1 it2 : PySem.Expr} {x2 : Str} {p2 : Pos} {ifs1 ifs2 : List PySem.Expr} {scope : Scope} {pos : Pos} {acc : Value} {cenv : Env} {T : Addr} {its : Array Value} {m : Str → Option Value}
    (hh : A.handled = none) (hx : cenv.kindOf x2 = some .local) (hp : (cenv.scope.kind == .class || (cenv.scope.kind == .module && cenv.locals != cenv.globals)) = false)
    (hl : s.heap.IsList T its) (hTC : T ≠ cenv.locals) (hn : s.heap.Ns cenv.locals m)
    (htests : ∀ v s₂ m₂ E, v ∈ its.toList → s₂.heap.Ns cenv.locals m₂ → m₂ x2 = some v → (∀ b o, b ≠ cenv.locals → s.heap.get? b = some o → s₂.heap.get? b = some o) →
      wpAny (model prog w) A (tests ifs2 cenv) (fun ok s₃ => ok = false ∧ Keeps s₂ s₃) E s₂)
    (hR : ∀ h' tk m', h'.Ns cenv.locals m' → (∀ b o, b ≠ cenv.locals → s.heap.get? b = some o → h'.get? b = some o) → R (.ok .next) { s with heap := h', toks := tk }) :
    wpAny (model prog w) A (pyIter (.ref T)) (fun it s' => codeAny (model prog w) A (.compStart (.ListComp elt [⟨t1, it1, ifs1, 0⟩, ⟨.Name x2 p2, it2, ifs2, 0⟩] scope pos) 1 it acc cenv) R s') E s := by
  refine wpAny_pyIter_list hl ?_
  have hlt : T < s.heap.objs.size := by obtain ⟨o, ho, _⟩ := hl; exact Heap.lt_size ho
  have hCs : cenv.locals < s.heap.objs.size := hn.lt
  have W := Walks.list (prog := prog) (w := w) (A := A) hh s.heap.objs.size T (Nat.ne_of_lt hlt) its
  have hIC : s.heap.objs.size ≠ cenv.locals := Nat.ne_of_gt hCs
  generalize hs1 : ({ s with heap := s.heap.push { cls := .type "list_iterator", data := .fields #[.ref T, .int 0 0] } } : Shared) = s1
  have st0 : s1.heap.IsListIter s.heap.objs.size T 0 ∧ s1.heap.IsList T its := by subst hs1; exact ⟨⟨_, Heap.get?_push_size _ rfl, rfl, rfl⟩, hl.push _⟩
  have kp : ∀ b o, s.heap.get? b = some o → s1.heap.get? b = some o := by subst hs1; exact fun b o e => Heap.get?_push_of_some _ e
  have loop : codeAny (model prog w) A (.compLoop (.ListComp elt [⟨t1, it1, ifs1, 0⟩, ⟨.Name x2 p2, it2, ifs2, 0⟩] scope pos) 1 (.ref s.heap.objs.size) acc cenv) R s1 := by
    refine codeAny_loop rfl (fun k s' => ∃ h' tk i m', s' = { s1 with heap := h', toks := tk } ∧ i ≤ its.size ∧ k = its.size - i ∧ (h'.IsListIter s.heap.objs.size T i ∧ h'.IsList T its) ∧ h'.Ns cenv.locals m' ∧
      (∀ b o, b ≠ cenv.locals → s.heap.get? b = some o → h'.get? b = some o)) ?_ its.size ⟨s1.heap, s1.toks, 0, m, rfl, Nat.zero_le _, rfl, st0, hn.keeps kp, fun b o _ e => kp b o e⟩
    rintro k s' ⟨h', tk, i, m', rfl, hi, rfl, hst, hn', hk⟩
    show wpAny _ A ((compTurn (.ListComp elt [⟨t1, it1, ifs1, 0⟩, ⟨.Name x2 p2, it2, ifs2, 0⟩] scope pos) 1 (.ref s.heap.objs.size) acc cenv).onRaise (fun x => do noteFrame x cenv; theTreesLotGoes x)) _ _ _
    refine wpAny_noted ?_
    refine wpAny_bind (wpAny_standAt (wpAny_bind ?_))
    by_cases hlt2 : i < its.size
    · refine W.item i _ _ _ hlt2 hst fun v h2 tk2 hv hst2 hk2 => ?_
      have n2 : h2.Ns cenv.locals m' := hn'.at' fun o e => hk2 _ o (by simpa using Ne.symm hIC) e
      refine wpAny_bind (wpAny_of_eq rfl ?_)
      refine wpAny_bind (wpAny_assign_Name (wpAny_storeName_local hx n2 (fun h3 n3 s3 => ?_) hp))
      have k3 : ∀ b o, b ≠ cenv.locals → s.heap.get? b = some o → h3.get? b = some o := fun b o hb e => s3.extBut b o hb (hk2 b o (by simpa using Nat.ne_of_lt (Heap.lt_size e)) (hk b o hb e))
      have hst3 := W.frame _ _ h3 hst2 fun b hb o e => s3.extBut b o (by
        rcases List.mem_cons.mp hb with rfl | hb
        · exact hIC
        · rw [List.mem_singleton.mp hb]; exact hTC) e
      refine wpAny_bind (wpAny_mono (htests v _ _ _ (by rw [Array.getElem?_toList.symm] at hv; exact List.mem_of_getElem? hv) n3 (by simp) k3) (fun ok s4 q => ?_) fun _ _ e => e)
      obtain ⟨rfl, h4, tk4, rfl, k4⟩ := q
      refine wpAny_pure ⟨rfl, its.size - (i + 1), by omega, h4, tk4, i + 1, _, rfl, hlt2, rfl, W.frame _ _ h4 hst3 fun b _ o e => k4 b o e, n3.keeps k4, fun b o hb e => k4 b o (k3 b o hb e)⟩
    · obtain rfl : i = its.size := Nat.le_antisymm hi (Nat.not_lt.mp hlt2)
      refine W.done _ _ _ hst fun h2 tk2 hk2 => ?_
      refine wpAny_pure ?_
      subst hs1
      exact hR h2 tk2 m' (hn'.at' fun o e => hk2 _ o (by simpa using Ne.symm hIC) e) fun b o hb e => hk2 b o (by simpa using Nat.ne_of_lt (Heap.lt_size e)) (hk b o hb e)
  subst hs1
  exact start_two loop fun E => W.self 0 _ _ _ st0 loop
end

section
variable {prog : Program} {w : World} {A : Around} {s0 : Shared} {h : Heap} {env : Env} {P : Value → Heap → Prop}

/-- [.. for x1 in it1 for x2 in x1 if ..], no item coming through -/
theorem ev_comp2 {elt it1 : PySem.Expr} {x1 x2 : Str} {p1 p2 p3 pos : Pos} {ifs2 : List PySem.Expr} {scope : Scope} (hh : A.handled = none) (hclos : closureFor scope env = pure []) (G : Value → Prop)
    (src : Run prog w A s0 (eval it1 env) h fun xv h1 => ∃ l items, xv = .ref l ∧ h1.IsList l items ∧ (∀ v ∈ items.toList, ∃ T its, v = .ref T ∧ h1.IsList T its ∧ ∀ u ∈ its.toList, G u) ∧
      (∀ s1 C u h3 m3, G u → Kp h1 h3 → h3.Ns C m3 → m3 x2 = some u → Run prog w A s1 (tests ifs2 (compEnvC scope [] C env)) h3 fun ok h4 => ok = false ∧ Kp h3 h4) ∧
      ∀ D h', Kp h1 h' → IsL h' D #[] 0 → P (.ref D) h')
    (hcell : ∀ y ∈ scope.names, y.2 ≠ .cell := by decide) (hkind : scope.kind = .function := by rfl)
    (hnames : ∀ y ∈ scope.names, y.2 = .local → scope.names.lookup y.1 = some .local := by decide) (hx1 : scope.names.lookup x1 = some .local := by rfl) (hx2 : scope.names.lookup x2 = some .local := by rfl)
    (hd : (x1 == ("__debug__" : Str)) = false := by decide)
    (hs : ∀ x, foldedSetIterable it1 env x = pure x := by intro _; rfl) :
    Run prog w A s0 (eval (.ListComp elt [⟨.Name x1 p1, it1, [], 0⟩, ⟨.Name x2 p2, .Name x1 p3, ifs2, 0⟩] scope pos) env) h P := fun tk => by
  rw [eval_ListComp]
  refine wpAny_comprehension_free (use := none) rfl hs hclos hkind hnames (src.use tk fun xv h1 t1 q => ?_)
  obtain ⟨l, items, rfl, hl, hitems, T, fin⟩ := q
  refine wpAny_pyIter_list (s := { s0 with heap := h1, toks := t1 }) hl ?_
  refine wpAny_newObj_type (wpAny_newFunctionEnv hcell (by intro y hy; simp at hy) (fun h₁ hns₁ hsb₁ => ?_) hkind)
  dsimp only at hns₁ hsb₁ ⊢
  have hlt : l < h1.objs.size := by obtain ⟨o, ho, _⟩ := hl; exact Heap.lt_size ho
  generalize hH1 : h1.push { cls := .type "list_iterator", data := .fields #[.ref l, .int 0 0] } = H1 at hns₁ hsb₁ ⊢
  have hI : H1.objs.size = h1.objs.size + 1 := by rw [← hH1, Heap.size_push]
  generalize hH2 : H1.push { cls := .type "list", dict := none, data := .seq ([] : List Value).toArray } = H2 at hns₁ hsb₁ ⊢
  have hC : H2.objs.size = h1.objs.size + 2 := by rw [← hH2, Heap.size_push, hI]
  have W := Walks.list (prog := prog) (w := w) (A := A) hh h1.objs.size l (Nat.ne_of_lt hlt) items
  have hDC : H1.objs.size ≠ H2.objs.size := by rw [hI, hC]; exact Nat.ne_of_lt (Nat.lt_succ_self _)
  have hIC : h1.objs.size ≠ H2.objs.size := by rw [hC]; exact Nat.ne_of_lt (Nat.lt_succ_of_lt (Nat.lt_succ_self _))
  have hlC : l ≠ H2.objs.size := by rw [hC]; exact Nat.ne_of_lt (Nat.lt_succ_of_lt (Nat.lt_succ_of_lt hlt))
  have up1 : ∀ b o, b ≠ H2.objs.size → H1.get? b = some o → h₁.get? b = some o := fun b o hb e => hsb₁.extBut b o hb (Heap.get?_push_of_some _ (hH2 ▸ Heap.get?_push_of_some _ e))
  have old : Kp h1 h₁ := fun b o e => up1 b o (by rw [hC]; exact Nat.ne_of_lt (Nat.lt_succ_of_lt (Nat.lt_succ_of_lt (Heap.lt_size e)))) (hH1 ▸ Heap.get?_push_of_some _ e)
  have hacc : IsL h₁ H1.objs.size #[] 0 := hsb₁.extBut _ _ hDC (Heap.get?_push_of_some _ (hH2 ▸ Heap.get?_push_size _ rfl))
  have st0 : h₁.IsListIter h1.objs.size l 0 ∧ h₁.IsList l items := ⟨⟨_, up1 _ _ hIC (hH1 ▸ Heap.get?_push_size _ rfl), rfl, rfl⟩, by obtain ⟨o, a, b⟩ := hl; exact ⟨o, old _ _ a, b⟩⟩
  have hDI : H1.objs.size ≠ h1.objs.size := by rw [hI]; exact Nat.ne_of_gt (Nat.lt_succ_self _)
  have hC1 : h1.get? H2.objs.size = none := get_none_of_le (by rw [hC]; omega)
  have loop : ∀ s₃ : Shared, s₃ = { s0 with heap := h₁, toks := t1 + ([] : List (Str × Value)).length } →
      codeAny (model prog w) A (.compLoop (.ListComp elt [⟨.Name x1 p1, it1, [], 0⟩, ⟨.Name x2 p2, .Name x1 p3, ifs2, 0⟩] scope pos) 0 (.ref h1.objs.size) (.ref H1.objs.size) (compEnvC scope [] H2.objs.size env))
        (compPost (model prog w) A (fun _ _ => False) none (fun v s' => ∃ h' tk', s' = { s0 with heap := h', toks := tk' } ∧ P v h') (.ref H1.objs.size) H2.objs.size) s₃ := by
    rintro s₃ rfl
    refine codeAny_loop rfl (fun k s' => ∃ h' tk i m', s' = { s0 with heap := h', toks := tk } ∧ i ≤ items.size ∧ k = items.size - i ∧ (h'.IsListIter h1.objs.size l i ∧ h'.IsList l items) ∧ h'.Ns H2.objs.size m' ∧
      Kp h1 h' ∧ IsL h' H1.objs.size #[] 0) ?_ items.size ⟨h₁, _, 0, _, rfl, Nat.zero_le _, rfl, st0, hns₁, old, hacc⟩
    rintro k s' ⟨h', tk, i, m', rfl, hi, rfl, hst, hn', hk, hD⟩
    show wpAny _ A ((compTurn (.ListComp elt [⟨.Name x1 p1, it1, [], 0⟩, ⟨.Name x2 p2, .Name x1 p3, ifs2, 0⟩] scope pos) 0 (.ref h1.objs.size) (.ref H1.objs.size) (compEnvC scope [] H2.objs.size env)).onRaise (fun x => do noteFrame x (compEnvC scope [] H2.objs.size env); theTreesLotGoes x)) _ _ _
    refine wpAny_noted ?_
    refine wpAny_bind (wpAny_standAt (wpAny_bind ?_))
    by_cases hlt2 : i < items.size
    · refine W.item i _ _ _ hlt2 hst fun v h2 tk2 hv hst2 hk2 => ?_
      have n2 : h2.Ns H2.objs.size m' := hn'.at' fun o e => hk2 _ o (by simpa using Ne.symm hIC) e
      have hvm : v ∈ items.toList := by rw [Array.getElem?_toList.symm] at hv; exact List.mem_of_getElem? hv
      obtain ⟨T', its, rfl, hT', hG⟩ := hitems v hvm
      have hTlt : T' < h1.objs.size := by obtain ⟨o, ho, _⟩ := hT'; exact Heap.lt_size ho
      refine wpAny_bind (wpAny_of_eq rfl ?_)
      refine wpAny_bind (wpAny_assign_Name (wpAny_storeName_local (env := compEnvC scope [] H2.objs.size env) (by exact lookup_relabel_local (env := env) hx1) n2 (fun h3 n3 s3 => ?_) (by simp [compEnvC, relabel, hkind])))
      have k3 : Kp h1 h3 := fun b o e => s3.extBut b o (by rw [show (compEnvC scope [] H2.objs.size env).locals = H2.objs.size from rfl, hC]; exact Nat.ne_of_lt (Nat.lt_succ_of_lt (Nat.lt_succ_of_lt (Heap.lt_size e)))) (hk2 b o (by simpa using Nat.ne_of_lt (Heap.lt_size e)) (hk b o e))
      have hD3 : IsL h3 H1.objs.size #[] 0 := s3.extBut _ _ hDC (hk2 _ _ (by simpa using hDI) hD)
      have hst3 := W.frame _ _ h3 hst2 fun b hb o e => s3.extBut b o (by
        rcases List.mem_cons.mp hb with rfl | hb
        · exact hIC
        · rw [List.mem_singleton.mp hb]; exact hlC) e
      refine wpAny_bind (wpAny_pure ?_)
      have nm : (fun y => if y = x1 then some (Value.ref T') else m' y) x1 = some (Value.ref T') := if_pos rfl
      show wpAny _ A (eval (.Name x1 p3) (compEnvC scope [] H2.objs.size env) >>= _) _ _ _
      refine wpAny_bind ((ev_Name (P := fun v h => v = .ref T' ∧ h3 = h) (has_local n3 nm rfl hkind (by exact lookup_relabel_local (env := env) hx1)) ⟨rfl, rfl⟩ hd).use _ fun v h4 tk4 qv => ?_)
      obtain ⟨rfl, rfl⟩ := qv
      refine wpAny_bind (wpAny_standAt ?_)
      show wpAny _ A (pure (Value.ref T') >>= _) _ _ _
      refine wpAny_bind (wpAny_pure ?_)
      refine wpAny_bind (wpAny_holding ?_)
      have hTC : T' ≠ H2.objs.size := by rw [hC]; exact Nat.ne_of_lt (Nat.lt_succ_of_lt (Nat.lt_succ_of_lt hTlt))
      refine wpAny_mono (inner_none (A := A) (cenv := compEnvC scope [] H2.objs.size env) (elt := elt) (t1 := .Name x1 p1) (it1 := it1) (ifs1 := []) (it2 := .Name x1 p3) (p2 := p2) (ifs2 := ifs2) (scope := scope) (pos := pos) (acc := .ref H1.objs.size) (R := fun r s' => match r with
          | .ok f => ∃ h' tk' m'', s' = { s0 with heap := h', toks := tk' } ∧ h'.Ns H2.objs.size m'' ∧ ∀ b o, b ≠ H2.objs.size → h3.get? b = some o → h'.get? b = some o
          | .error e => False) (E := fun _ _ => False) hh (by exact lookup_relabel_local (env := env) hx2) (by simp [compEnvC, relabel, hkind]) (by obtain ⟨o, a, b⟩ := hT'; exact ⟨o, k3 _ _ a, b⟩) hTC n3 (fun u s₂ m₂ E hu hn₂ hm₂ hk₂ => ?_) (fun h5 tk5 m5 n5 k5 => ⟨h5, tk5, m5, rfl, n5, k5⟩)) (fun it s' q => ?_) fun _ _ f => f.elim
      · have kk : Kp h1 s₂.heap := fun b o e => hk₂ b o (by rw [show (compEnvC scope [] H2.objs.size env).locals = H2.objs.size from rfl, hC]; exact Nat.ne_of_lt (Nat.lt_succ_of_lt (Nat.lt_succ_of_lt (Heap.lt_size e)))) (k3 b o e)
        refine wpAny_mono (T s₂ H2.objs.size u s₂.heap m₂ (hG u hu) kk hn₂ hm₂ s₂.toks) (fun ok s4 q => ?_) fun _ _ f => f.elim
        obtain ⟨h', tk', rfl, e, k⟩ := q
        exact ⟨e, keeps_of k⟩
      · refine wpAny_bind (wpAny_runOwn (A := A) (codeAny_mono q fun r s5 q5 => ?_))
        cases r with
        | error e => exact q5.elim
        | ok f =>
          obtain ⟨h5, tk5, m5, rfl, n5, k5⟩ := q5
          refine wpAny_pure ⟨rfl, items.size - (i + 1), by omega, h5, tk5, i + 1, m5, rfl, hlt2, rfl, W.frame _ _ h5 hst3 fun b hb o e => k5 b o (by
            rcases List.mem_cons.mp hb with rfl | hb
            · exact hIC
            · rw [List.mem_singleton.mp hb]; exact hlC) e, n5, fun b o e => k5 b o (by rw [hC]; exact Nat.ne_of_lt (Nat.lt_succ_of_lt (Nat.lt_succ_of_lt (Heap.lt_size e)))) (k3 b o e), k5 _ _ hDC hD3⟩
    · obtain rfl : i = items.size := Nat.le_antisymm hi (Nat.not_lt.mp hlt2)
      refine W.done _ _ _ hst fun h2 tk2 hk2 => ?_
      refine wpAny_pure ?_
      refine ⟨m', hn'.at' fun o e => hk2 _ o (by simpa using Ne.symm hIC) e, fun h3 s3 => ⟨h3, tk2, rfl, fin _ h3 (fun b o e => s3.extBut b o ?_ (hk2 b o (by simpa using Nat.ne_of_lt (Heap.lt_size e)) (hk b o e))) (s3.extBut _ _ hDC (hk2 _ _ (by simpa using hDI) hD))⟩⟩
      rw [hC]; exact Nat.ne_of_lt (Nat.lt_succ_of_lt (Nat.lt_succ_of_lt (Heap.lt_size e)))
  exact codeAny_compStart_list (loop _ rfl) (W.self 0 _ _ _ st0 (loop _ rfl))
end
end
end Mine

namespace Mine
noncomputable section
open PySem PySem.W PySem.Calls PyProof.Rows
set_option maxRecDepth 100000
set_option linter.unusedVariables false
theorem filter_all {α : Type} (l : List α) : l.filter (fun _ => true) = l := List.filter_eq_self.mpr fun _ _ => rfl

/-- x = [[..] for y in l], each item a new list -/
theorem st_compLO {prog : Program} {w : World} {A : Around} {s0 : Shared} {h : Heap} {env : Env} {P : Flow → Heap → Prop} {elt iter : PySem.Expr} {x y : Str} {px py : Pos} {scope : Scope} {cl : List (Str × Addr)} {pos spos : Pos} (hh : A.handled = none)
    (hsw : swapsWith (.ListComp elt [⟨.Name x px, iter, [], 0⟩] scope pos) (some (.Name y py)) spos.line env = pure true) (hclos : closureFor scope env = pure cl)
    (hy : env.kindOf y = some .local) (hek : env.scope.kind = .function)
    (src : Run prog w A s0 (eval iter env) h fun xv h1 => ∃ (l : Addr) (items : Array Value) (G : Value → Array Value → Prop) (m : Str → Option Value),
      xv = .ref l ∧ h1.IsList l items ∧ items.size ≤ sizeLine ∧ h1.Ns env.locals m ∧
      (∀ s1 C v h3 m3, v ∈ items.toList → Kp h1 h3 → h3.Ns C m3 → m3 x = some v → h1.get? C = none → Run prog w A s1 (eval elt (compEnvC scope cl C env)) h3 fun y h4 => (∃ T its, y = .ref T ∧ h3.get? T = none ∧ h4.IsList T its ∧ G v its) ∧ Kp h3 h4) ∧
      ∀ D h' ys, h1.get? D = none → h'.PlainList D ys → Paired (fun v y => ∃ T its, y = .ref T ∧ h'.IsList T its ∧ G v its) items.toList ys.toList → h'.Ns env.locals (fun z => if z = y then some (.ref D) else m z) →
        (∀ b o, b ≠ env.locals → h1.get? b = some o → h'.get? b = some o) → P .next h')
    (hcell : ∀ y ∈ scope.names, y.2 ≠ .cell := by decide) (hkind : scope.kind = .function := by rfl)
    (hnames : ∀ y ∈ scope.names, y.2 = .local → scope.names.lookup y.1 = some .local := by decide) (hx : scope.names.lookup x = some .local := by rfl)
    (hs : ∀ x, foldedSetIterable iter env x = pure x := by intro _; rfl) :
    Run prog w A s0 (exec (.Assign [.Name y py] (.ListComp elt [⟨.Name x px, iter, [], 0⟩] scope pos) spos) env) h P := fun tk => by
  rw [exec_Assign_Name_used _ _ _ _ hsw]
  refine wpAny_bind (wpAny_standAt (wpAny_bind ?_))
  show wpAny _ A (do let _ ← comprehension (.ListComp elt [⟨.Name x px, iter, [], 0⟩] scope pos) scope env _ (newList []) false (eval iter env) (some (assign (.Name y py) env))) _ _ _
  refine wpAny_bind (wpAny_mono (wpAny_comprehension_free (use := some (assign (.Name y py) env)) (Q := fun _ s' => ∃ h' tk', s' = { s0 with heap := h', toks := tk' } ∧ P .next h') rfl hs hclos hkind hnames
    (src.use tk fun xv h1 t1 q1 => ?_)) (fun _ s' hq => wpAny_pure (wpAny_pure hq)) fun _ _ e => e)
  obtain ⟨l, items, G, m, rfl, hl, hsz, hn, helt, fin⟩ := q1
  refine wpAny_pyIter_list (s := { s0 with heap := h1, toks := t1 }) hl ?_
  have hlt : l < h1.objs.size := by obtain ⟨o, ho, _⟩ := hl; exact Heap.lt_size ho
  have kI : Kp h1 (h1.push { cls := .type "list_iterator", data := .fields #[.ref l, .int 0 0] }) := Kp.push _ _
  have hfresh : h1.get? h1.objs.size = none := get_none_of_le (Nat.le_refl _)
  have st0 : (h1.push { cls := .type "list_iterator", data := .fields #[.ref l, .int 0 0] }).IsListIter h1.objs.size l 0 ∧ (h1.push { cls := .type "list_iterator", data := .fields #[.ref l, .int 0 0] }).IsList l items :=
    ⟨⟨_, Heap.get?_push_size _ rfl, rfl, rfl⟩, hl.push _⟩
  refine comp_block_walkCO (s₂ := { s0 with heap := h1.push { cls := .type "list_iterator", data := .fields #[.ref l, .int 0 0] }, toks := t1 })
    (RR := fun acc C => compPost (model prog w) A (fun _ _ => False) (some (assign (.Name y py) env)) (fun _ s' => ∃ h' tk', s' = { s0 with heap := h', toks := tk' } ∧ P .next h') acc C)
    (Walks.list hh h1.objs.size l (Nat.ne_of_lt hlt) items) hsz (fun _ => true) G (fun i h st b hb => ?_) hcell hkind hx st0 (fun b hb => ?_) ⟨?_, ?_⟩ ?_
  · rw [List.mem_singleton.mp hb]; obtain ⟨o, ho, _⟩ := st.1; exact ⟨o, ho⟩
  · show b < (h1.push _).objs.size
    rw [Heap.size_push]
    rcases List.mem_cons.mp hb with rfl | hb
    · exact Nat.lt_succ_self _
    · rw [List.mem_singleton.mp hb]; exact Nat.lt_succ_of_lt hlt
  · intro C i v s₃ m₃ E' _ _ _ _ _ _
    exact wpAny_tests_nil ⟨rfl, s₃.heap, s₃.toks, rfl, fun _ _ e => e⟩
  · intro C i v s₃ m₃ E' hC hiv _ hn₃ hm₃ hk _
    have k3 : Kp h1 s₃.heap := fun b o e => hk b o (by simpa using Nat.ne_of_lt (Heap.lt_size e)) (kI _ _ e)
    have hvm : v ∈ items.toList := by rw [Array.getElem?_toList.symm] at hiv; exact List.mem_of_getElem? hiv
    have hC1 : h1.get? C = none := none_of_kp kI (get_none_of_le hC)
    refine wpAny_mono (helt s₃ C v s₃.heap m₃ hvm k3 hn₃ hm₃ hC1 s₃.toks) (fun y' s4 q => ?_) fun _ _ f => f.elim
    obtain ⟨h', tk', rfl, e, k⟩ := q
    exact ⟨e, keeps_of k⟩
  · intro D C h' tk' m' ys vs hD hC hDC hnC hlD hplD hlen hP hF hnd hkp
    have hD1 : h1.get? D = none := none_of_kp kI hD
    have hC1 : h1.get? C = none := none_of_kp kI hC
    have hLC : env.locals ≠ C := by rintro rfl; obtain ⟨o, _, _, ho, _⟩ := hn; rw [hC1] at ho; cases ho
    have hLD : env.locals ≠ D := by rintro rfl; obtain ⟨o, _, _, ho, _⟩ := hn; rw [hD1] at ho; cases ho
    have up : Kp h1 h' := fun b o e => hkp b o (by simpa using Nat.ne_of_lt (Heap.lt_size e)) (kI _ _ e)
    have e : vs = items.toList := list_of_places hlen hP
    subst e
    rw [filter_all] at hF
    show wpAny _ A (assign (.Name y py) env (.ref D)) _ _ _
    refine wpAny_assign_Name (wpAny_storeName_local hy (hn.keeps up) (fun h₂ hn₂ hs₂ => ?_) (by rw [hek]; rfl))
    refine ⟨m', hnC.sameBut hs₂ (Ne.symm hLC), fun h₃ hs₃ => ⟨_, _, rfl, ?_⟩⟩
    refine fin D h₃ ys hD1 ((hplD.extBut hs₂.extBut (Ne.symm hLD)).extBut hs₃.extBut hDC) (hF.mono fun v y' hy' => ?_) (hn₂.sameBut hs₃ hLC) fun b o hbL e =>
      hs₃.extBut b o (by rintro rfl; rw [hC1] at e; cases e) (hs₂.extBut b o hbL (up b o e))
    obtain ⟨T, its, rfl, hT1, hTC, _, _, hT, hG⟩ := hy'
    have hTL : T ≠ env.locals := by rintro rfl; obtain ⟨o, _, _, ho, _⟩ := hn; rw [none_of_kp kI hT1] at ho; cases ho
    exact ⟨T, its, rfl, (hT.extBut hs₂.extBut hTL).extBut hs₃.extBut hTC, hG⟩
end
end Mine

namespace Mine
noncomputable section
open PySem PySem.W PySem.Calls PyProof.Rows
set_option maxRecDepth 100000
set_option linter.unusedVariables false

/-- a list of two ints -/
noncomputable def Pr (h : Heap) (T : Addr) (a b : Int) : Prop := ∃ t u, h.IsList T #[.int a t, .int b u]
theorem Pr.kp {h h' : Heap} {T : Addr} {a b : Int} (x : Pr h T a b) (k : Kp h h') : Pr h' T a b := let ⟨t, u, o, e, c⟩ := x; ⟨t, u, o, k _ _ e, c⟩
inductive Prs (h : Heap) : List Value → List (Int × Int) → Prop
  | nil : Prs h [] []
  | cons {T : Addr} {a b : Int} {vs : List Value} {ps : List (Int × Int)} : Pr h T a b → Prs h vs ps → Prs h (.ref T :: vs) ((a, b) :: ps)
theorem Prs.kp {h h' : Heap} {vs : List Value} {ps : List (Int × Int)} (x : Prs h vs ps) (k : Kp h h') : Prs h' vs ps := by
  induction x with
  | nil => exact .nil
  | cons p _ ih => exact .cons (p.kp k) ih
theorem Prs.length {h : Heap} {vs : List Value} {ps : List (Int × Int)} (x : Prs h vs ps) : vs.length = ps.length := by
  induction x with
  | nil => rfl
  | cons _ _ ih => rw [List.length_cons, List.length_cons, ih]
theorem Prs.mem {h : Heap} {vs : List Value} {ps : List (Int × Int)} (x : Prs h vs ps) : ∀ v ∈ vs, ∃ T a b, v = .ref T ∧ Pr h T a b := by
  induction x with
  | nil => exact fun _ q => nomatch q
  | cons p _ ih =>
    intro v hv
    rcases List.mem_cons.mp hv with rfl | hv
    · exact ⟨_, _, _, rfl, p⟩
    · exact ih v hv
/-- a list of such pairs -/
noncomputable def AL (h : Heap) (D : Addr) (ps : List (Int × Int)) : Prop := ∃ vs n, IsL h D vs.toArray n ∧ Prs h vs ps
theorem AL.kp {h h' : Heap} {D : Addr} {ps : List (Int × Int)} (x : AL h D ps) (k : Kp h h') : AL h' D ps := let ⟨vs, n, e, p⟩ := x; ⟨vs, n, k _ _ e, p.kp k⟩

/-- the pair that stands at a value -/
noncomputable def pv (h : Heap) : Value → Option (Int × Int)
  | .ref T => match h.get? T with
    | some o => match o.data with
      | .seq its _ => match its.toList with
        | [.int a _, .int b _] => some (a, b)
        | _ => none
      | _ => none
    | none => none
  | _ => none
theorem pv_of {h : Heap} {T : Addr} {a b : Int} (x : Pr h T a b) : pv h (.ref T) = some (a, b) := by
  obtain ⟨t, u, o, e, _, n, hd⟩ := x
  simp only [pv, e, hd]
theorem countP_pv {h : Heap} {x : Int × Int} : ∀ {vs : List Value} {ps : List (Int × Int)}, Prs h vs ps → vs.countP (fun v => pv h v == some x) = ps.count x
  | _, _, .nil => rfl
  | _, _, .cons (T := T) (a := a) (b := b) (vs := vs) (ps := ps) p r => by
    rw [List.countP_cons, List.count_cons, countP_pv r, pv_of p]
    rfl

theorem pr_reads {h : Heap} {T : Addr} {a b : Int} (x : Pr h T a b) : Reads h (.ref T) (.list [.int a, .int b]) [T] := by
  obtain ⟨t, u, o, e, hc, n, hd⟩ := x
  exact .list e hc hd (.cons (.int a t) (.cons (.int b u) .nil))
theorem eqv_two (a b c d : Int) : PyData.eqv (.list [.int a, .int b]) (.list [.int c, .int d]) = decide ((a, b) = (c, d)) := by
  have h1 : PyData.eqv (.list [.int a, .int b]) (.list [.int c, .int d]) = PyData.eqvAll ([a, b].map .int) ([c, d].map .int) := rfl
  rw [h1, eqv_ints]
  by_cases h : a = c <;> by_cases h2 : b = d <;> simp [h, h2]

section
variable {prog : Program} {w : World} {A : Around} {s0 : Shared} {h : Heap} {env : Env} {P : Value → Heap → Prop} {mg mb : Str → Option Value}

theorem rb_countPr {D X : Addr} {ps : List (Int × Int)} {x : Int × Int} {n : Nat} (R : Room A (n + 1)) (hl : AL h D ps) (hx : Pr h X x.1 x.2) (p : ∀ t, P (.int (ps.count x : Nat) t) h) :
    Run prog w A s0 (call (.builtin "list.count") [.ref D, .ref X]) h P := fun tk => by
  obtain ⟨vs, n', hL, hp⟩ := hl
  refine call_meets PySem.F.slot_list_count ⟨_, hL, rfl⟩ PySem.F.entry_list_count (PySem.F.args_list_count_2 _ _) (SeqAt.list_countAt D vs.toArray n' none #[] (.ref X) (fun v => pv h v == some x)) ⟨hL, fun y hy => ?_, ?_⟩
  · obtain ⟨T, a, b, rfl, hT⟩ := hp.mem y (by simpa using hy)
    have := SeqAt.eqAt_reads (.list [.int a, .int b]) (.list [.int x.1, .int x.2]) A.in1 { s0 with heap := h, toks := tk } (.ref T) (.ref X) [T] [X] (pr_reads hT) (pr_reads hx) rfl rfl (by
      have := R.un
      show A.units + 1 + min 1 1 < 9900
      lia)
    have e : (pv h (.ref T) == some x) = PyData.eqv (.list [.int a, .int b]) (.list [.int x.1, .int x.2]) := by
      rw [pv_of hT, eqv_two]
      by_cases q : (a, b) = x <;> simp [q]
    show SeqAt.EqAt _ _ _ _ (pv h (.ref T) == some x)
    rw [e]; exact this
  · refine ⟨_, _, rfl, ?_⟩
    show P (.int ((vs.toArray.toList.countP fun v => pv h v == some x : Nat) : Int) _) h
    rw [show vs.toArray.toList = vs from rfl, countP_pv hp]
    exact p _

theorem ev_neg1 {i : Int} {k : Nat} {p1 p2 : Pos} (p : ∀ t, P (.int (-i) t) h) : Run prog w A s0 (eval (.UnaryOp .USub (.Constant (.int i) k p1) p2) env) h P := fun tk =>
  wpAny_UnaryOp ((ev_int (P := fun v h' => h' = h ∧ ∃ t, v = .int i t) fun t => ⟨rfl, t, rfl⟩).use tk fun v h1 t1 q => by
    obtain ⟨rfl, t, rfl⟩ := q
    exact PySem.P.neg_int ⟨_, _, rfl, p _⟩)

/-- D.count([e1, e2]) -/
theorem ev_countPr {D : Addr} {ps : List (Int × Int)} {a b : Int} {n : Nat} {x : Str} {px p1 apos pos : Pos} {e1 e2 : PySem.Expr} (R : Room A (n + 1)) (hx : Has prog w env x h (.ref D)) (hl : AL h D ps)
    (r1 : ∀ {Q : Value → Heap → Prop} {h' : Heap}, (∀ t, Q (.int a t) h') → Run prog w A s0 (eval e1 env) h' Q) (r2 : ∀ {Q : Value → Heap → Prop} {h' : Heap}, (∀ t, Q (.int b t) h') → Run prog w A s0 (eval e2 env) h' Q)
    (p : ∀ t h', Kp h h' → P (.int (ps.count (a, b) : Nat) t) h')
    (hbase : attributeBase (.Name x px) "count" env (eval (.Name x px) env) = eval (.Name x px) env := by rfl) (hline : (apos.endLine == pos.line) = true := by rfl)
    (he : starEach [e1, e2] env = (false, eval e1 env) :: starEach [e2] env := by rfl) (he' : starEach [e2] env = (false, eval e2 env) :: starEach [] env := by rfl) (hd : (x == ("__debug__" : Str)) = false := by decide) :
    Run prog w A s0 (eval (.Call (.Attribute (.Name x px) "count" apos) [.List [e1, e2] p1] [] pos) env) h P := by
  obtain ⟨vs, n', hL, hp⟩ := id hl
  refine ev_methL1 PySem.F.slot_list_count PySem.F.type_list_count (ev_Name hx ⟨D, vs.toArray, n', rfl, hL, ev_list2 (r1 fun t1 => r2 fun t2 => rb_newList (by simp) fun X h1 k1 _ hX => ?_) he he'⟩ hd) hbase hline
  exact rb_countPr R (hl.kp k1) (x := (a, b)) ⟨t1, t2, hX.isList⟩ fun t => p t h1 k1

/-- the two questions of one number -/
theorem tests_num {i : Int} {t : Tok} {p1 p2 p3 p4 p5 p6 p7 p8 p9 p10 : Pos} {P : Bool → Heap → Prop} (h1 : Has prog w env "isinstance" h (.builtin "isinstance")) (h2 : Has prog w env "int" h (.type "int")) (h3 : Has prog w env "bool" h (.type "bool"))
    (h4 : Has prog w env "one" h (.int i t)) (p : P false h) :
    Run prog w A s0 (tests [.BoolOp .Or [.UnaryOp .Not (.Call (.Name "isinstance" p1) [.Name "one" p2, .Name "int" p3] [] p4) p5, .Call (.Name "isinstance" p6) [.Name "one" p7, .Name "bool" p8] [] p9] p10] env) h P := by
  refine tests_one fun tk => isTrue_or (isTrue_not (isTrue_plain ((ev_callB2 h1 (ev_Name h4 (ev_Name h2 (P := fun v h' => Run prog w A s0 (call (.builtin "isinstance") [.int i t, v]) h' fun v h' => v = .bool true ∧ h' = h) ?_))).use tk fun v h' t1 q => ?_)))
  · exact fun tk => IsiPair.int_int ⟨_, _, rfl, rfl, rfl⟩
  · obtain ⟨rfl, rfl⟩ := q
    refine wpAny_truthy_bool ?_
    show wpAny _ _ _ _ _ _
    refine isTrue_or (isTrue_plain ((ev_callB2 h1 (ev_Name h4 (ev_Name h3 (P := fun v h'' => Run prog w A s0 (call (.builtin "isinstance") [.int i t, v]) h'' fun v h'' => v = .bool false ∧ h'' = h') ?_))).use t1 fun v h'' t2 q => ?_))
    · exact fun tk => IsiPair.int_bool ⟨_, _, rfl, rfl, rfl⟩
    · obtain ⟨rfl, rfl⟩ := q
      exact wpAny_truthy_bool (isTrue_or_nil ⟨_, _, rfl, p⟩)
end
end
end Mine

namespace Mine
noncomputable section
open PySem PySem.W PySem.Calls PyProof.Rows
set_option maxRecDepth 100000
set_option linter.unusedVariables false

/-- the draws of a script -/
noncomputable def dr (ns : List Int) : List Int := ((ns.take 4).map (fun x => Int.fmod x 29) ++ [28, 11]).take (max 2 (min 4 (ns.length : Int))).toNat
/-- the place -/
noncomputable def pl (ns : List Int) : Int := ((ns.take 60).map (fun x => Int.fmod x 1000003)).sum.fmod (cnt (dr ns))

theorem paired_ints_all {F : Value → Value → Prop} {g : Int → Int} (hF : ∀ i t y, F (.int i t) y → ∃ u, y = .int (g i) u) : ∀ {vs : List Value} {ns : List Int} {ys : List Value}, IntsAre vs ns → Paired F (vs.filter fun _ => true) ys → IntsAre ys (ns.map g) := by
  intro vs ns ys hi
  rw [List.filter_eq_self.mpr (fun _ _ => rfl)]
  intro hp
  induction hi generalizing ys with
  | nil => cases hp; exact .nil
  | cons n t _ ih =>
    cases hp with
    | cons h1 h2 =>
      obtain ⟨u, rfl⟩ := hF _ _ _ h1
      exact .cons _ _ (ih h2)

section
variable {prog : Program} {w : World} {A : Around} {s0 : Shared} {h : Heap} {env : Env} {P : Value → Heap → Prop} {mg mb : Str → Option Value}

/-- the rests of the first items -/
theorem ev_mods {scope : Scope} {l : Addr} {ns : List Int} {m kk : Int} {x1 p1 p2 p3 p4 p5 p6 p7 lpos : Pos} {c1 c2 : Nat} (hh : A.handled = none) (hclos : closureFor scope env = pure [])
    (src : Has prog w env "script" h (.ref l)) (hl : ∃ vs, h.IsList l vs.toArray ∧ IntsAre vs ns) (hn : ns.length ≤ 63) (hm : m ≠ 0) (hk : 0 ≤ kk)
    (hcell : ∀ y ∈ scope.names, y.2 ≠ .cell) (hkind : scope.kind = .function) (hnames : ∀ y ∈ scope.names, y.2 = .local → scope.names.lookup y.1 = some .local) (hx : scope.names.lookup ("x" : Str) = some .local)
    (q : ∀ D h', Kp h h' → IL h' D ((ns.take kk.toNat).map (fun x => Int.fmod x m)) → P (.ref D) h') :
    Run prog w A s0 (eval (.ListComp (.BinOp (.Name "x" p1) .Mod (.Constant (.int m) c1 p2) p3) [⟨.Name "x" x1, .Subscript (.Name "script" p4) (.Slice none (some (.Constant (.int kk) c2 p5)) none p6) p7, [], 0⟩] scope lpos) env) h P := by
  refine ev_compL (fun _ => true) (fun v y => ∃ i t u, v = .int i t ∧ y = .int (i.fmod m) u) hh hclos (ev_upto (pv_Name src) pv_int hl hk (by lia) fun l' h1 k1 _ hl1 => ?_) hcell hkind hnames hx
  obtain ⟨vs, n, hL, hi⟩ := id hl1
  have hlen := hi.length
  rw [List.length_take] at hlen
  refine ⟨l', vs.toArray, rfl, hL.isList, by rw [List.size_toArray, sizeLine_eq]; lia, ⟨?_, ?_⟩, ?_⟩
  · intro s1 C i v h3 m3 hiv k3 n3 hm hC
    exact tests_nil ⟨rfl, Kp.refl _⟩
  · intro s1 C i v h3 m3 hiv _ k3 n3 hm3 hC
    obtain ⟨k, t, rfl, hk⟩ := IntsAre.at hi i v (by simpa using hiv)
    refine ev_BinOp (ev_Name (has_local n3 hm3 rfl hkind (by exact lookup_relabel_local (env := env) hx)) (ev_int fun t2 => rv_mod hm fun t3 => ?_))
    exact ⟨⟨k, t, t3, rfl, rfl⟩, Kp.refl _⟩
  · intro D h' ys hD k' hpl hpair
    obtain ⟨nD, hD'⟩ := hpl
    have hints := paired_ints_all (F := fun v y => ∃ i t u, v = .int i t ∧ y = .int (i.fmod m) u) (g := fun x => Int.fmod x m) (fun i t y q => by
      obtain ⟨i', t', u, e, rfl⟩ := q
      cases e
      exact ⟨u, rfl⟩) hi hpair
    exact q D h' (k1.trans k') ⟨ys.toList, nD, by simpa using hD', hints⟩
end

/-- what stands in the law's frame -/
structure LS (h : Heap) (l S Nn : Addr) (m : Str → Option Value) (hc : Heap) : Prop where
  kp : Kp h hc
  ns : hc.Ns h.objs.size m
  script : m "script" = some (.ref l)
  cS : CellAt hc (h.objs.size + 1) (.ref S)
  cN : CellAt hc (h.objs.size + 2) (.ref Nn)
  hS : SI hc S sgs
  hN : IL hc Nn nums
  cT : ∃ v0, hc.IsCell (h.objs.size + 3) v0
theorem LS.kpp {h : Heap} {l S Nn : Addr} {m : Str → Option Value} {hc hd : Heap} (x : LS h l S Nn m hc) (k : Kp hc hd) : LS h l S Nn m hd :=
  ⟨x.kp.trans k, ns_kp x.ns k, x.script, x.cS.kp k, x.cN.kp k, x.hS.kp k, x.hN.kp k, x.cT.imp fun _ c => c.keeps k⟩
theorem SI.same {h h' : Heap} {L l : Addr} {xs : List (List Nat)} {m : Str → Option Value} (x : SI h l xs) (n : h.Ns L m) (s : Heap.SameBut L h h') : SI h' l xs := by
  obtain ⟨vs, ⟨o, ho, hc⟩, hv⟩ := x
  refine ⟨vs, ⟨o, s.extBut _ _ ?_ ho, hc⟩, hv⟩
  rintro rfl
  obtain ⟨o', es, ep, ho', hd', _⟩ := n
  rw [ho] at ho'; cases ho'
  obtain ⟨_, nn, hd⟩ := hc
  rw [hd] at hd'; cases hd'
theorem SI.sameC {h h' : Heap} {c l : Addr} {xs : List (List Nat)} {v : Option Value} (x : SI h l xs) (n : h.IsCell c v) (s : Heap.SameBut c h h') : SI h' l xs := by
  obtain ⟨vs, ⟨o, ho, hc⟩, hv⟩ := x
  refine ⟨vs, ⟨o, s.extBut _ _ ?_ ho, hc⟩, hv⟩
  rintro rfl
  obtain ⟨o', ho', hd'⟩ := n
  rw [ho] at ho'; cases ho'
  obtain ⟨_, nn, hd⟩ := hc
  rw [hd] at hd'; cases hd'
theorem IL.sameC {h h' : Heap} {c l : Addr} {xs : List Int} {v : Option Value} (x : IL h l xs) (n : h.IsCell c v) (s : Heap.SameBut c h h') : IL h' l xs := by
  obtain ⟨vs, k, e, hv⟩ := x
  exact ⟨vs, k, s.extBut _ _ (cell_ne_list n e) e, hv⟩
theorem LS.set {h : Heap} {l S Nn : Addr} {m : Str → Option Value} {hc hd : Heap} {y : Str} {v : Value} (x : LS h l S Nn m hc) (n : hd.Ns h.objs.size (fun z => if z = y then some v else m z)) (s : Heap.SameBut h.objs.size hc hd)
    (h1 : (Str.ofString "script") ≠ y) : LS h l S Nn (fun z => if z = y then some v else m z) hd :=
  ⟨kp_same x.kp (get_none_of_le (Nat.le_refl _)) s, n, by rw [if_neg h1]; exact x.script, x.cS.same s (by show h.objs.size + 1 ≠ h.objs.size; lia), x.cN.same s (by show h.objs.size + 2 ≠ h.objs.size; lia), x.hS.same x.ns s, x.hN.same x.ns s, x.cT.imp fun _ c => c.sameBut s (by show h.objs.size + 3 ≠ h.objs.size; lia)⟩

theorem dr_bound (ns : List Int) : ∀ x ∈ dr ns, 0 ≤ x ∧ x < 29 := by
  intro x hx
  have := List.mem_of_mem_take hx
  rcases List.mem_append.mp this with h | h
  · obtain ⟨y, _, rfl⟩ := List.mem_map.mp h
    exact ⟨Int.fmod_nonneg_of_pos _ (by decide), Int.fmod_lt_of_pos _ (by decide)⟩
  · simp only [List.mem_cons, List.not_mem_nil, or_false] at h
    lia
/-- the places of a row -/
noncomputable def tn (r : List Int) : List Nat := r.map Int.toNat
theorem ri_tn {r : List Int} (h : ∀ x ∈ r, 0 ≤ x) : ri (tn r) = r := by
  unfold ri tn
  rw [List.map_map]
  conv => rhs; rw [← List.map_id r]
  exact List.map_congr_left fun x hx => by have := h x hx; show ((x.toNat : Nat) : Int) = x; lia

end
end Mine

namespace Mine
noncomputable section
open PySem PySem.W PySem.Calls PyProof.Rows
set_option maxRecDepth 100000
set_option linter.unusedVariables false
section
variable {prog : Program} {w : World} {A : Around} {s0 : Shared} {h : Heap} {env : Env} {P : Value → Heap → Prop} {mg mb : Str → Option Value}

theorem ev_callKw {x kn : Str} {p pos kp : Pos} {e ke : PySem.Expr} {id : String} (hf : Has prog w env x h (.builtin id))
    (r : Run prog w A s0 (eval e env) h fun v h1 => Run prog w A s0 (eval ke env) h1 fun kv h2 => Run prog w A s0 (call (.builtin id) [v] [(kn, kv)]) h2 P)
    (he : starEach [e] env = (false, eval e env) :: starEach [] env := by rfl) (hd : (x == ("__debug__" : Str)) = false := by decide)
    (heb : ∀ pos, backTo pos (starEach [e] env) = (false, eval e env) :: backTo pos (starEach [] env) := by intro _; rfl)
    (hpl : ∀ pos, (backTo pos (starEach [e] env)).any (·.1) = false := by intro _; rfl) :
    Run prog w A s0 (eval (.Call (.Name x p) [e] [⟨some kn, ke, kp⟩] pos) env) h P := fun tk => by
  refine wpAny_Call_Name_kw (Run.use (P := fun v h' => v = .builtin id ∧ h' = h) (ev_Name hf ⟨rfl, rfl⟩ hd) tk fun v h' t1 q => ?_)
  obtain ⟨rfl, rfl⟩ := q
  refine callWith_kw ?_ (heb _) (hpl _)
  refine args_cons (r.use t1 fun v h1 t2 q => args_nil (kws_cons (q.use t2 fun kv h2 t3 q2 => kws_nil (q2 t3)))) he

/-- an item of the sorted texts -/
theorem ev_sortedAt {xt xp : Str} {p1 p2 p3 p4 p5 p6 p7 : Pos} {l : Addr} {xs : List (List Nat)} {k : Int} {t : Tok} (B : Bs w mg mb h) (R : Room A 10)
    (hsorted : Has prog w env "sorted" h (.builtin "sorted")) (hf : Has prog w env "_strxfrm" h (.ref 28)) (hx : Has prog w env xt h (.ref l)) (hp : ∀ h', Kp h h' → Has prog w env xp h' (.int k t))
    (hl : ∃ vs, h.IsList l vs.toArray ∧ StrsV vs xs) (hn : xs.Nodup) (hsz : xs.length < 64 ∨ xs.length = 65) (h0 : 0 ≤ k) (hk : k < xs.length)
    (q : ∀ (ys : List (List Nat)) (x : List Nat) t h', Kp h h' → ys.Perm xs → ys.Pairwise (fun a b => ¬ b < a) → ys[k.toNat]? = some x → P (.str (mkS x) t) h')
    (hdt : (xt == ("__debug__" : Str)) = false := by decide) (hdp : (xp == ("__debug__" : Str)) = false := by decide) :
    Run prog w A s0 (eval (.Subscript (.Call (.Name "sorted" p1) [.Name xt p2] [⟨some "key", .Name "_strxfrm" p3, p4⟩] p5) (.Name xp p6) p7) env) h P := by
  refine ev_Subscript (ev_callKw hsorted (ev_Name hx (ev_Name hf ?_) hdt))
  refine rb_sortedKey hl hn hsz (fun x t h' k' => ?_) fun D h1 ys k1 hD hperm hpw => ?_
  · have R2 : Room A.in1.in1 2 := ((R.le (by lia) : Room A (2 + 1 + 1)).in1).in1
    exact xfrm_ok _ s0 h' _ (B.kp k') R2
  · have hlen := hperm.length_eq
    obtain ⟨x, hx2⟩ : ∃ x, ys[k.toNat]? = some x := ⟨_, List.getElem?_eq_getElem (show k.toNat < ys.length by lia)⟩
    refine ev_Name (hp h1 k1) ?_ hdp
    intro tk
    obtain ⟨vs, n, hL, hi⟩ := hD
    obtain ⟨t', ht⟩ := hi.get hx2
    exact tail_any (Heap.IsList.typeIs (s := { s0 with heap := h1, toks := tk }) hL.isList) slot_list_getitem.lookup
      (wpAny_getItem_list (x := .str (mkS x) t') hL.isList h0 (by lia) (by simpa using ht) ⟨_, _, rfl, q ys x t' h1 k1 hperm hpw hx2⟩) (by with_unfolding_all rfl)

/-- a row's numbers, as the law writes them -/
theorem ev_numsOf {scope : Scope} {cN Nn l : Addr} {x : Str} {px p1 p2 pk lpos kp : Pos} {r : List Nat} (hh : A.handled = none) (hclos : closureFor scope env = pure [(("numbers" : Str), cN)])
    (src : Has prog w env x h (.ref l)) (hl : IL h l (ri r)) (hr : ∀ k ∈ r, k < 29) (hrl : r.length ≤ 8) (hc : CellAt h cN (.ref Nn)) (hN : IL h Nn nums)
    (hkN : ∀ C, (compEnvC scope [(("numbers" : Str), cN)] C env).kindOf "numbers" = some .cell)
    (hcell : ∀ y ∈ scope.names, y.2 ≠ .cell) (hkind : scope.kind = .function) (hnames : ∀ y ∈ scope.names, y.2 = .local → scope.names.lookup y.1 = some .local) (hx : scope.names.lookup ("k" : Str) = some .local)
    (hd : (x == ("__debug__" : Str)) = false)
    (q : ∀ D h', Kp h h' → IL h' D (r.map num) → P (.ref D) h') :
    Run prog w A s0 (eval (.ListComp (.Subscript (.Name "numbers" p1) (.Name "k" p2) kp) [⟨.Name "k" pk, .Name x px, [], 0⟩] scope lpos) env) h P := by
  have hrn : ∀ n ∈ ri r, 0 ≤ n ∧ n < 29 := fun n hn => by
    obtain ⟨k, hk, rfl⟩ := List.mem_map.mp hn
    have := hr k hk
    exact ⟨Int.natCast_nonneg k, by show ((k : Nat) : Int) < 29; lia⟩
  have hnl : nums.length = 29 := rfl
  refine ev_compL (fun _ => true) (fun v y => ∃ i t u, v = .int i t ∧ y = .int (num i.toNat) u) hh hclos (ev_Name src ?_ hd) hcell hkind hnames hx
  obtain ⟨vs, n, hL, hi⟩ := id hl
  have hlen := hi.length
  have hrl' : (ri r).length = r.length := by simp [ri]
  refine ⟨l, vs.toArray, rfl, hL.isList, by rw [List.size_toArray, sizeLine_eq]; lia, ⟨?_, ?_⟩, ?_⟩
  · intro s1 C i v h3 m3 hiv k3 n3 hm hC
    exact tests_nil ⟨rfl, Kp.refl _⟩
  · intro s1 C i v h3 m3 hiv _ k3 n3 hm hC
    obtain ⟨k, t, rfl, hk⟩ := IntsAre.at hi i v (by simpa using hiv)
    obtain ⟨hk0, hk29⟩ := hrn k (List.mem_of_getElem? hk)
    refine (pv_item (pv_Name (has_cell (hc.kp k3) rfl hkind (hkN C))) ((pv_Name (has_local n3 hm rfl hkind (by exact lookup_relabel_local (env := env) hx))).mono fun v e => ⟨t, e⟩) (hN.kp k3) hk0 (by rw [hnl]; lia) (by rw [hnl]; lia)).run fun v e => ?_
    obtain ⟨u, rfl⟩ := e
    exact ⟨⟨k, t, u, rfl, rfl⟩, Kp.refl _⟩
  · intro D h' ys hD k' hpl hpair
    obtain ⟨nD, hD'⟩ := hpl
    refine q D h' k' ⟨ys.toList, nD, by simpa using hD', ?_⟩
    have e : r.map num = (ri r).map fun i => num i.toNat := by
      unfold ri
      rw [List.map_map]
      exact List.map_congr_left fun k _ => rfl
    rw [e]
    exact paired_ints_all (F := fun v y => ∃ i t u, v = .int i t ∧ y = .int (num i.toNat) u) (g := fun i => num i.toNat) (fun i t y q => by
      obtain ⟨i', t', u, e, rfl⟩ := q
      cases e
      exact ⟨u, rfl⟩) hi (by simpa using hpair)
end
end
end Mine

namespace Mine
noncomputable section
open PySem PySem.W PySem.Calls PyProof.Rows
set_option maxRecDepth 100000
set_option linter.unusedVariables false
theorem ints_uniq {vs : List Value} {a b : List Int} (x : IntsAre vs a) (y : IntsAre vs b) : a = b := by rw [← x.nums, y.nums]
theorem il_uniq {h : Heap} {T : Addr} {a b : List Int} (x : IL h T a) (y : IL h T b) : a = b := by
  obtain ⟨vs, n, e, i⟩ := x
  obtain ⟨us, m, e', j⟩ := y
  have q := (show h.get? T = _ from e).symm.trans e'
  have : vs.toArray = us.toArray := by
    have q2 := Option.some.inj q
    injection q2 with _ _ q3 _
    injection q3 with q4 _
  have : vs = us := by simpa using this
  subst this
  exact ints_uniq i j
theorem rows_strs {h : Heap} {f : List Int → List Nat} {L : List (List Int)} {F : Value → Value → Prop} (hF : ∀ v y, F v y → ∃ T q u, v = .ref T ∧ IL h T q ∧ y = .str (mkS (f q)) u) : ∀ {vs : List Value} {rs : List (List Int)} {ys : List Value},
    RowsAre h vs rs → Paired F vs ys → StrsV ys (rs.map f)
  | _, _, _, .nil, .nil => .nil
  | _, _, _, .cons i r, .cons p q => by
    obtain ⟨T, q', u, e, i', rfl⟩ := hF _ _ p
    cases e
    rw [il_uniq i i', List.map_cons]
    exact .cons _ _ (rows_strs (L := L) hF r q)
theorem prs_of {h : Heap} {f : List Nat → Int × Int} {G : Value → Array Value → Prop} (hG : ∀ x t its, G (.str (mkS x) t) its → ∃ a b, its = #[.int (f x).1 a, .int (f x).2 b]) : ∀ {vs ys : List Value} {xs : List (List Nat)},
    StrsV vs xs → Paired (fun v y => ∃ T its, y = .ref T ∧ h.IsList T its ∧ G v its) vs ys → Prs h ys (xs.map f)
  | _, _, _, .nil, .nil => .nil
  | _, _, _, .cons x t r, .cons p q => by
    obtain ⟨T, its, rfl, hT, g⟩ := p
    obtain ⟨a, b, rfl⟩ := hG _ _ _ g
    exact .cons ⟨a, b, hT⟩ (prs_of hG r q)

theorem IL.ext {h h' : Heap} {L l : Addr} {xs : List Int} {m : Str → Option Value} (x : IL h l xs) (n : h.Ns L m) (s : Heap.ExtBut L h h') : IL h' l xs := by
  obtain ⟨vs, k, e, hv⟩ := x
  exact ⟨vs, k, s _ _ (isL_ne_ns n e) e, hv⟩
theorem SI.ext {h h' : Heap} {L l : Addr} {xs : List (List Nat)} {m : Str → Option Value} (x : SI h l xs) (n : h.Ns L m) (s : Heap.ExtBut L h h') : SI h' l xs := by
  obtain ⟨vs, ⟨o, ho, hc⟩, hv⟩ := x
  refine ⟨vs, ⟨o, s _ _ ?_ ho, hc⟩, hv⟩
  rintro rfl
  obtain ⟨o', es, ep, ho', hd', _⟩ := n
  rw [ho] at ho'; cases ho'
  obtain ⟨_, nn, hd⟩ := hc
  rw [hd] at hd'; cases hd'
theorem CellAt.ext {h h' : Heap} {c L : Addr} {v : Value} (x : CellAt h c v) (s : Heap.ExtBut L h h') (hn : c ≠ L) : CellAt h' c v := let ⟨o, a, b⟩ := x; ⟨o, s _ _ hn a, b⟩
theorem kp_ext {h h1 h2 : Heap} {L : Addr} (k : Kp h h1) (hL : h.get? L = none) (s : Heap.ExtBut L h1 h2) : Kp h h2 := fun b o e => s b o (by rintro rfl; rw [hL] at e; cases e) (k b o e)
theorem LS.setx {h : Heap} {l S Nn : Addr} {m : Str → Option Value} {hc hd : Heap} {y : Str} {v : Value} (x : LS h l S Nn m hc) (n : hd.Ns h.objs.size (fun z => if z = y then some v else m z)) (s : Heap.ExtBut h.objs.size hc hd)
    (h1 : (Str.ofString "script") ≠ y) : LS h l S Nn (fun z => if z = y then some v else m z) hd :=
  ⟨kp_ext x.kp (get_none_of_le (Nat.le_refl _)) s, n, by rw [if_neg h1]; exact x.script, x.cS.ext s (by show h.objs.size + 1 ≠ h.objs.size; lia), x.cN.ext s (by show h.objs.size + 2 ≠ h.objs.size; lia), x.hS.ext x.ns s, x.hN.ext x.ns s, x.cT.imp fun _ c => by
    obtain ⟨o, a, b⟩ := c
    exact ⟨o, s _ _ (by show h.objs.size + 3 ≠ h.objs.size; lia) a, b⟩⟩

section
variable {prog : Program} {w : World} {A : Around} {s0 : Shared} {h : Heap} {env : Env}
theorem rv_nei {a b : Int} {t u : Tok} {P : Value → Heap → Prop} (p : P (.bool (a != b)) h) : Run prog w A s0 (compareOp .NotEq (.int a t) (.int b u)) h P := fun _ => PySem.P.ne_int ⟨_, _, rfl, p⟩
theorem rb_lenS {l : Addr} {items : Array Value} {P : Value → Heap → Prop} (hl : h.IsList l items) (hfit : items.size ≤ 2 ^ 20) (p : ∀ t, P (.int items.size t) h) : Run prog w A s0 (call (.builtin "len") [.ref l]) h P := fun tk =>
  PyProof.Rows.len_list hl (by lia) ⟨_, _, rfl, p _⟩
theorem ts_or2 {e1 e2 : PySem.Expr} {pos : Pos} {whole : Sem Value} {P : Bool → Heap → Prop}
    (x : Run prog w A s0 (isTrue e1 env (eval e1 env)) h fun b h1 => b = false ∧ Run prog w A s0 (isTrue e2 env (eval e2 env)) h1 fun b h2 => b = false ∧ P false h2) :
    Run prog w A s0 (isTrue (.BoolOp .Or [e1, e2] pos) env whole) h P := fun tk => by
  refine isTrue_or (x.use tk fun b h1 t1 q => ?_)
  obtain ⟨rfl, q⟩ := q
  refine isTrue_or (whole := whole) (q.use t1 fun b h2 t2 q => ?_)
  obtain ⟨rfl, q⟩ := q
  exact isTrue_or_nil ⟨_, _, rfl, q⟩
theorem rv_nenil {D D2 : Addr} {n n2 : Nat} {P : Value → Heap → Prop} {k : Nat} (R : Room A (k + 1)) (h1 : IsL h D #[] n) (h2 : IsL h D2 #[] n2) (p : P (.bool false) h) : Run prog w A s0 (compareOp .NotEq (.ref D) (.ref D2)) h P :=
  rv_ne (da := .list []) (db := .list []) (.list h1 rfl rfl .nil) (.list h2 rfl rfl .nil) rfl rfl (by have := R.un; show A.units + min 1 1 < 9900; lia) p
end
end
end Mine

namespace Mine
noncomputable section
open PySem PySem.W PySem.Calls PyProof.Rows
set_option linter.unusedVariables false
theorem first_of : ∀ {l : List Int} {a : Int}, a ∈ l → ∃ k, k < l.length ∧ isFst l k = true ∧ l.getD k 0 = a
  | b :: t, a, h => by
    by_cases hb : b = a
    · subst hb; exact ⟨0, by simp, by simp [isFst], by simp⟩
    · have ha : a ∈ t := by
        rcases List.mem_cons.mp h with e | h
        · exact absurd e.symm hb
        · exact h
      obtain ⟨k, h1, h2, h3⟩ := first_of ha
      refine ⟨k + 1, by simp; lia, ?_, by simpa using h3⟩
      unfold isFst at h2 ⊢
      rw [List.take_succ_cons, List.any_cons, show (b :: t).getD (k + 1) 0 = t.getD k 0 by simp, h3] 
      rw [h3] at h2
      simp only [Bool.not_eq_true', Bool.or_eq_false_iff]
      exact ⟨by simpa using hb, by simpa using h2⟩
theorem del_perm {l : List Int} {k : Nat} (h : k < l.length) : l.Perm (l.getD k 0 :: del l k) := by
  have e : l.take k ++ l.getD k 0 :: l.drop (k + 1) = l := by
    have : l.getD k 0 = l[k] := by simp [h]
    rw [this, List.getElem_cons_drop, List.take_append_drop]
  conv => lhs; rw [← e]
  exact List.perm_middle
theorem part_mem {l : List Int} {i k : Nat} {r : List Int} (hk : k < i) (hf : isFst l k = true) (hr : r ∈ rows (del l k)) : l.getD k 0 :: r ∈ part l i := by
  unfold part
  refine List.mem_flatMap.mpr ⟨k, ?_, List.mem_map.mpr ⟨r, hr, rfl⟩⟩
  rw [List.mem_filter, List.mem_range]; exact ⟨hk, hf⟩

theorem mem_rows : ∀ (N : Nat) (l : List Int), l.length = N → ∀ q, q ∈ rows l ↔ ∀ x, q.count x ≤ l.count x := by
  intro N
  induction N using Nat.strongRecOn with
  | _ N ih =>
    intro l hl q
    rw [rows_eq]
    constructor
    · intro h x
      rcases List.mem_cons.mp h with rfl | h
      · simp
      · obtain ⟨k, r, hk, hf, hr, rfl⟩ := mem_part h
        have := (ih (l.length - 1) (by lia) (del l k) (del_length hk) r).mp hr x
        rw [(del_perm hk).count_eq x, List.count_cons, List.count_cons]
        lia
    · intro h
      cases q with
      | nil => exact List.mem_cons_self
      | cons a r =>
        have ha : a ∈ l := by
          have := h a
          rw [List.count_cons_self] at this
          exact List.count_pos_iff.mp (by lia)
        obtain ⟨k, hk, hf, rfl⟩ := first_of ha
        refine List.mem_cons_of_mem _ (part_mem hk hf ?_)
        refine (ih (l.length - 1) (by lia) (del l k) (del_length hk) r).mpr fun x => ?_
        have := h x
        rw [(del_perm hk).count_eq x, List.count_cons, List.count_cons] at this
        lia
theorem rows_mem_sub : ∀ (N : Nat) (l : List Int), l.length = N → ∀ r ∈ rows l, ∀ x ∈ r, x ∈ l := by
  intro N l hl r hr x hx
  have := (mem_rows N l hl r).mp hr x
  have h2 := List.count_pos_iff.mpr hx
  exact List.count_pos_iff.mp (by lia)

theorem fst_ne {l : List Int} {i j : Nat} (hij : i < j) (hj : j < l.length) (hf : isFst l j = true) : l.getD i 0 ≠ l.getD j 0 := (isFst_iff l j).mp hf i hij (by lia)

/-- what holds of two rows, the one ahead of the other -/
theorem rows_pw (R : List Int → List Int → Prop) (D : List Int → Prop) (hdel : ∀ l k, k < l.length → D l → D (del l k)) (h0 : ∀ a r, R [] (a :: r)) (h1 : ∀ a r r', R r r' → R (a :: r) (a :: r'))
    (h2 : ∀ l, D l → ∀ i j, i < j → j < l.length → l.getD i 0 ≠ l.getD j 0 → ∀ r r', R (l.getD i 0 :: r) (l.getD j 0 :: r')) : ∀ (N : Nat) (l : List Int), l.length = N → D l → (rows l).Pairwise R := by
  intro N
  induction N using Nat.strongRecOn with
  | _ N ih =>
    intro l hl hD
    have hp : ∀ i, i ≤ l.length → (part l i).Pairwise R := by
      intro i
      induction i with
      | zero => intro _; exact .nil
      | succ i ihi =>
        intro hi
        rw [part_succ, List.pairwise_append]
        refine ⟨ihi (by lia), ?_, ?_⟩
        · split
          · rw [List.pairwise_map]
            exact (ih (l.length - 1) (by lia) (del l i) (del_length (by lia)) (hdel l i (by lia) hD)).imp fun {a b} h => h1 _ _ _ h
          · exact .nil
        · intro x hx y hy
          split at hy
          · rename_i hf
            obtain ⟨k, r, hk, hfk, hr, rfl⟩ := mem_part hx
            obtain ⟨r', hr', rfl⟩ := List.mem_map.mp hy
            exact h2 l hD k i hk (by lia) (fst_ne hk (by lia) hf) r r'
          · cases hy
    rw [rows_eq, List.pairwise_cons]
    refine ⟨fun x hx => ?_, hp _ (Nat.le_refl _)⟩
    obtain ⟨k, r, _, _, _, rfl⟩ := mem_part hx
    exact h0 _ _
theorem rows_nodup (l : List Int) : (rows l).Nodup :=
  rows_pw (· ≠ ·) (fun _ => True) (fun _ _ _ _ => trivial) (fun _ _ => by simp) (fun a r r' h q => h (List.cons.inj q).2) (fun l _ i j hij hj hne r r' q => hne (List.cons.inj q).1) _ l rfl trivial
theorem rows_perm {l l' : List Int} (h : l.Perm l') : (rows l).Perm (rows l') := by
  rw [List.perm_iff_count]
  intro q
  rw [(rows_nodup l).count, (rows_nodup l').count]
  have : q ∈ rows l ↔ q ∈ rows l' := by
    rw [mem_rows _ l rfl, mem_rows _ l' rfl]
    constructor
    · intro hq x; rw [← h.count_eq x]; exact hq x
    · intro hq x; rw [h.count_eq x]; exact hq x
  by_cases hq : q ∈ rows l
  · rw [if_pos hq, if_pos (this.mp hq)]
  · rw [if_neg hq, if_neg (fun q' => hq (this.mpr q'))]

/-! lengths -/
theorem del_sub {l : List Int} {k : Nat} (h : k < l.length) : (del l k).Sublist l := by
  unfold del
  have e := List.take_append_drop k l
  conv => rhs; rw [← e]
  refine List.Sublist.append (List.Sublist.refl _) ?_
  rw [← List.drop_drop]
  exact List.drop_sublist _ _
theorem fst_all {l : List Int} (h : l.Nodup) {k : Nat} (hk : k < l.length) : isFst l k = true := by
  rw [isFst_iff]
  intro j hjk hj q
  have := List.pairwise_iff_getElem.mp h j k hj hk hjk
  simp [hj, hk] at q
  exact this q
theorem rows_len_nd : ∀ (N : Nat) (l : List Int), l.length = N → l.Nodup → (rows l).length = rbound N := by
  intro N
  induction N with
  | zero =>
    intro l hl _
    rw [rows_eq, List.length_cons, hl, part_zero]; rfl
  | succ N ih =>
    intro l hl hn
    have hp : ∀ i, i ≤ l.length → (part l i).length = i * rbound N := by
      intro i
      induction i with
      | zero => intro _; simp [part]
      | succ i ihi =>
        intro hi
        rw [part_succ, List.length_append, ihi (by lia), if_pos (fst_all hn (by lia)), List.length_map, ih _ (by rw [del_length (by lia), hl]; rfl) (hn.sublist (del_sub (by lia))), Nat.succ_mul]
    rw [rows_eq, List.length_cons, hp _ (Nat.le_refl _), hl, rbound]; lia
theorem rows_sz {l : List Int} (h : l.length ≤ 4) : (rows l).length < 64 ∨ (rows l).length = 65 := by
  by_cases h3 : l.length ≤ 3
  · have := rows_len _ l rfl
    have hb : ∀ n, n ≤ 3 → rbound n < 64 := by decide
    have := hb _ h3
    exact .inl (by lia)
  have h4 : l.length = 4 := by lia
  by_cases hn : l.Nodup
  · exact .inr (by rw [rows_len_nd 4 l h4 hn]; rfl)
  · refine .inl ?_
    have ht : ∀ i, i < 4 → (if isFst l i then (rows (del l i)).map (l.getD i 0 :: ·) else []).length ≤ if isFst l i then 16 else 0 := by
      intro i hi
      split
      · rw [List.length_map]
        have := rows_len 3 (del l i) (by rw [del_length (by lia), h4])
        exact this
      · exact Nat.le_refl _
    have hbad : ¬ (isFst l 0 = true ∧ isFst l 1 = true ∧ isFst l 2 = true ∧ isFst l 3 = true) := by
      rintro ⟨a, b, c, d⟩
      refine hn (List.pairwise_iff_getElem.mpr fun i j hi hj hij q => ?_)
      have hf : isFst l j = true := by
        have : j = 0 ∨ j = 1 ∨ j = 2 ∨ j = 3 := by lia
        rcases this with rfl | rfl | rfl | rfl <;> assumption
      refine fst_ne hij hj hf ?_
      simp [hi, hj, q]
    have e : (part l 4).length ≤ (if isFst l 0 then 16 else 0) + (if isFst l 1 then 16 else 0) + (if isFst l 2 then 16 else 0) + (if isFst l 3 then 16 else 0) := by
      have t0 := ht 0 (by lia)
      have t1 := ht 1 (by lia)
      have t2 := ht 2 (by lia)
      have t3 := ht 3 (by lia)
      rw [part_succ, part_succ, part_succ, part_succ, part_zero]
      simp only [List.length_append, List.length_nil]
      lia
    rw [rows_eq, List.length_cons, h4]
    cases h0 : isFst l 0 <;> cases h1 : isFst l 1 <;> cases h2 : isFst l 2 <;> cases h3' : isFst l 3 <;>
      first
        | (simp only [h0, h1, h2, h3', if_true, if_false, Bool.false_eq_true] at e; lia)
        | (exfalso; exact hbad (And.intro h0 (And.intro h1 (And.intro h2 h3'))))
end
end Mine

namespace Mine
noncomputable section
open PySem PySem.W PySem.Calls PyProof.Rows
set_option linter.unusedVariables false
/-- x stands below y at a place that both have -/
noncomputable def sl : List Nat → List Nat → Bool
  | x :: xs, y :: ys => decide (x < y) || (decide (x = y) && sl xs ys)
  | _, _ => false
theorem sl_lt : ∀ {x y : List Nat}, sl x y = true → ∀ X Y, x ++ X < y ++ Y
  | x :: xs, y :: ys, h, X, Y => by
    unfold sl at h
    rw [List.cons_append, List.cons_append, List.cons_lt_cons_iff]
    simp only [Bool.or_eq_true, Bool.and_eq_true, decide_eq_true_eq] at h
    rcases h with h | ⟨h, h2⟩
    · exact .inl h
    · exact .inr ⟨h, sl_lt h2 X Y⟩
  | [], _, h, _, _ => by simp [sl] at h
  | _ :: _, [], h, _, _ => by simp [sl] at h
theorem sg_sl : ∀ a, a < 29 → ∀ b, b < 29 → a < b → sl (sg a) (sg b) = true := by decide +kernel

/-- the text of a row -/
noncomputable def ft (q : List Int) : List Nat := txt (tn q)
theorem ft_cons (a : Int) (r : List Int) : ft (a :: r) = sg a.toNat ++ ft r := rfl
theorem ft_asc {l : List Int} (hb : ∀ x ∈ l, 0 ≤ x ∧ x < 29) (hs : l.Pairwise (· ≤ ·)) : ((rows l).map ft).Pairwise (· < ·) := by
  have hsub : ∀ l : List Int, ∀ k, k < l.length → ((∀ x ∈ l, 0 ≤ x ∧ x < 29) ∧ l.Pairwise (· ≤ ·)) → ((∀ x ∈ del l k, 0 ≤ x ∧ x < 29) ∧ (del l k).Pairwise (· ≤ ·)) :=
    fun l k hk h => ⟨fun x hx => h.1 x ((del_sub hk).subset hx), h.2.sublist (del_sub hk)⟩
  rw [List.pairwise_map]
  refine (rows_pw (fun q q' => (∀ x ∈ q, 0 ≤ x ∧ x < 29) → (∀ x ∈ q', 0 ≤ x ∧ x < 29) → ft q < ft q') (fun l => (∀ x ∈ l, 0 ≤ x ∧ x < 29) ∧ l.Pairwise (· ≤ ·)) hsub ?_ ?_ ?_ _ l rfl ⟨hb, hs⟩).imp_of_mem ?_
  · intro a r _ h
    have ha := h a List.mem_cons_self
    rw [ft_cons]
    have := (sg_len a.toNat (by lia)).1
    match hsg : sg a.toNat with
    | [] => rw [hsg] at this; simp at this
    | c :: cs => exact List.nil_lt_cons _ _
  · intro a r r' h h1 h2
    rw [ft_cons, ft_cons]
    exact List.append_left_lt (h (fun x hx => h1 x (List.mem_cons_of_mem _ hx)) fun x hx => h2 x (List.mem_cons_of_mem _ hx))
  · intro l hD i j hij hj hne r r' h1 h2
    have a1 := h1 _ List.mem_cons_self
    have a2 := h2 _ List.mem_cons_self
    have hle := getD_le hD.2 (Nat.le_of_lt hij) hj
    rw [ft_cons, ft_cons]
    exact sl_lt (sg_sl _ (by lia) _ (by lia) (by lia)) _ _
  · intro q q' hq hq' h
    exact h (fun x hx => hb x (rows_mem_sub _ l rfl q hq x hx)) (fun x hx => hb x (rows_mem_sub _ l rfl q' hq' x hx))

theorem coll_lt {x y : List Nat} (h : x < y) : (coll x y, coll y x) = (-1, 1) := by
  have : ¬ y < x := List.lt_asymm h
  simp [coll, h, this, b2i]
theorem coll_eq (x : List Nat) : (coll x x, coll x x) = (0, 0) := by
  simp [coll]
theorem coll_gt {x y : List Nat} (h : y < x) : (coll x y, coll y x) = (1, -1) := by
  have : ¬ x < y := List.lt_asymm h
  simp [coll, h, this, b2i]

theorem count_map_const {α : Type} {f : α → Int × Int} {c d : Int × Int} : ∀ {l : List α}, (∀ x ∈ l, f x = c) → (l.map f).count d = if c = d then l.length else 0
  | [], _ => by simp
  | x :: l, h => by
    rw [List.map_cons, List.count_cons, h x List.mem_cons_self, count_map_const fun y hy => h y (List.mem_cons_of_mem _ hy)]
    by_cases q : c = d <;> simp [q]

theorem counts {S : List (List Nat)} {k : Nat} {tx : List Nat} (hS : S.Pairwise (· < ·)) (hk : S[k]? = some tx) :
    (S.map fun x => (coll x tx, coll tx x)).count (-1, 1) = k ∧ (S.map fun x => (coll x tx, coll tx x)).count (0, 0) = 1 ∧ (S.map fun x => (coll x tx, coll tx x)).count (1, -1) + k + 1 = S.length := by
  obtain ⟨hlt, e⟩ := List.getElem?_eq_some_iff.mp hk
  have hsp : S = S.take k ++ tx :: S.drop (k + 1) := by rw [← e, List.getElem_cons_drop, List.take_append_drop]
  have hA : ∀ x ∈ S.take k, (coll x tx, coll tx x) = (-1, 1) := fun x hx => by
    rw [hsp, List.pairwise_append] at hS
    exact coll_lt (hS.2.2 x hx tx List.mem_cons_self)
  have hB : ∀ x ∈ S.drop (k + 1), (coll x tx, coll tx x) = (1, -1) := fun x hx => by
    rw [hsp, List.pairwise_append] at hS
    exact coll_gt ((List.pairwise_cons.mp hS.2.1).1 x hx)
  have hla : (S.take k).length = k := by rw [List.length_take]; lia
  have hlb : (S.drop (k + 1)).length = S.length - (k + 1) := List.length_drop
  have cnt : ∀ d : Int × Int, (S.map fun x => (coll x tx, coll tx x)).count d = (if ((-1, 1) : Int × Int) = d then k else 0) + ((if ((1, -1) : Int × Int) = d then S.length - (k + 1) else 0) + if ((0, 0) : Int × Int) = d then 1 else 0) := fun d => by
    conv => lhs; rw [hsp]
    rw [List.map_append, List.map_cons, List.count_append, List.count_cons, count_map_const hA, count_map_const hB, coll_eq, hla, hlb]
    congr 2
    by_cases q : ((0, 0) : Int × Int) = d <;> simp [q]
  rw [cnt, cnt, cnt]
  refine ⟨by simp, by simp, ?_⟩
  simp
  lia

theorem plain_facts {d srt : List Int} {k : Nat} {r : List Int} (hd : ∀ x ∈ d, 0 ≤ x ∧ x < 29) (hl : d.length ≤ 4) (hp : srt.Perm d) (hs : srt.Pairwise (· ≤ ·)) (hr : (rows srt)[k]? = some r) :
    (((rows d).map fun q => txt (tn q)).map fun x => (coll x (txt (tn r)), coll (txt (tn r)) x)).count (-1, 1) = k ∧
    (((rows d).map fun q => txt (tn q)).map fun x => (coll x (txt (tn r)), coll (txt (tn r)) x)).count (0, 0) = 1 ∧
    (((rows d).map fun q => txt (tn q)).map fun x => (coll x (txt (tn r)), coll (txt (tn r)) x)).count (1, -1) + k + 1 = (rows d).length ∧
    ((rows d).map fun q => txt (tn q)).Nodup ∧ ((rows d).length < 64 ∨ (rows d).length = 65) ∧
    ∀ (ys : List (List Nat)) (x : List Nat), ys.Perm ((rows d).map fun q => txt (tn q)) → ys.Pairwise (fun a b => ¬ b < a) → ys[k]? = some x → x = txt (tn r) := by
  have hb : ∀ x ∈ srt, 0 ≤ x ∧ x < 29 := fun x hx => hd x (hp.mem_iff.mp hx)
  have hS := ft_asc hb hs
  have hk : ((rows srt).map ft)[k]? = some (ft r) := by rw [List.getElem?_map, hr]; rfl
  have hperm : ((rows srt).map ft).Perm ((rows d).map ft) := (rows_perm hp).map ft
  obtain ⟨c1, c2, c3⟩ := counts hS hk
  have hpc : ∀ c, (((rows d).map ft).map fun x => (coll x (ft r), coll (ft r) x)).count c = (((rows srt).map ft).map fun x => (coll x (ft r), coll (ft r) x)).count c := fun c => ((hperm.map _).count_eq c).symm
  have hlen : ((rows srt).map ft).length = (rows d).length := by rw [List.length_map]; exact (rows_perm hp).length_eq
  refine ⟨(hpc _).trans c1, (hpc _).trans c2, ?_, ?_, rows_sz hl, ?_⟩
  · have := hpc (1, -1)
    have e : (((rows d).map fun q => txt (tn q)).map fun x => (coll x (txt (tn r)), coll (txt (tn r)) x)).count (1, -1) = (((rows srt).map ft).map fun x => (coll x (ft r), coll (ft r) x)).count (1, -1) := this
    rw [e]; lia
  · have hn : ((rows srt).map ft).Nodup := hS.imp fun {a b} h => by rintro rfl; exact List.lt_irrefl _ h
    exact hperm.nodup_iff.mp hn
  · intro ys x h1 h2 h3
    have : ys = (rows srt).map ft := List.Perm.eq_of_pairwise (le := fun a b : List Nat => ¬ b < a) (fun a b _ _ h h' => List.le_antisymm (List.not_lt.mp h) (List.not_lt.mp h')) h2 (hS.imp fun {a b} h => List.lt_asymm h) (h1.trans hperm.symm)
    rw [this, hk] at h3
    exact (Option.some.inj h3).symm
end
end Mine

namespace Mine
noncomputable section
open PySem PySem.W PySem.Calls PyProof.Rows
set_option maxRecDepth 100000
set_option linter.unusedVariables false
section
variable {prog : Program} {w : World} {mg mb : Str → Option Value}

set_option maxHeartbeats 4000000 in
theorem law_ok (ns : List Int) (hn : ns.length ≤ 63) (A : Around) (s0 : Shared) (h : Heap) (l : Addr) (B : Bs w mg mb h) (R : Room A 40) (hl : ∃ vs, h.IsList l vs.toArray ∧ IntsAre vs ns) :
    Run prog w A s0 (call (.ref 74) [.ref l]) h fun v h' => v = .bool true ∧ Kp h h' := by
  refine run_cells R (B.k 74 _ rfl) rfl B.nolimit (codeRec_of B.k (by rfl)) rfl (binds := [("script", .ref l)]) rfl rfl ?_ ?_
  · intro x hx
    rw [List.mem_singleton.mp hx]
    exact .inl rfl
  intro h1 k1 n1 c1
  have cS := (c1 "signs" (h.objs.size + 1) rfl).1
  have cN := (c1 "numbers" (h.objs.size + 2) rfl).1
  have cT := (c1 "text" (h.objs.size + 3) rfl).1
  have B1 := B.kp k1
  have hL0 : h.get? h.objs.size = none := get_none_of_le (Nat.le_refl _)
  have hC1 : h.get? (h.objs.size + 1) = none := get_none_of_le (by lia)
  have hC2 : h.get? (h.objs.size + 2) = none := get_none_of_le (by lia)
  have hC3 : h.get? (h.objs.size + 3) = none := get_none_of_le (by lia)
  refine st_cons (st_assignC (c := h.objs.size + 1) (ev_call0 (has_global B1 rfl rfl rfl rfl) ⟨_, _, B1.k 38 _ rfl, rfl⟩ ?_) rfl rfl rfl)
  refine (signs_ok _ s0 h1 B1 ((R.le (by lia) : Room A (2 + 1)).deeper _)).mono fun v h2 q => ?_
  obtain ⟨⟨S, rfl, hS⟩, k2⟩ := q
  refine ⟨⟨_, Heap.IsCell.keeps cS k2⟩, fun h3 cS3 s3 => ?_⟩
  have kh3 : Kp h h3 := kp_same (k1.trans k2) hC1 s3
  have n3 := (ns_kp n1 k2).sameBut s3 (by show h.objs.size ≠ h.objs.size + 1; lia)
  have cN3 := (Heap.IsCell.keeps cN k2).sameBut s3 (by show h.objs.size + 2 ≠ h.objs.size + 1; lia)
  have cT3 := (Heap.IsCell.keeps cT k2).sameBut s3 (by show h.objs.size + 3 ≠ h.objs.size + 1; lia)
  have hS3 : SI h3 S sgs := hS.sameC (Heap.IsCell.keeps cS k2) s3
  have B3 := B.kp kh3
  refine st_cons (st_assignC (c := h.objs.size + 2) (ev_call0 (has_global B3 rfl rfl rfl rfl) ⟨_, _, B3.k 45 _ rfl, rfl⟩ ?_) rfl rfl rfl)
  refine (numbers_ok _ s0 h3 B3 ((R.le (by lia) : Room A (2 + 1)).deeper _)).mono fun v h4 q => ?_
  obtain ⟨⟨Nn, rfl, hNn0, hNn⟩, k4⟩ := q
  refine ⟨⟨_, Heap.IsCell.keeps cN3 k4⟩, fun h5 cN5 s5 => ?_⟩
  have cT5 := (Heap.IsCell.keeps cT3 k4).sameBut s5 (by show h.objs.size + 3 ≠ h.objs.size + 2; lia)
  have X5 : LS h l S Nn _ h5 := ⟨kp_same (kh3.trans k4) hC2 s5, (ns_kp n3 k4).sameBut s5 (by show h.objs.size ≠ h.objs.size + 2; lia), rfl, (cS3.kp k4).same s5 (by show h.objs.size + 1 ≠ h.objs.size + 2; lia), cN5,
    (hS3.kp k4).sameC (Heap.IsCell.keeps cN3 k4) s5, hNn.sameC (Heap.IsCell.keeps cN3 k4) s5, _, cT5⟩
  have B5 := B.kp X5.kp
  have hl5 : ∃ vs, h5.IsList l vs.toArray ∧ IntsAre vs ns := let ⟨vs, ⟨o, a, b⟩, c⟩ := hl; ⟨vs, ⟨o, X5.kp _ _ a, b⟩, c⟩
  refine st_cons (st_assign (ev_Subscript (ev_BinOp (ev_mods R.hd rfl (has_local X5.ns X5.script rfl rfl rfl) hl5 hn (by decide) (by decide) (by decide) rfl (by decide) rfl fun D1 h6 k6 hD1 => ?_))) rfl rfl)
  have X6 := X5.kpp k6
  have B6 := B.kp X6.kp
  refine ev_list2 (ev_int fun t1 => ev_int fun t2 => rb_newList (by simp) fun D2 h7 k7 _ hD2 => ?_)
  have hD2' : IL h7 D2 [28, 11] := ⟨_, _, hD2, .cons _ _ (.cons _ _ .nil)⟩
  have hlm : ((ns.take (4 : Int).toNat).map fun x => Int.fmod x 29).length ≤ 4 := by rw [List.length_map, List.length_take]; have : (4 : Int).toNat = 4 := rfl; lia
  refine rl_add (hD1.kp k7) hD2' (by simp only [List.length_cons, List.length_nil]; lia) fun D3 h8 k8 _ hD3 => ?_
  have X8 := (X6.kpp k7).kpp k8
  have B8 := B.kp X8.kp
  have hl8 : ∃ vs, h8.IsList l vs.toArray ∧ IntsAre vs ns := let ⟨vs, ⟨o, a, b⟩, c⟩ := hl; ⟨vs, ⟨o, X8.kp _ _ a, b⟩, c⟩
  refine ev_Slice (ev_part_none (ev_part_some ?_))
  refine ev_callB2 (has_builtin B8 rfl rfl (by decide) rfl rfl rfl rfl) (ev_int fun t3 => ?_)
  refine ev_callB2 (has_builtin B8 rfl rfl (by decide) rfl rfl rfl rfl) (ev_int fun t4 => ?_)
  refine ev_callB1 (has_builtin B8 rfl rfl (by decide) rfl rfl rfl rfl) (ev_Name (has_local X8.ns X8.script rfl rfl rfl) ?_)
  refine rb_len hl8 (by lia) fun t5 => ?_
  refine rb_min R.hd fun t6 h9 k9 => rb_max R.hd fun t7 h10 k10 => ev_part_none ?_
  have X10 := (X8.kpp k9).kpp k10
  obtain ⟨vs3, n3', hL3, hi3⟩ := (hD3.kp k9).kp k10
  have hlen3 := hi3.length
  rw [List.length_append] at hlen3
  refine rl_slice hL3.isList .none (.int _ _) (by rw [List.size_toArray, sizeLine_eq]; simp only [List.length_cons, List.length_nil] at hlen3; lia) ?_ (by with_unfolding_all rfl)
  have kS := (Kp.push h10 { cls := .type "slice", data := .fields #[.none, .int (max 2 (min 4 (ns.length : Int))) t7, .none] }).trans (Kp.push _ { cls := .type "list", data := .seq (slicePick vs3.toArray none (some (max 2 (min 4 (ns.length : Int)))) none) })
  obtain ⟨nd, hnd⟩ := Int.eq_ofNat_of_zero_le (show (0 : Int) ≤ max 2 (min 4 (ns.length : Int)) by lia)
  have hdr : IL ((h10.push { cls := .type "slice", data := .fields #[.none, .int (max 2 (min 4 (ns.length : Int))) t7, .none] }).push { cls := .type "list", data := .seq (slicePick vs3.toArray none (some (max 2 (min 4 (ns.length : Int)))) none) }) (h10.push { cls := .type "slice", data := .fields #[.none, .int (max 2 (min 4 (ns.length : Int))) t7, .none] }).objs.size (dr ns) := by
    refine il_push (vs := vs3.take (max 2 (min 4 (ns.length : Int))).toNat) ?_ (ints_take hi3 _)
    rw [hnd]
    simpa using slicePick_upto' vs3.toArray nd
  generalize (h10.push { cls := .type "slice", data := .fields #[.none, .int (max 2 (min 4 (ns.length : Int))) t7, .none] }).objs.size = dw at *
  generalize (h10.push { cls := .type "slice", data := .fields #[.none, .int (max 2 (min 4 (ns.length : Int))) t7, .none] }).push { cls := .type "list", data := .seq (slicePick vs3.toArray none (some (max 2 (min 4 (ns.length : Int)))) none) } = h11 at *
  have X11 := X10.kpp kS
  refine ⟨_, X11.ns, fun h12 n12 s12 => ?_⟩
  have X12 := X11.set n12 s12 (by decide)
  have hdr12 := hdr.same X11.ns s12
  have hdl : (dr ns).length ≤ 4 := by unfold dr; rw [List.length_take]; lia
  have B12 := B.kp X12.kp
  have hl12 : ∃ vs, h12.IsList l vs.toArray ∧ IntsAre vs ns := let ⟨vs, ⟨o, a, b⟩, c⟩ := hl; ⟨vs, ⟨o, X12.kp _ _ a, b⟩, c⟩
  have hcnt := rows_cnt _ (dr ns) rfl
  have hcnt1 : 1 ≤ cnt (dr ns) := by rw [hcnt, rows_eq, List.length_cons]; lia
  refine st_cons (st_assign (ev_BinOp (ev_callB1 (has_builtin B12 rfl rfl (by decide) rfl rfl rfl rfl) (ev_mods R.hd rfl (has_local X12.ns X12.script rfl rfl rfl) hl12 hn (by decide) (by decide) (by decide) rfl (by decide) rfl fun D4 h13 k13 hD4 => ?_))) rfl rfl)
  refine rb_sum R.hd hD4.lst fun t8 h14 k14 => ?_
  have X14 := (X12.kpp k13).kpp k14
  have B14 := B.kp X14.kp
  have hdr14 := (hdr12.kp k13).kp k14
  refine ev_call1 (has_global B14 rfl rfl rfl rfl) ⟨_, _, B14.k 57 _ rfl, rfl⟩ (ev_Name (has_local X14.ns rfl rfl rfl rfl) ⟨Kp.refl _, ?_⟩)
  refine (count_ok _ (dr ns) rfl (by lia) _ s0 h14 dw B14 ((R.le (by lia) : Room A ((dr ns).length + 2 + 1)).deeper _) hdr14).mono fun v h15 q => ?_
  obtain ⟨⟨t9, rfl⟩, k15⟩ := q
  have X15 := X14.kpp k15
  refine rv_mod (by lia) fun t10 => ⟨_, X15.ns, fun h16 n16 s16 => ?_⟩
  have X16 := X15.set n16 s16 (by decide)
  have hdr16 := (hdr14.kp k15).same X15.ns s16
  have hpl0 : 0 ≤ pl ns := Int.fmod_nonneg_of_pos _ (by lia)
  have hpl1 : pl ns < cnt (dr ns) := Int.fmod_lt_of_pos _ (by lia)
  have B16 := B.kp X16.kp
  refine st_cons (st_assign (ev_call2 (has_global B16 rfl rfl rfl rfl) ⟨_, _, B16.k 64 _ rfl, rfl⟩ (ev_Name (has_local X16.ns rfl rfl rfl rfl) (ev_Name (has_local X16.ns rfl rfl rfl rfl) ⟨Kp.refl _, ?_⟩))) rfl rfl)
  refine (told_ok (dr ns) (by lia) _ s0 h16 dw (pl ns) t10 B16 ((R.le (by lia) : Room A (20 + 1)).deeper _) hdr16 hpl0 fun srt hp _ => ?_).mono fun v h17 q => ?_
  · rw [(rows_perm hp).length_eq, ← hcnt]; exact hpl1
  obtain ⟨srt, Rw, ri', rfl, hperm, hsort, hRw, hri, k17⟩ := q
  have X17 := X16.kpp k17
  refine ⟨_, X17.ns, fun h18 n18 s18 => ?_⟩
  have X18 := X17.set n18 s18 (by decide)
  have hdr18 := (hdr16.kp k17).same X17.ns s18
  have hRw18 := hRw.same X17.ns s18
  have hrb : ∀ q ∈ rows (dr ns), ∀ x ∈ q, 0 ≤ x ∧ x < 29 := fun q hq x hx => dr_bound ns x (rows_mem_sub _ (dr ns) rfl q hq x hx)
  have hrin : ri' ∈ rows (dr ns) := (rows_perm hperm).mem_iff.mp (List.mem_of_getElem? hri)
  have hrl : ri'.length ≤ 4 := Nat.le_trans (rows_mem_len _ (dr ns) rfl ri' hrin) hdl
  have htn : ∀ q ∈ rows (dr ns), ∀ k ∈ tn q, k < 29 := fun q hq k hk => by
    obtain ⟨x, hx, rfl⟩ := List.mem_map.mp hk
    have := hrb q hq x hx
    lia
  have hRw18' : IL h18 Rw (ri (tn ri')) := by rw [ri_tn fun x hx => (hrb ri' hrin x hx).1]; exact hRw18
  have cT18 := X18.cT
  refine st_cons (st_assignC (c := h.objs.size + 3) (ev_textOf R.hd rfl (has_local X18.ns rfl rfl rfl rfl) hRw18' (htn ri' hrin) (by simp [tn]; lia) X18.cS X18.hS (fun _ => rfl) (by decide) rfl (by decide) rfl (by decide) rfl fun t11 h19 k19 => ⟨cT18.imp fun v0 c => Heap.IsCell.keeps c k19, fun h20 cT20 s20 => ?_⟩) rfl rfl rfl)
  have X19 := X18.kpp k19
  obtain ⟨v0, cT19⟩ := X19.cT
  have X20 : LS h l S Nn _ h20 := ⟨kp_same X19.kp hC3 s20, X19.ns.sameBut s20 (by show h.objs.size ≠ h.objs.size + 3; lia), X19.script, X19.cS.same s20 (by show h.objs.size + 1 ≠ h.objs.size + 3; lia), X19.cN.same s20 (by show h.objs.size + 2 ≠ h.objs.size + 3; lia), X19.hS.sameC cT19 s20, X19.hN.sameC cT19 s20, _, cT20⟩
  have hdr20 := (hdr18.kp k19).sameC cT19 s20
  have hRw20 := (hRw18'.kp k19).sameC cT19 s20
  have B20 := B.kp X20.kp
  refine st_cons (st_compL R.hd (cl := [("signs", h.objs.size + 1)]) rfl rfl rfl rfl ?_)
  refine ev_call1 (has_global B20 rfl rfl rfl rfl) ⟨_, _, B20.k 52 _ rfl, rfl⟩ (ev_Name (has_local X20.ns rfl rfl rfl rfl) ⟨Kp.refl _, ?_⟩)
  refine (rows_ok _ (dr ns) rfl (by lia) _ s0 h20 dw B20 ((R.le (by lia) : Room A ((dr ns).length + 2 + 1)).deeper _) hdr20).mono fun v h21 q => ?_
  obtain ⟨⟨Rs, rfl, _, vsR, nR, hRs, hrows⟩, k21⟩ := q
  have X21 := X20.kpp k21
  have hrowsl := hrows.length
  have hrlen : (rows (dr ns)).length ≤ 65 := by
    have := rows_len _ (dr ns) rfl
    have hb : ∀ n, n ≤ 4 → rbound n ≤ 65 := by decide
    have := hb _ hdl
    lia
  refine ⟨Rs, vsR.toArray, fun _ => true, fun v y => ∃ T q u, v = .ref T ∧ q ∈ rows (dr ns) ∧ IL h21 T q ∧ y = .str (mkS (txt (tn q))) u, _, rfl, hRs.isList, by rw [List.size_toArray, sizeLine_eq]; lia, X21.ns, ⟨?_, ?_⟩, ?_⟩
  · intro s1 C i v h3 m3 hiv k3 n3 hm hC
    exact tests_nil ⟨rfl, Kp.refl _⟩
  · intro s1 C i v h3 m3 hiv _ k3 n3 hm hC
    obtain ⟨T, q, rfl, hq, hT⟩ := hrows.at (by simpa using hiv)
    have hqm := List.mem_of_getElem? hq
    have hql : q.length ≤ 4 := Nat.le_trans (rows_mem_len _ (dr ns) rfl q hqm) hdl
    have hT3 : IL h3 T (ri (tn q)) := by rw [ri_tn fun x hx => (hrb q hqm x hx).1]; exact hT.kp k3
    refine ev_textOf R.hd rfl (has_local n3 hm rfl rfl rfl) hT3 (htn q hqm) (by simp [tn]; lia) (X21.cS.kp k3) (X21.hS.kp k3) (fun _ => rfl) (by decide) rfl (by decide) rfl (by decide) rfl fun t12 h4 k4 => ?_
    exact ⟨⟨T, q, t12, rfl, hqm, hT, rfl⟩, k4⟩
  intro Dt h22 ysT hDt hplT hpairT n22 ext22
  have X22 := X21.setx n22 ext22 (by decide)
  obtain ⟨c1, c2, c3, c4, c5, c6⟩ := plain_facts (dr_bound ns) hdl hperm hsort hri
  generalize htx : txt (tn ri') = tx at *
  have sT : StrsV ysT.toList ((rows (dr ns)).map fun q => txt (tn q)) := rows_strs (h := h21) (L := []) (F := fun v y => ∃ T q u, v = .ref T ∧ q ∈ rows (dr ns) ∧ IL h21 T q ∧ y = .str (mkS (txt (tn q))) u) (fun v y ⟨T, q, u, e1, e2, e3, e4⟩ => ⟨T, q, u, e1, e3, e4⟩) hrows (by rw [filter_all] at hpairT; simpa using hpairT)
  generalize hxs : (rows (dr ns)).map (fun q => txt (tn q)) = xs at *
  have hxl : xs.length = (rows (dr ns)).length := by rw [← hxs, List.length_map]
  have cT22 := (cT20.kp k21).ext ext22 (by show h.objs.size + 3 ≠ h.objs.size; lia)
  have hRw22 := (hRw20.kp k21).ext X21.ns ext22
  have hysl := sT.length
  rw [Array.length_toList] at hysl
  have B22 := B.kp X22.kp
  refine st_cons (st_compLO R.hd (cl := [("text", h.objs.size + 3)]) rfl rfl rfl rfl ?_)
  refine ev_Name (has_local X22.ns rfl rfl rfl rfl) ?_
  refine ⟨Dt, ysT, fun v its => ∃ x t a b, v = .str (mkS x) t ∧ its = #[.int (coll x tx) a, .int (coll tx x) b], _, rfl, hplT.isList, by rw [sizeLine_eq]; lia, X22.ns, ?_, ?_⟩
  · intro s1 C v h3 m3 hv k3 n3 hm hC
    obtain ⟨x, t, rfl⟩ := strsV_all sT v hv
    have B3 := B22.kp k3
    refine ev_list2 (ev_call2 (has_global B3 rfl rfl rfl rfl) ⟨_, _, B3.k 21 _ rfl, rfl⟩ (ev_Name (has_local n3 hm rfl rfl rfl) (ev_Name (has_cell (cT22.kp k3) rfl rfl rfl) ⟨Kp.refl _, ?_⟩)))
    refine (coll_ok _ s1 h3 x tx t t11 B3 ((R.le (by lia) : Room A (2 + 1)).deeper _)).mono fun v4 h4 q => ?_
    obtain ⟨⟨a, rfl⟩, k4⟩ := q
    have B4 := B3.kp k4
    refine ev_call2 (has_global B4 rfl rfl rfl rfl) ⟨_, _, B4.k 21 _ rfl, rfl⟩ (ev_Name (has_cell ((cT22.kp k3).kp k4) rfl rfl rfl) (ev_Name (has_local (ns_kp n3 k4) hm rfl rfl rfl) ⟨Kp.refl _, ?_⟩))
    refine (coll_ok _ s1 h4 tx x t11 t B4 ((R.le (by lia) : Room A (2 + 1)).deeper _)).mono fun v5 h5 q => ?_
    obtain ⟨⟨b, rfl⟩, k5⟩ := q
    exact rb_newList (by simp) fun T h6 k6 hT hT6 => ⟨⟨T, _, rfl, none_of_kp (k4.trans k5) hT, hT6.isList, x, t, a, b, rfl, rfl⟩, (k4.trans k5).trans k6⟩
  intro Da h23 ysA hDa hplA hpairA n23 ext23
  have X23 := X22.setx n23 ext23 (by decide)
  have hAL : AL h23 Da (xs.map fun x => (coll x tx, coll tx x)) := by
    obtain ⟨nA, hA⟩ := hplA
    exact ⟨ysA.toList, nA, by simpa using hA, prs_of (fun x t its g => by
      obtain ⟨x', t', a, b, e, rfl⟩ := g
      injection e with e _
      have : x' = x := by have := congrArg (fun s : Str => s.cps.toList) e; exact this.symm
      subst this
      exact ⟨a, b, rfl⟩) sT hpairA⟩
  have hTl : IsL h23 Dt ysT.toList.toArray hplT.choose := by
    have e := hplT.choose_spec
    have := ext23 _ _ (isL_ne_ns X22.ns (by simpa using e)) e
    simpa using this
  have cT23 := cT22.ext ext23 (by show h.objs.size + 3 ≠ h.objs.size; lia)
  have hRw23 := hRw22.ext X22.ns ext23
  have B23 := B.kp X23.kp
  have R1 : ∀ env, Room (A.deeper env) (34 + 1) := fun env => (R.le (by lia) : Room A (35 + 1)).deeper env
  obtain ⟨vsA, nA, hA, hPA⟩ := id hAL
  refine st_cons (st_if (ev_test (ev_comp2 R.hd rfl (fun u => ∃ i t, u = .int i t) (ev_Name (has_local X23.ns rfl rfl rfl rfl) ⟨Da, vsA.toArray, rfl, hA.isList, fun v hv => ?_, fun s1 C u h3 m3 hu k3 n3 hm => ?_, fun D h24 k24 hD => ?_⟩))))
  · obtain ⟨T, a, b, rfl, t, u, hT⟩ := hPA.mem v (by simpa using hv)
    refine ⟨T, _, rfl, hT, fun v hv => ?_⟩
    rcases List.mem_cons.mp (show v ∈ [_, _] by simpa using hv) with rfl | hv
    · exact ⟨_, _, rfl⟩
    · rw [List.mem_singleton.mp hv]; exact ⟨_, _, rfl⟩
  · obtain ⟨i, t, rfl⟩ := hu
    have B3 := B23.kp k3
    exact tests_num (has_builtin B3 rfl rfl (by decide) rfl rfl rfl rfl) (has_builtin B3 rfl rfl (by decide) rfl rfl rfl rfl) (has_builtin B3 rfl rfl (by decide) rfl rfl rfl rfl) (has_local n3 hm rfl rfl rfl) ⟨rfl, Kp.refl _⟩
  refine ev_list0 (rb_newList (by simp) fun D2 h25 k25 _ hD2 => rv_nenil (R1 _) (k25 _ _ hD) hD2 ⟨false, rfl, ?_⟩)
  refine st_nil ?_
  have X25 := (X23.kpp k24).kpp k25
  have k35 := k24.trans k25
  have hAL25 := hAL.kp k35
  have hpn : (((pl ns).toNat : Nat) : Int) = pl ns := Int.toNat_of_nonneg hpl0
  have hysz : ysT.toList.toArray.size = (rows (dr ns)).length := by simp; lia
  refine st_cons (st_if (ts_or2 (ev_test (ev_countPr (R1 _) (has_local X25.ns rfl rfl rfl rfl) hAL25 (fun p => ev_neg1 p) (fun p => ev_int p) fun t13 h26 k26 => ev_Name (has_local (X25.kpp k26).ns rfl rfl rfl rfl) (rv_nei ⟨_, rfl, ?_, ?_⟩)))))
  · rw [c1, hpn]; exact bne_self_eq_false _
  have X26 := X25.kpp k26
  have hAL26 := hAL25.kp k26
  refine ev_test (ev_countPr (R1 _) (has_local X26.ns rfl rfl rfl rfl) hAL26 (fun p => ev_int p) (fun p => ev_int p) fun t14 h27 k27 => ev_int fun t15 => rv_nei ⟨_, rfl, ?_, ?_⟩)
  · rw [c2]; rfl
  refine st_nil ?_
  have X27 := X26.kpp k27
  have hAL27 := hAL26.kp k27
  have k37 := (k35.trans k26).trans k27
  refine st_cons (st_if (ev_test (ev_countPr (R1 _) (has_local X27.ns rfl rfl rfl rfl) hAL27 (fun p => ev_int p) (fun p => ev_neg1 p) fun t16 h28 k28 => ?_)))
  have X28 := X27.kpp k28
  have B28 := B.kp X28.kp
  have k38 := k37.trans k28
  have hTl28 : IsL h28 Dt ysT.toList.toArray hplT.choose := k38 _ _ hTl
  refine ev_BinOp (ev_BinOp (ev_callB1 (has_builtin B28 rfl rfl (by decide) rfl rfl rfl rfl) (ev_Name (has_local X28.ns rfl rfl rfl rfl) (rb_lenS hTl28.isList (by lia) fun t17 => ev_Name (has_local X28.ns rfl rfl rfl rfl) (rv_sub fun t18 => ev_int fun t19 => rv_sub fun t20 => rv_nei ⟨false, congrArg _ ?_, st_nil ?_⟩)))))
  · have : (((xs.map fun x => (coll x tx, coll tx x)).count (1, -1) : Nat) : Int) = (ysT.toList.toArray.size : Int) - pl ns - 1 := by rw [hysz]; lia
    rw [this]; exact bne_self_eq_false _
  have cT28 := cT23.kp k38
  refine st_cons (st_if (ev_test (ev_sortedAt B28 ((R1 _).le (by lia)) (has_builtin B28 rfl rfl (by decide) rfl rfl rfl rfl) (has_global B28 rfl rfl rfl rfl) (has_local X28.ns rfl rfl rfl rfl) (fun h' k' => has_local (X28.kpp k').ns rfl rfl rfl rfl)
    ⟨ysT.toList, hTl28.isList, sT⟩ c4 (by rw [hxl]; exact c5) hpl0 (show pl ns < (xs.length : Int) by rw [hxl]; lia) fun ys x t21 h29 k29 p1 p2 p3 => ev_Name (has_cell (cT28.kp k29) rfl rfl rfl) (rv_sne ⟨false, congrArg _ ?_, st_nil ?_⟩))))
  · rw [c6 ys x p1 p2 p3]; simp
  have X29 := X28.kpp k29
  have B29 := B.kp X29.kp
  refine st_cons (st_ret (ev_Compare (ev_call1 (has_global B29 rfl rfl rfl rfl) ⟨_, _, B29.k 69 _ rfl, rfl⟩ (ev_Name (has_cell (cT28.kp k29) rfl rfl rfl) ⟨Kp.refl _, ?_⟩))))
  have hread : ∀ A, Room A 20 → Run prog w A s0 (call (.ref 69) [.str (mkS tx) t11]) h29 (ReadOut h29 (tn ri')) := fun A R => by
    have := read_ok (prog := prog) (tn ri') (htn ri' hrin) (by simp [tn]; lia) A s0 h29 t11 B29 R
    rwa [htx] at this
  refine (hread _ ((R.le (by lia) : Room A (20 + 1)).deeper _)).mono fun v h30 q => ?_
  obtain ⟨⟨D5, rfl, _, hD5⟩, k30⟩ := q
  have X30 := X29.kpp k30
  have hRw30 := hRw23.kp ((k38.trans k29).trans k30)
  refine ev_numsOf R.hd rfl (has_local X30.ns rfl rfl rfl rfl) hRw30 (htn ri' hrin) (by simp [tn]; lia) X30.cN X30.hN (fun _ => rfl) (by decide) rfl (by decide) rfl (by decide) fun D6 h31 k31 hD6 => ?_
  refine rv_eq (hD5.kp k31).reads hD6.reads (canLay_ints _) (canLay_ints _) (by have := R.un; rw [depth_ints]; show A.units + 3 + min 1 1 < 9900; lia) ⟨?_, (X30.kpp k31).kp⟩
  have e : PyData.eqv (.list (((tn ri').map num).map .int)) (.list (((tn ri').map num).map .int)) = true := by
    show PyData.eqvAll _ _ = true
    rw [eqv_ints]; simp
  rw [e]
end
end
end Mine

namespace Mine
noncomputable section
open PySem PySem.W PySem.Calls PyProof.Rows
set_option linter.unusedVariables false
set_option maxRecDepth 100000 in
set_option maxHeartbeats 8000000 in
theorem jn : PySem.Challenge.rw_pg0108_01.Holds := by
  refine hd ?_
  intro w s₀ s₁ mg mb G Y fa o pm cd doc dV kV ho hd hcd hD hmg hg args vals as hpre hlay hrd hwl hlo
  have KX := kIn_of Y
  refine Ground.open G ?_
  intro T B D TE TW
  wrow_args hpre hlay hrd hwl hlo
  rename_i ns _ _ _ _ _ _ _ l vs _ hL _ _ _ hI _ hlen _
  have e74 : mg "law" = some (.ref 74) := mg_of KX T.g rfl
  have hfa : fa = 74 := by
    have q := hmg.symm.trans e74
    exact Value.ref.inj (Option.some.inj q)
  subst hfa
  show wpAny _ callerA (call (.ref 74) [.ref l]) _ _ _
  refine (law_ok (mb := mb) ns (by lia) callerA s₁ s₁.heap l ⟨KX, T.g, T.b, T.nolimit, T.builtins⟩ ⟨rfl, by decide +kernel, by decide +kernel⟩ ⟨vs, hL, hI⟩).use s₁.toks fun v h' tk' q => ?_
  obtain ⟨rfl, k⟩ := q
  refine ⟨.inl ⟨.bool true, .bool true, [], rfl, raisesW_false (by wrow_none_raised), .bool true, postW_of (by wrow_shape) (by wtm_val) (by w_fin), unshared_nil⟩, .of_keep k, rfl, .of_eq hg⟩
end
end Mine

theorem PySem.Challenge.cw_pg0108_01_holds : PySem.Challenge.rw_pg0108_01.Holds := by
  exact Mine.jn
