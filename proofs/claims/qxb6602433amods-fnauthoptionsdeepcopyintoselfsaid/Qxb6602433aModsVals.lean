/-
  What a pointer holds, told with the value; what of it stays in a later world; the small contracts in these words; DeepCopyInto in these words.
-/
import Derived.Test.Qxb6602433aModsDeep
namespace Go.Proofs.Qxb6602433aMods.Auth
open Go.RowKit

/-- p is nil and z the zero value, or p leads to a cell that holds u. -/
def At (w : World) (p : Option Addr) (u z : Value) : Prop := (p = none ∧ u = z) ∨ ∃ b o, p = some ⟨b, o, none⟩ ∧ w.cell? ⟨b, o, none⟩ = some u

theorem PT.atB {w : World} {p : Option Addr} (h : PT isB w p) : ∃ x, At w p (.bool x) (.bool false) := by
  rcases h with rfl | ⟨b, o, v, rfl, hc, x, rfl⟩
  · exact ⟨false, .inl ⟨rfl, rfl⟩⟩
  · exact ⟨x, .inr ⟨b, o, rfl, hc⟩⟩
theorem PT.atS {w : World} {p : Option Addr} (h : PT isS w p) : ∃ x, At w p (.string x) (.string ByteArray.empty) := by
  rcases h with rfl | ⟨b, o, v, rfl, hc, x, rfl⟩
  · exact ⟨ByteArray.empty, .inl ⟨rfl, rfl⟩⟩
  · exact ⟨x, .inr ⟨b, o, rfl, hc⟩⟩

theorem At.below {w w' : World} {p : Option Addr} {u z : Value} (h : At w p u z) (hb : Below w.heap.size w w') : At w' p u z := by
  rcases h with h | ⟨b, o, rfl, hc⟩
  · exact .inl h
  · exact .inr ⟨b, o, rfl, by rw [hb.cell (cell_lt hc)]; exact hc⟩
theorem At.apart {w w' : World} {p : Option Addr} {u z : Value} (h : At w p u z) (hb : Below w.heap.size w w') {c : Nat} (hc : w.heap.size ≤ c) : Apart w' c p := by
  rcases h with ⟨rfl, _⟩ | ⟨b, o, rfl, hv⟩
  · exact .inl rfl
  · have := cell_lt hv
    exact .inr ⟨b, o, u, rfl, by omega, by rw [hb.cell (cell_lt hv)]; exact hv⟩
theorem at_nil (w : World) : At w none (.bool false) (.bool false) := .inl ⟨rfl, rfl⟩

theorem heap_new (w : World) (o : Obj) : (w.alloc o).heap[w.heap.size]? = some o := by
  show (w.heap.push o)[w.heap.size]? = _
  simp
theorem heap_old (w : World) (o : Obj) (k : Nat) (h : k < w.heap.size) : (w.alloc o).heap[k]? = w.heap[k]? := Below.heap_alloc w o k h

theorem hn1 (w : World) (o : Obj) (k : Nat) (h : k = w.heap.size) : (w.alloc o).heap[k]? = some o := by rw [h]; exact heap_new w o

theorem valBool_at (p : Option Addr) (x : Bool) (w : World) (h : At w p (.bool x) (.bool false)) :
    Calls Trym.prog 23 #[.pointer p] w fun e w' => e = .returned (.bool x) ∧ w' = w := by
  rcases h with ⟨rfl, h⟩ | ⟨b, o, rfl, hc⟩
  · cases h
    exact valBool_any none w (.inl rfl)
  · have e : bv w (some ⟨b, o, none⟩) = x := by simp [bv, hc]
    rw [← e]
    exact valBool_any _ w (.inr ⟨b, o, x, rfl, hc⟩)
theorem valStr_at (p : Option Addr) (x : ByteArray) (w : World) (h : At w p (.string x) (.string ByteArray.empty)) :
    Calls Trym.prog 24 #[.pointer p] w fun e w' => e = .returned (.string x) ∧ w' = w := by
  rcases h with ⟨rfl, h⟩ | ⟨b, o, rfl, hc⟩
  · cases h
    exact valStr_any none w (.inl rfl)
  · have e : sv w (some ⟨b, o, none⟩) = x := by simp [sv, hc]
    rw [← e]
    exact valStr_any _ w (.inr ⟨b, o, x, rfl, hc⟩)
theorem keptBool_at (p : Option Addr) (x : Bool) (w : World) (h : At w p (.bool x) (.bool false)) :
    Calls Trym.prog 30 #[.pointer p, .bool x] w fun e w' => e = .returned (.bool true) ∧ w' = w := by
  rcases h with ⟨rfl, h⟩ | ⟨b, o, rfl, hc⟩
  · cases h
    exact keptBool_any none false w (.inl rfl) rfl
  · exact keptBool_any _ x w (.inr ⟨b, o, x, rfl, hc⟩) (by simp [bv, hc])
theorem keptStr_at (p : Option Addr) (x : ByteArray) (w : World) (h : At w p (.string x) (.string ByteArray.empty)) :
    Calls Trym.prog 31 #[.pointer p, .string x] w fun e w' => e = .returned (.bool true) ∧ w' = w := by
  rcases h with ⟨rfl, h⟩ | ⟨b, o, rfl, hc⟩
  · cases h
    exact keptStr_any none ByteArray.empty w (.inl rfl) rfl
  · exact keptStr_any _ x w (.inr ⟨b, o, x, rfl, hc⟩) (by simp [sv, hc])

/-- A COPY of p in w': nil where p is nil; else the address of a block that lies from B on and holds u alone. -/
def Cop (B : Nat) (w' : World) (p q : Option Addr) (u : Value) (t : TypeId) : Prop :=
  (p = none ∧ q = none) ∨ ∃ a c, p = some a ∧ q = some ⟨c, 0, none⟩ ∧ B ≤ c ∧ w'.heap[c]? = some (.cells #[u] t)

theorem Cop.copied {B : Nat} {w' : World} {p q : Option Addr} {u : Value} {t : TypeId} (h : Cop B w' p q u t) :
    (p = none ∧ q = none) ∨ ∃ a b o, p = some a ∧ q = some ⟨b, o, none⟩ ∧ w'.cell? ⟨b, o, none⟩ = some u := by
  rcases h with h | ⟨a, c, rfl, rfl, _, hc⟩
  · exact .inl h
  · exact .inr ⟨a, c, 0, rfl, rfl, by simp [World.cell?, hc]⟩

theorem Cop.fresh {B : Nat} {w w' : World} {p q a b : Option Addr} {u ua za ub zb : Value} {t : TypeId} (h : Cop B w' p q u t) (hB : w.heap.size ≤ B) (hb : Below w.heap.size w w') (ha : At w a ua za) (hb' : At w b ub zb) :
    q = none ∨ ∃ c cs ct, q = some ⟨c, 0, none⟩ ∧ w'.heap[c]? = some (.cells cs ct (0, 0)) ∧ Apart w' c a ∧ Apart w' c b := by
  rcases h with ⟨_, rfl⟩ | ⟨_, c, rfl, rfl, hc, hh⟩
  · exact .inl rfl
  · exact .inr ⟨c, _, _, rfl, hh, ha.apart hb (by omega), hb'.apart hb (by omega)⟩
theorem Cop.fresh4 {B : Nat} {w w' : World} {p q a b : Option Addr} {u ua za ub zb : Value} {t : TypeId} (h : Cop B w' p q u t) (hB : w.heap.size ≤ B) (hb : Below w.heap.size w w') (ha : At w a ua za) (hb' : At w b ub zb) :
    q = none ∨ ∃ c cs ct, q = some ⟨c, 0, none⟩ ∧ w'.heap[c]? = some (.cells cs ct (0, 0)) ∧ Apart w' c a ∧ Apart w' c b ∧ Apart w' c none ∧ Apart w' c none := by
  rcases h with ⟨_, rfl⟩ | ⟨_, c, rfl, rfl, hc, hh⟩
  · exact .inl rfl
  · exact .inr ⟨c, _, _, rfl, hh, ha.apart hb (by omega), hb'.apart hb (by omega), .inl rfl, .inl rfl⟩

/-- What stands behind DeepCopyInto from the struct in block a into the struct in block b, in the world w: of the blocks below both nothing has turned; the copies lie in new blocks. -/
structure Deeped (w : World) (B a b : Nat) (p s : Option Addr) (m : ByteArray) (u v : Value) (w' : World) (p' s' : Option Addr) : Prop where
  below : Below B w w'
  size : b < w'.heap.size
  a0 : a ≠ b → w'.cell? ⟨a, 0, none⟩ = some (.pointer p)
  a1 : a ≠ b → w'.cell? ⟨a, 1, none⟩ = some (.pointer s)
  a2 : a ≠ b → w'.cell? ⟨a, 2, none⟩ = some (.string m)
  b0 : w'.cell? ⟨b, 0, none⟩ = some (.pointer p')
  b1 : w'.cell? ⟨b, 1, none⟩ = some (.pointer s')
  b2 : w'.cell? ⟨b, 2, none⟩ = some (.string m)
  cp : Cop (b + 1) w' p p' u 4
  cs : Cop (b + 1) w' s s' v 9

/-- From one new struct into another. -/
theorem deep_at (p s q' s' : Option Addr) (x : Bool) (y m m' : ByteArray) (w : World) (n : Nat) (hn : n = w.heap.size) (hx : At w p (.bool x) (.bool false)) (hy : At w s (.string y) (.string ByteArray.empty)) :
    Calls Trym.prog 25 #[.pointer (some ⟨n, 0, none⟩), .pointer (some ⟨n + 1, 0, none⟩)]
      ((w.alloc (.cells #[.pointer p, .pointer s, .string m] 48)).alloc (.cells #[.pointer q', .pointer s', .string m'] 48)) fun e w' => e = .returned (.tuple #[]) ∧
      ∃ p1 s1, Deeped w w.heap.size n (n + 1) p s m (.bool x) (.string y) w' p1 s1 := by
  subst hn
  have cl : ∀ (u : World) (o : Obj) (b i : Nat), b < u.heap.size → (u.alloc o).cell? ⟨b, i, none⟩ = u.cell? ⟨b, i, none⟩ := fun u o b i h => World.cell?_alloc_lt _ _ _ h
  have cn : ∀ (u : World) (c : Array Value) (t : TypeId) (b i : Nat), b = u.heap.size → (u.alloc (.cells c t)).cell? ⟨b, i, none⟩ = c[i]? := fun u c t b i h => World.cell?_alloc_at _ _ _ _ h
  have dc : ∀ (u : World) (a : Addr), u.drew.cell? a = u.cell? a := fun _ _ => rfl
  have dh : ∀ (u : World), u.drew.heap = u.heap := fun _ => rfl
  rcases hx with ⟨rfl, -⟩ | ⟨xb, xo, rfl, hx⟩ <;> rcases hy with ⟨rfl, -⟩ | ⟨yb, yo, rfl, hy⟩
  · refine (deep_nil_nil q' s' m m' w).mono fun e w' ⟨he, hw⟩ => ⟨he, none, none, ?_⟩
    subst hw
    refine ⟨((Below.refl _ _).alloc (Nat.le_refl _) _).alloc (by first | omega | (simp only [World.size_alloc]; omega) | simp) _, by simp, fun _ => ?_, fun _ => ?_, fun _ => ?_, ?_, ?_, ?_, .inl ⟨rfl, rfl⟩, .inl ⟨rfl, rfl⟩⟩
    all_goals simp [cl, cn]
  · refine (deep_nil_some yb yo y q' s' m m' w hy).mono fun e w' ⟨he, hw⟩ => ⟨he, none, some ⟨w.heap.size + 1 + 1, 0, none⟩, ?_⟩
    subst hw
    refine ⟨((((Below.refl _ _).alloc (Nat.le_refl _) _).alloc (by first | omega | (simp only [World.size_alloc]; omega) | simp) _).alloc (by first | omega | (simp only [World.size_alloc]; omega) | simp) _).drew.drew, by simp only [dh, World.size_alloc]; omega, fun _ => ?_, fun _ => ?_, fun _ => ?_, ?_, ?_, ?_, .inl ⟨rfl, rfl⟩, .inr ⟨_, _, rfl, rfl, by omega, ?_⟩⟩
    · simp only [dc]; rw [cl _ _ _ _ (by first | omega | (simp only [World.size_alloc]; omega) | simp), cl _ _ _ _ (by first | omega | (simp only [World.size_alloc]; omega) | simp), cn _ _ _ _ _ (by first | omega | (simp only [World.size_alloc]; omega) | simp)]; rfl
    · simp only [dc]; rw [cl _ _ _ _ (by first | omega | (simp only [World.size_alloc]; omega) | simp), cl _ _ _ _ (by first | omega | (simp only [World.size_alloc]; omega) | simp), cn _ _ _ _ _ (by first | omega | (simp only [World.size_alloc]; omega) | simp)]; rfl
    · simp only [dc]; rw [cl _ _ _ _ (by first | omega | (simp only [World.size_alloc]; omega) | simp), cl _ _ _ _ (by first | omega | (simp only [World.size_alloc]; omega) | simp), cn _ _ _ _ _ (by first | omega | (simp only [World.size_alloc]; omega) | simp)]; rfl
    · simp only [dc]; rw [cl _ _ _ _ (by first | omega | (simp only [World.size_alloc]; omega) | simp), cn _ _ _ _ _ (by first | omega | (simp only [World.size_alloc]; omega) | simp)]; rfl
    · simp only [dc]; rw [cl _ _ _ _ (by first | omega | (simp only [World.size_alloc]; omega) | simp), cn _ _ _ _ _ (by first | omega | (simp only [World.size_alloc]; omega) | simp)]; rfl
    · simp only [dc]; rw [cl _ _ _ _ (by first | omega | (simp only [World.size_alloc]; omega) | simp), cn _ _ _ _ _ (by first | omega | (simp only [World.size_alloc]; omega) | simp)]; rfl
    · simp only [dh]; rw [hn1 _ _ _ (by first | omega | (simp only [World.size_alloc]; omega) | simp)]
  · refine (deep_some_nil xb xo x q' s' m m' w hx).mono fun e w' ⟨he, hw⟩ => ⟨he, some ⟨w.heap.size + 1 + 1, 0, none⟩, none, ?_⟩
    subst hw
    refine ⟨((((Below.refl _ _).alloc (Nat.le_refl _) _).alloc (by first | omega | (simp only [World.size_alloc]; omega) | simp) _).alloc (by first | omega | (simp only [World.size_alloc]; omega) | simp) _).drew.drew, by simp only [dh, World.size_alloc]; omega, fun _ => ?_, fun _ => ?_, fun _ => ?_, ?_, ?_, ?_, .inr ⟨_, _, rfl, rfl, by omega, ?_⟩, .inl ⟨rfl, rfl⟩⟩
    · simp only [dc]; rw [cl _ _ _ _ (by first | omega | (simp only [World.size_alloc]; omega) | simp), cl _ _ _ _ (by first | omega | (simp only [World.size_alloc]; omega) | simp), cn _ _ _ _ _ (by first | omega | (simp only [World.size_alloc]; omega) | simp)]; rfl
    · simp only [dc]; rw [cl _ _ _ _ (by first | omega | (simp only [World.size_alloc]; omega) | simp), cl _ _ _ _ (by first | omega | (simp only [World.size_alloc]; omega) | simp), cn _ _ _ _ _ (by first | omega | (simp only [World.size_alloc]; omega) | simp)]; rfl
    · simp only [dc]; rw [cl _ _ _ _ (by first | omega | (simp only [World.size_alloc]; omega) | simp), cl _ _ _ _ (by first | omega | (simp only [World.size_alloc]; omega) | simp), cn _ _ _ _ _ (by first | omega | (simp only [World.size_alloc]; omega) | simp)]; rfl
    · simp only [dc]; rw [cl _ _ _ _ (by first | omega | (simp only [World.size_alloc]; omega) | simp), cn _ _ _ _ _ (by first | omega | (simp only [World.size_alloc]; omega) | simp)]; rfl
    · simp only [dc]; rw [cl _ _ _ _ (by first | omega | (simp only [World.size_alloc]; omega) | simp), cn _ _ _ _ _ (by first | omega | (simp only [World.size_alloc]; omega) | simp)]; rfl
    · simp only [dc]; rw [cl _ _ _ _ (by first | omega | (simp only [World.size_alloc]; omega) | simp), cn _ _ _ _ _ (by first | omega | (simp only [World.size_alloc]; omega) | simp)]; rfl
    · simp only [dh]; rw [hn1 _ _ _ (by first | omega | (simp only [World.size_alloc]; omega) | simp)]
  · refine (deep_some_some xb xo yb yo x y q' s' m m' w hx hy).mono fun e w' ⟨he, hw⟩ => ⟨he, some ⟨w.heap.size + 1 + 1, 0, none⟩, some ⟨w.heap.size + 1 + 1 + 1, 0, none⟩, ?_⟩
    subst hw
    refine ⟨(((((Below.refl _ _).alloc (Nat.le_refl _) _).alloc (by first | omega | (simp only [World.size_alloc]; omega) | simp) _).alloc (by first | omega | (simp only [World.size_alloc]; omega) | simp) _).alloc (by first | omega | (simp only [World.size_alloc]; omega) | simp) _).drew.drew.drew.drew, by simp only [dh, World.size_alloc]; omega, fun _ => ?_, fun _ => ?_, fun _ => ?_, ?_, ?_, ?_, .inr ⟨_, _, rfl, rfl, by omega, ?_⟩, .inr ⟨_, _, rfl, rfl, by omega, ?_⟩⟩
    · simp only [dc]; rw [cl _ _ _ _ (by first | omega | (simp only [World.size_alloc]; omega) | simp), cl _ _ _ _ (by first | omega | (simp only [World.size_alloc]; omega) | simp), cl _ _ _ _ (by first | omega | (simp only [World.size_alloc]; omega) | simp), cn _ _ _ _ _ (by first | omega | (simp only [World.size_alloc]; omega) | simp)]; rfl
    · simp only [dc]; rw [cl _ _ _ _ (by first | omega | (simp only [World.size_alloc]; omega) | simp), cl _ _ _ _ (by first | omega | (simp only [World.size_alloc]; omega) | simp), cl _ _ _ _ (by first | omega | (simp only [World.size_alloc]; omega) | simp), cn _ _ _ _ _ (by first | omega | (simp only [World.size_alloc]; omega) | simp)]; rfl
    · simp only [dc]; rw [cl _ _ _ _ (by first | omega | (simp only [World.size_alloc]; omega) | simp), cl _ _ _ _ (by first | omega | (simp only [World.size_alloc]; omega) | simp), cl _ _ _ _ (by first | omega | (simp only [World.size_alloc]; omega) | simp), cn _ _ _ _ _ (by first | omega | (simp only [World.size_alloc]; omega) | simp)]; rfl
    · simp only [dc]; rw [cl _ _ _ _ (by first | omega | (simp only [World.size_alloc]; omega) | simp), cl _ _ _ _ (by first | omega | (simp only [World.size_alloc]; omega) | simp), cn _ _ _ _ _ (by first | omega | (simp only [World.size_alloc]; omega) | simp)]; rfl
    · simp only [dc]; rw [cl _ _ _ _ (by first | omega | (simp only [World.size_alloc]; omega) | simp), cl _ _ _ _ (by first | omega | (simp only [World.size_alloc]; omega) | simp), cn _ _ _ _ _ (by first | omega | (simp only [World.size_alloc]; omega) | simp)]; rfl
    · simp only [dc]; rw [cl _ _ _ _ (by first | omega | (simp only [World.size_alloc]; omega) | simp), cl _ _ _ _ (by first | omega | (simp only [World.size_alloc]; omega) | simp), cn _ _ _ _ _ (by first | omega | (simp only [World.size_alloc]; omega) | simp)]; rfl
    · simp only [dh]; rw [heap_old _ _ _ (by first | omega | (simp only [World.size_alloc]; omega) | simp), hn1 _ _ _ (by first | omega | (simp only [World.size_alloc]; omega) | simp)]
    · simp only [dh]; rw [hn1 _ _ _ (by first | omega | (simp only [World.size_alloc]; omega) | simp)]

/-- From one new struct into itself: every copy holds the zero value. -/
theorem self_at (p s : Option Addr) (m : ByteArray) (w : World) (n : Nat) (hn : n = w.heap.size) :
    Calls Trym.prog 25 #[.pointer (some ⟨n, 0, none⟩), .pointer (some ⟨n, 0, none⟩)]
      (w.alloc (.cells #[.pointer p, .pointer s, .string m] 48)) fun e w' => e = .returned (.tuple #[]) ∧
      ∃ p1 s1, Deeped w w.heap.size n n p s m (.bool false) (.string ByteArray.empty) w' p1 s1 := by
  subst hn
  have cl : ∀ (u : World) (o : Obj) (b i : Nat), b < u.heap.size → (u.alloc o).cell? ⟨b, i, none⟩ = u.cell? ⟨b, i, none⟩ := fun u o b i h => World.cell?_alloc_lt _ _ _ h
  have cn : ∀ (u : World) (c : Array Value) (t : TypeId) (b i : Nat), b = u.heap.size → (u.alloc (.cells c t)).cell? ⟨b, i, none⟩ = c[i]? := fun u c t b i h => World.cell?_alloc_at _ _ _ _ h
  have dc : ∀ (u : World) (a : Addr), u.drew.cell? a = u.cell? a := fun _ _ => rfl
  have dh : ∀ (u : World), u.drew.heap = u.heap := fun _ => rfl
  cases p with
  | none =>
    cases s with
    | none =>
      refine (self_nil_nil m w).mono fun e w' ⟨he, hw⟩ => ⟨he, none, none, ?_⟩
      subst hw
      refine ⟨(Below.refl _ _).alloc (Nat.le_refl _) _, by simp, fun h => absurd rfl h, fun h => absurd rfl h, fun h => absurd rfl h, ?_, ?_, ?_, .inl ⟨rfl, rfl⟩, .inl ⟨rfl, rfl⟩⟩
      all_goals (rw [cn _ _ _ _ _ (by first | omega | (simp only [World.size_alloc]; omega) | simp)]; rfl)
    | some ya =>
      refine (self_nil_some ya m w).mono fun e w' ⟨he, hw⟩ => ⟨he, none, some ⟨w.heap.size + 1, 0, none⟩, ?_⟩
      subst hw
      refine ⟨(((Below.refl _ _).alloc (Nat.le_refl _) _).alloc (by first | omega | (simp only [World.size_alloc]; omega) | simp) _).drew.drew, by simp only [dh, World.size_alloc]; omega, fun h => absurd rfl h, fun h => absurd rfl h, fun h => absurd rfl h, ?_, ?_, ?_, .inl ⟨rfl, rfl⟩, .inr ⟨_, _, rfl, rfl, by omega, ?_⟩⟩
      · simp only [dc]; rw [cl _ _ _ _ (by first | omega | (simp only [World.size_alloc]; omega) | simp), cn _ _ _ _ _ (by first | omega | (simp only [World.size_alloc]; omega) | simp)]; rfl
      · simp only [dc]; rw [cl _ _ _ _ (by first | omega | (simp only [World.size_alloc]; omega) | simp), cn _ _ _ _ _ (by first | omega | (simp only [World.size_alloc]; omega) | simp)]; rfl
      · simp only [dc]; rw [cl _ _ _ _ (by first | omega | (simp only [World.size_alloc]; omega) | simp), cn _ _ _ _ _ (by first | omega | (simp only [World.size_alloc]; omega) | simp)]; rfl
      · simp only [dh]; rw [hn1 _ _ _ (by first | omega | (simp only [World.size_alloc]; omega) | simp)]
  | some xa =>
    cases s with
    | none =>
      refine (self_some_nil xa m w).mono fun e w' ⟨he, hw⟩ => ⟨he, some ⟨w.heap.size + 1, 0, none⟩, none, ?_⟩
      subst hw
      refine ⟨(((Below.refl _ _).alloc (Nat.le_refl _) _).alloc (by first | omega | (simp only [World.size_alloc]; omega) | simp) _).drew.drew, by simp only [dh, World.size_alloc]; omega, fun h => absurd rfl h, fun h => absurd rfl h, fun h => absurd rfl h, ?_, ?_, ?_, .inr ⟨_, _, rfl, rfl, by omega, ?_⟩, .inl ⟨rfl, rfl⟩⟩
      · simp only [dc]; rw [cl _ _ _ _ (by first | omega | (simp only [World.size_alloc]; omega) | simp), cn _ _ _ _ _ (by first | omega | (simp only [World.size_alloc]; omega) | simp)]; rfl
      · simp only [dc]; rw [cl _ _ _ _ (by first | omega | (simp only [World.size_alloc]; omega) | simp), cn _ _ _ _ _ (by first | omega | (simp only [World.size_alloc]; omega) | simp)]; rfl
      · simp only [dc]; rw [cl _ _ _ _ (by first | omega | (simp only [World.size_alloc]; omega) | simp), cn _ _ _ _ _ (by first | omega | (simp only [World.size_alloc]; omega) | simp)]; rfl
      · simp only [dh]; rw [hn1 _ _ _ (by first | omega | (simp only [World.size_alloc]; omega) | simp)]
    | some ya =>
      refine (self_some_some xa ya m w).mono fun e w' ⟨he, hw⟩ => ⟨he, some ⟨w.heap.size + 1, 0, none⟩, some ⟨w.heap.size + 1 + 1, 0, none⟩, ?_⟩
      subst hw
      refine ⟨((((Below.refl _ _).alloc (Nat.le_refl _) _).alloc (by first | omega | (simp only [World.size_alloc]; omega) | simp) _).alloc (by first | omega | (simp only [World.size_alloc]; omega) | simp) _).drew.drew.drew.drew, by simp only [dh, World.size_alloc]; omega, fun h => absurd rfl h, fun h => absurd rfl h, fun h => absurd rfl h, ?_, ?_, ?_, .inr ⟨_, _, rfl, rfl, by omega, ?_⟩, .inr ⟨_, _, rfl, rfl, by omega, ?_⟩⟩
      · simp only [dc]; rw [cl _ _ _ _ (by first | omega | (simp only [World.size_alloc]; omega) | simp), cl _ _ _ _ (by first | omega | (simp only [World.size_alloc]; omega) | simp), cn _ _ _ _ _ (by first | omega | (simp only [World.size_alloc]; omega) | simp)]; rfl
      · simp only [dc]; rw [cl _ _ _ _ (by first | omega | (simp only [World.size_alloc]; omega) | simp), cl _ _ _ _ (by first | omega | (simp only [World.size_alloc]; omega) | simp), cn _ _ _ _ _ (by first | omega | (simp only [World.size_alloc]; omega) | simp)]; rfl
      · simp only [dc]; rw [cl _ _ _ _ (by first | omega | (simp only [World.size_alloc]; omega) | simp), cl _ _ _ _ (by first | omega | (simp only [World.size_alloc]; omega) | simp), cn _ _ _ _ _ (by first | omega | (simp only [World.size_alloc]; omega) | simp)]; rfl
      · simp only [dh]; rw [heap_old _ _ _ (by first | omega | (simp only [World.size_alloc]; omega) | simp), hn1 _ _ _ (by first | omega | (simp only [World.size_alloc]; omega) | simp)]
      · simp only [dh]; rw [hn1 _ _ _ (by first | omega | (simp only [World.size_alloc]; omega) | simp)]

end Go.Proofs.Qxb6602433aMods.Auth
