/-
  THE SET OF TARGETS: a map keyed by a struct.
-/
import Derived.Test.Qxb6605253aG6
import Derived.Maps.Own
import Derived.Maps.Views
import Derived.DeepKeys4
namespace Go.Proofs.Qxb6605253a
open Go.RowKit Go.Maps
set_option linter.unusedVariables false
set_option linter.unusedSimpArgs false

theorem laidOut : laidOutB Try.prog = true := by kernel_rfl
theorem Try.row30 : (30 : TypeId) < Try.prog.types.size := of_decide_eq_true (by kernel_rfl)
theorem Try.wide30 : (match Try.prog.underlying 30 with | some (.array _ _) | some (.struct _) => true | _ => false) = true := by rw [Try.underlying30]
theorem Try.keyed30 : Keyed Try.prog 30 := Keyed.of_law (deep_law_laid laidOut (m := 2) (by omega) Try.row30 (by kernel_rfl) Try.wide30)
theorem Try.keyType30 : Try.prog.keyType 30 = true := by kernel_rfl
theorem Try.cells30 : Try.prog.cellsOf 30 = 3 := by kernel_rfl
theorem Try.cells9 : Try.prog.cellsOf 9 = 1 := by kernel_rfl
theorem Try.cells3 : Try.prog.cellsOf 3 = 1 := by kernel_rfl

/-- A target as Go holds it. -/
structure T3.ok (t : T3) : Prop where
  be : t.be.size ≤ maxLen
  ar : t.ar.size ≤ maxLen
  ws : (Lit.int .i64 t.ws).wf = true

/-- What it reads as, as a key. -/
def kl (t : T3) : Lit := .string (keyBytes [.string t.be.data.toList, .string t.ar.data.toList, .int .i64 t.ws])

theorem key30 {t : T3} (h : t.ok) : keyOf Try.prog 30 t.val = some (kl t) := by
  obtain ⟨N, hN⟩ : ∃ N, Try.prog.types.size = N + 1 := ⟨Try.prog.types.size - 1, (Nat.succ_pred_eq_of_pos (Nat.lt_of_le_of_lt (Nat.zero_le _) Try.row30)).symm⟩
  have k9 : ∀ s : ByteArray, s.size ≤ maxLen → Try.prog.keyLits (N + 1) 9 [.string s] = some [.string s.data.toList] := fun s hs => by
    unfold Program.keyLits; rw [Try.underlying9]; simp [hs]
  have k3 : ∀ z : Int, (Lit.int .i64 z).wf = true → Try.prog.keyLits (N + 1) 3 [.int .i64 z] = some [.int .i64 z] := fun z hz => by
    unfold Program.keyLits; rw [Try.underlying3]; simp [hz]
  unfold keyOf
  rw [Try.underlying30]
  simp only
  rw [Try.keyType30, hN]
  have hf : t.val.formed Try.prog 30 = true := by
    simp [T3.val, Value.formed, Try.underlying30, Try.cells30]
  rw [hf]
  simp only [Bool.and_self, if_true]
  have hc : t.val.cells.toList = [.string t.be, .string t.ar, .int .i64 t.ws] := by simp [T3.val, Value.cells]
  rw [hc]
  unfold Program.keyLits
  rw [Try.underlying30]
  simp [Try.cells30, Try.cells9, Try.cells3, k9 _ h.be, k9 _ h.ar, k3 _ h.ws, kl]

theorem val_inj {t x : T3} (h : t.val = x.val) : t = x := by
  obtain ⟨b1, a1, s1⟩ := t
  obtain ⟨b2, a2, s2⟩ := x
  simp [T3.val] at h
  obtain ⟨rfl, rfl, rfl⟩ := h
  rfl

theorem kl_inj {t x : T3} (h1 : t.ok) (h2 : x.ok) (h : kl t = kl x) : t = x :=
  val_inj (Try.keyed30.inj (key30 h1) (by rw [key30 h2, h]))

theorem kl_key {t : T3} (h : t.ok) : WideAt.IsKeyLit (kl t) := Try.keyed30.key (key30 h)

/-- Block B is the set of the first k targets. -/
def TM (B k : Nat) (t : Nat → T3) (w : World) : Prop :=
  ∃ D : DataW Unit, w.ownsMap Try.prog 30 (plainElem Try.prog 4) B k D ∧ IsMap D ∧ ∀ x : T3, x.ok → ((∃ j, j < k ∧ t j = x) → D.atKey (kl x) (.lit (.bool false)) = .lit (.bool true)) ∧ ((¬ ∃ j, j < k ∧ t j = x) → D.atKey (kl x) (.lit (.bool false)) = .lit (.bool false))

theorem TM.start (w : World) (t : Nat → T3) : TM w.heap.size 0 t (w.alloc (.map #[] 0)) :=
  ⟨.map [], World.ownsMap_made w _ _ _, isMap_empty, fun x _ => ⟨fun ⟨j, h, _⟩ => absurd h (Nat.not_lt_zero _), fun _ => rfl⟩⟩

theorem TM.kept {B k : Nat} {t : Nat → T3} {w w' : World} {row : Option Nat} (h : TM B k t w) (hg : w.grownBy w' row) (hne : some B ≠ row) : TM B k t w' := by
  obtain ⟨D, h1, h2, h3⟩ := h
  exact ⟨D, h1.kept hg hne, h2, h3⟩

theorem put_isMap {H : Type} {D : DataW H} (h : IsMap D) (k : Lit) (d : DataW H) : IsMap (D.put k d) := by
  obtain ⟨es, rfl⟩ := h
  exact ⟨_, rfl⟩

theorem TM.put {B k : Nat} {t : Nat → T3} {w' : World} {D : DataW Unit} (hD : IsMap D) (ht : ∀ x : T3, x.ok → ((∃ j, j < k ∧ t j = x) → D.atKey (kl x) (.lit (.bool false)) = .lit (.bool true)) ∧ ((¬ ∃ j, j < k ∧ t j = x) → D.atKey (kl x) (.lit (.bool false)) = .lit (.bool false)))
    (hok : (t k).ok) (ho : w'.ownsMap Try.prog 30 (plainElem Try.prog 4) B (k + 1) (D.put (kl (t k)) (.lit (.bool true)))) : TM B (k + 1) t w' := by
  refine ⟨_, ho, put_isMap hD _ _, fun x hx => ?_⟩
  by_cases e : t k = x
  · subst e
    rw [atKey_put_same hD (kl_key hok)]
    exact ⟨fun _ => rfl, fun h => absurd ⟨k, by omega, rfl⟩ h⟩
  · rw [atKey_put_other (fun g => e (kl_inj hok hx g.symm))]
    obtain ⟨h1, h2⟩ := ht x hx
    refine ⟨fun ⟨j, hj, ej⟩ => h1 ⟨j, ?_, ej⟩, fun g => h2 fun ⟨j, hj, ej⟩ => g ⟨j, by omega, ej⟩⟩
    by_cases c : j = k
    · subst c; exact absurd ej e
    · omega

theorem zero4 (w : World) : (zeroValue 4).run Try.prog w = .ok (.bool false) w := by
  have hin : (Try.prog.info? 4).map (·.zero) = some (some (.bool false)) := by kernel_rfl
  obtain ⟨i, hi, hz⟩ := Option.map_eq_some_iff.1 hin
  simp [zeroValue, typeInfo, hi, hz]

/-- 'm[x]'. -/
theorem TM.look {B k : Nat} {t : Nat → T3} {w : World} (h : TM B k t w) {x : T3} (hx : x.ok) : ∃ b : Bool, (b = true ↔ ∃ j, j < k ∧ t j = x) ∧ (Instr.lookup 78 (.map (some B)) x.val false).run Try.prog w = .ok (.bool b) w := by
  obtain ⟨D, h1, h2, h3⟩ := h
  obtain ⟨v, ps, hrun, hR⟩ := h1.lookup Try.keyed30 Try.underlying78 (zero4 w) (plainElem_bool Try.underlying4 false) (key30 hx)
  obtain ⟨g1, g2⟩ := h3 x hx
  by_cases e : ∃ j, j < k ∧ t j = x
  · rw [g1 e] at hR
    refine ⟨true, ⟨fun _ => e, fun _ => rfl⟩, ?_⟩
    unfold plainElem at hR
    rw [Try.underlying4] at hR
    cases v <;> simp at hR
    obtain ⟨rfl, _⟩ := hR
    exact hrun
  · rw [g2 e] at hR
    refine ⟨false, ⟨fun h => (by cases h), fun h => absurd h e⟩, ?_⟩
    unfold plainElem at hR
    rw [Try.underlying4] at hR
    cases v <;> simp at hR
    obtain ⟨rfl, _⟩ := hR
    exact hrun

end Go.Proofs.Qxb6605253a
