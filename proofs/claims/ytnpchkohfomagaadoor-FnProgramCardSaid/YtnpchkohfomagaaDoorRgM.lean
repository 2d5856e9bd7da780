/- The states' cache: keys of bytes to numbers (plain). -/
import Derived.Test.YtnpchkohfomagaaDoorRgK
import Derived.Test.YtnpchkohfomagaaDoorRgB
import Derived.Maps.Views
namespace Go.Rg
open Go.Pk Go.Maps
set_option linter.unusedVariables false
theorem keyB_lt (K : List Nat) : ∀ x ∈ keyB K, x < 256 := by
  intro x hx
  obtain ⟨a, _, h⟩ := List.mem_flatMap.mp hx
  exact packed_lt _ _ x h
def klit (K : List Nat) : Lit := .string ((keyB K).map UInt8.ofNat)
theorem map_u8_inj : ∀ (a b : List Nat), (∀ x ∈ a, x < 256) → (∀ x ∈ b, x < 256) → a.map UInt8.ofNat = b.map UInt8.ofNat → a = b := by
  intro a
  induction a with
  | nil => intro b _ _ h; cases b with
    | nil => rfl
    | cons y r => simp at h
  | cons x t ih =>
    intro b ha hb h
    cases b with
    | nil => simp at h
    | cons y r =>
      simp only [List.map_cons, List.cons.injEq] at h
      have h1 := congrArg UInt8.toNat h.1
      simp only [UInt8.toNat_ofNat'] at h1
      have hx := ha x (by simp)
      have hy := hb y (by simp)
      have e : x = y := by omega
      subst e
      rw [ih r (fun z hz => ha z (by simp [hz])) (fun z hz => hb z (by simp [hz])) h.2]
theorem klit_inj {K L : List Nat} (hK : ∀ x ∈ K, x < 18446744073709551616) (hL : ∀ x ∈ L, x < 18446744073709551616) (h : klit K = klit L) : K = L := by
  unfold klit at h
  exact keyB_inj K L hK hL (map_u8_inj _ _ (keyB_lt K) (keyB_lt L) (by injection h))
/-- The cache knows just the states that there are. -/
structure CacheIs (D : DataW Unit) (Ks : List (List Nat)) : Prop where
  im : IsMap D
  yes : ∀ (i : Nat) K, Ks[i]? = some K → has D (klit K) = true ∧ ∀ z, D.atKey (klit K) z = .lit (.int .i64 ((i : Int) + 1))
  no : ∀ K, K ∉ Ks → (∀ x ∈ K, x < 18446744073709551616) → has D (klit K) = false
theorem cache_new : CacheIs (.map []) [] := ⟨⟨[], rfl⟩, by simp, fun _ _ _ => rfl⟩
theorem CacheIs.put {D : DataW Unit} {Ks : List (List Nat)} (h : CacheIs D Ks) (hK : ∀ K ∈ Ks, ∀ x ∈ K, x < 18446744073709551616) {K : List Nat} (h0 : ∀ x ∈ K, x < 18446744073709551616) (hn : K ∉ Ks) :
    CacheIs (D.put (klit K) (.lit (.int .i64 ((Ks.length : Int) + 1)))) (Ks ++ [K]) := by
  have hk : WideAt.IsKeyLit (klit K) := by unfold klit; trivial
  refine ⟨h.im.put _ _, fun i L hi => ?_, fun L hL hx => ?_⟩
  · by_cases hl : i < Ks.length
    · rw [List.getElem?_append_left hl] at hi
      have hm := List.mem_of_getElem? hi
      have hne : klit L ≠ klit K := fun e => hn (klit_inj (hK L hm) h0 e ▸ hm)
      obtain ⟨h1, h2⟩ := h.yes i L hi
      exact ⟨by rw [has_put_other hne]; exact h1, fun z => by rw [atKey_put_other hne]; exact h2 z⟩
    · rw [List.getElem?_append_right (by omega)] at hi
      have : i = Ks.length := by have := (List.getElem?_eq_some_iff.mp hi).1; simp at this; omega
      subst this
      simp at hi; subst hi
      exact ⟨has_put_same h.im hk _, fun z => atKey_put_same h.im hk _ _⟩
  · have h1 : L ∉ Ks := fun m => hL (by simp [m])
    have h2 : L ≠ K := fun e => hL (by simp [e])
    have hne : klit L ≠ klit K := fun e => h2 (klit_inj hx h0 e)
    rw [has_put_other hne]; exact h.no L h1 hx
end Go.Rg
