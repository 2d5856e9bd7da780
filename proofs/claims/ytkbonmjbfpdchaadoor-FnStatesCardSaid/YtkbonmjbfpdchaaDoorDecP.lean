/- The decoder, plain: what a state's struct holds, and what it says of the bytes. No program in sight. -/
import Derived.Test.YtkbonmjbfpdchaaDoorPk
import Derived.Test.YtkbonmjbfpdchaaDoorLib
namespace Go.Dec
open Go.Pk Go.Trav
set_option linter.unusedVariables false
set_option linter.unusedSimpArgs false
/-- n bytes from the place a on. -/
def slc (D : List Nat) (a n : Nat) : List Nat := (D.drop a).take n
/-- An arc: its byte, its output, its address. -/
abbrev NA := Nat × Nat × Nat
def far (start t : Nat) : Nat := if t = 0 then 0 else start - t
inductive Desc
  | single (top bot ch : Nat) (nx : Bool) (ad out ts os : Nat)
  | multi (top bot s0 n ts os : Nat) (f : Bool)
def iI (n : Nat) : Value := .int .i64 (n : Int)
def obOf (s0 os : Nat) (f : Bool) : Nat := s0 + if f then os else 0
def dbOf (s0 n os : Nat) (f : Bool) : Nat := obOf s0 os f + n * os
def tbOf (s0 n ts os : Nat) (f : Bool) : Nat := dbOf s0 n os f + n * ts
def Desc.cells (dv : Value) : Desc → List Value
  | .single top bot ch nx ad out ts os => [dv, iI top, iI bot, iI 1, .int .u8 (ch : Int), .bool nx, .int .u64 (ad : Int), .int .u64 (out : Int), iI ts, iI os, .bool false, iI 0, iI 0, iI 0, iI 0, iI 0, iI 0, iI 0]
  | .multi top bot s0 n ts os f => [dv, iI top, iI bot, iI n, .int .u8 0, .bool false, .int .u64 0, .int .u64 0, iI ts, iI os, .bool f, iI (tbOf s0 n ts os f + n), iI (tbOf s0 n ts os f), iI (tbOf s0 n ts os f), iI (dbOf s0 n os f), iI (if os = 0 then 0 else dbOf s0 n os f), iI (if os = 0 then 0 else obOf s0 os f), iI (if os = 0 then 0 else if f then s0 else 0)]
/-- A struct's cells, from o on in block S. -/
def Cs (w : World) (S o : Nat) (cs : List Value) : Prop := ∀ (j : Nat) (u : Value), cs[j]? = some u → w.cell? ⟨S, o + j, none⟩ = some u ∧ w.frozen? ⟨S, o + j, none⟩ = false
theorem Cs.mod {F : Nat → Prop} {w w' : World} {S o : Nat} {cs : List Value} (h : Cs w S o cs) (hm : Mod F w w') (hS : ¬ F S) : Cs w' S o cs := by
  intro j u hj
  obtain ⟨h1, h2⟩ := h j u hj
  have hb : w'.heap[S]? = w.heap[S]? := hm.block S (World.block_lt_of_cell? w _ h1) hS
  refine ⟨(World.cell?_of_block (w := w) (a := ⟨S, o + j, none⟩) hb).trans h1, ?_⟩
  rw [← h2]
  simp only [World.frozen?, hb]
/-- What many arcs lie as: the last one's first. -/
structure SaysM (D : List Nat) (s0 n ts os : Nat) (f : Bool) (fo : Nat) (l : List NA) : Prop where
  len : l.length = n
  n256 : n ≤ 256
  keys : ∀ i x, l[i]? = some x → D[tbOf s0 n ts os f + (n - 1 - i)]? = some x.1
  dests : ∀ i x, l[i]? = some x → slc D (dbOf s0 n os f + (n - 1 - i) * ts) ts = packed (far s0 x.2.2) ts
  outs : ∀ i x, l[i]? = some x → slc D (obOf s0 os f + (n - 1 - i) * os) os = packed x.2.1 os
  fins : f = true → slc D s0 os = packed fo os
  ts8 : ts ≤ 8
  os8 : os ≤ 8
  arcs : ∀ x ∈ l, far s0 x.2.2 < 256 ^ ts ∧ x.2.1 < 256 ^ os ∧ x.1 < 256 ∧ (x.2.2 = 0 ∨ x.2.2 < s0)
  fol : fo < 256 ^ os
  fin : f = false → fo = 0
  up : l.Pairwise fun x y => x.1 < y.1
inductive Says (D : List Nat) : Desc → Bool → Nat → List NA → Prop
  | single (top bot : Nat) (nx : Bool) (ts os tv : Nat) (x : NA) (h : D[top]? = some tv) (h1 : 128 ≤ tv) (h2 : tv < 256) (h3 : x.1 < 256) : Says D (.single top bot x.1 nx x.2.2 x.2.1 ts os) false 0 [x]
  | multi (top bot s0 n ts os tv : Nat) (f : Bool) (fo : Nat) (l : List NA) (h : D[top]? = some tv) (h1 : tv < 128) (hb : n ≠ 0 → bot = s0) (hM : SaysM D s0 n ts os f fo l) (hi : tbOf s0 n ts os f + n ≤ D.length) : Says D (.multi top bot s0 n ts os f) f fo l
end Go.Dec
