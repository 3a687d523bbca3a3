/-
  The law's body, cut at some regions; what the tails are handed.
-/
import Derived.Test.YbulkuoW
import Derived.Deep.Cut
namespace Go.Proofs.Ybulkuo
open Go.Shelf Go.RowKit Go.Lib Go.Sort

/-- The region of number k on the body's spine, and what follows it. -/
def cutAt (k : Nat) : Code → Option (Code × Code)
  | .seq (.region j ops d) b => if j = k then some (.region j ops d, b) else cutAt k b
  | .seq _ b => cutAt k b
  | _ => none

def regOf (b : Option Code) (k : Nat) : Code := (((b.bind (cutAt k)).map (·.1)).getD .skip)
def restOf (b : Option Code) (k : Nat) : Code := (((b.bind (cutAt k)).map (·.2)).getD .skip)

/-- A row of bytes as it came: its slice value and its bytes. -/
def Row (w : World) (v : Value) (x : List Nat) : Prop :=
  ∃ a c, v = .slice a x.length c ∧ (0 < x.length → ∃ b o, a = some ⟨b, o, none⟩ ∧ b < w.heap.size ∧ ∀ j, (h : j < x.length) → w.cell? ⟨b, o + j, none⟩ = some (.int .u8 ((x[j] : Nat) : Int)) ∧ x[j] < 256)

/-- The rows as they came. -/
def Rows2 (w : World) (a : Option Addr) (X : List (List Nat)) : Prop :=
  0 < X.length → ∃ b o, a = some ⟨b, o, none⟩ ∧ b < w.heap.size ∧ ∀ i, (h : i < X.length) → ∃ v, w.cell? ⟨b, o + i, none⟩ = some v ∧ Row w v X[i]

theorem Row.later {w w' : World} {v : Value} {x : List Nat} (h : Row w v x) (hb : Below w.heap.size w w') : Row w' v x := by
  obtain ⟨a, c, e, hx⟩ := h
  refine ⟨a, c, e, fun h0 => ?_⟩
  obtain ⟨b, o, ea, hl, hc⟩ := hx h0
  exact ⟨b, o, ea, Nat.lt_of_lt_of_le hl hb.size, fun j hj => ⟨(World.cell?_of_block (a := ⟨b, o + j, none⟩) (hb.block b hl)).trans (hc j hj).1, (hc j hj).2⟩⟩

theorem Rows2.later {w w' : World} {a : Option Addr} {X : List (List Nat)} (h : Rows2 w a X) (hb : Below w.heap.size w w') : Rows2 w' a X := fun h0 => by
  obtain ⟨b, o, ea, hl, hc⟩ := h h0
  refine ⟨b, o, ea, Nat.lt_of_lt_of_le hl hb.size, fun i hi => ?_⟩
  obtain ⟨v, hv, hr⟩ := hc i hi
  exact ⟨v, (World.cell?_of_block (a := ⟨b, o + i, none⟩) (hb.block b hl)).trans hv, hr.later hb⟩

/-- The peers that a row of bytes asks. -/
def ps (x : List Nat) : List (Option (Fin 3)) := x.map fun v => some ⟨v % 3, Nat.mod_lt _ (by omega)⟩

/-- What is stay of them. -/
def stay (t : Bool) (x : List Nat) : List (Option (Fin 3)) := if t then out (ps x) else ps x

theorem stay_append (t : Bool) (x y : List Nat) : stay t (x ++ y) = stay t x ++ stay t y := by
  unfold stay ps out
  split <;> simp

theorem stay_one (t : Bool) (v : Nat) : stay t [v] = if (t && (v % 3 == 0)) = true then [] else [some ⟨v % 3, Nat.mod_lt _ (by omega)⟩] := by
  unfold stay ps out
  cases t
  · simp
  · by_cases e : v % 3 = 0
    · simp [e]
    · have : ¬ ((⟨v % 3, Nat.mod_lt _ (by omega)⟩ : Fin 3) = 0) := fun h => e (by simpa using congrArg Fin.val h)
      simp [e, this]

/-- The k-th byte of the row in what is stay. -/
theorem stay_at (t : Bool) (x : List Nat) (k : Nat) (hk : k < x.length) (hne : (t && (x[k] % 3 == 0)) = false) :
    (stay t (x.take k)).length < (stay t x).length ∧ (stay t x)[(stay t (x.take k)).length]? = some (some ⟨x[k] % 3, Nat.mod_lt _ (by omega)⟩) := by
  have e : x = x.take k ++ ([x[k]] ++ x.drop (k + 1)) := by simp
  have e2 : stay t x = stay t (x.take k) ++ ([some ⟨x[k] % 3, Nat.mod_lt _ (by omega)⟩] ++ stay t (x.drop (k + 1))) := by
    conv => lhs; rw [e]
    rw [stay_append, stay_append, stay_one, if_neg (by rw [hne]; simp)]
  rw [e2]
  constructor
  · simp
  · simp

theorem stay_take_succ (t : Bool) (x : List Nat) (k : Nat) (hk : k < x.length) :
    (stay t (x.take (k + 1))).length = (stay t (x.take k)).length + (if (t && (x[k] % 3 == 0)) = true then 0 else 1) := by
  rw [List.take_succ_eq_append_getElem hk, stay_append, stay_one]
  split <;> simp

/-- What the law says of the ending. -/
def Post (w0 : World) (e : Ending) (w' : World) : Prop := e = .returned (.bool true) ∧ Below w0.heap.size w0 w'

end Go.Proofs.Ybulkuo
