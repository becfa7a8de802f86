/-
  Seat b6277aF: a rope's nodes as plain lists.
-/
import Derived.Test.YbulkdyyyFmtLoop
namespace Go.Proofs.YbulkdyyyFmt
open Go.RowKit
set_option linter.unusedVariables false

/-- A line: its position's slice, its clock, its text. -/
structure Ln where
  a : Option Addr
  n : Nat
  c : Nat
  clock : Int
  text : ByteArray
def Ln.cells (x : Ln) : List Value := [.slice x.a x.n x.c, .int .u32 x.clock, .string x.text]
/-- A run of clock values. -/
structure Rn where
  first : Int
  last : Int
def Rn.cells (x : Rn) : List Value := [.int .u32 x.first, .int .u32 x.last]
def ptrCells (b : Nat) : List Value := [.pointer (some ⟨b, 0, none⟩)]
def intCells (n : Nat) : List Value := [.int .i64 n]

theorem ln_len (x : Ln) : x.cells.length = 3 := rfl
theorem rn_len (x : Rn) : x.cells.length = 2 := rfl
theorem ptr_len (x : Nat) : (ptrCells x).length = 1 := rfl
theorem int_len (x : Nat) : (intCells x).length = 1 := rfl
theorem ln_one (x : Ln) : ∀ u ∈ x.cells, u.oneCell' = true := by simp [Ln.cells]; exact ⟨rfl, rfl, rfl⟩
theorem rn_one (x : Rn) : ∀ u ∈ x.cells, u.oneCell' = true := by simp [Rn.cells]; exact ⟨rfl, rfl⟩
theorem ptr_one (x : Nat) : ∀ u ∈ ptrCells x, u.oneCell' = true := by simp [ptrCells]; rfl
theorem int_one (x : Nat) : ∀ u ∈ intCells x, u.oneCell' = true := by simp [intCells]; rfl

/-- Box fb and its row lie at or behind B. -/
structure Far (B fb : Nat) (W : World) : Prop where
  box : B ≤ fb
  row : ∀ k, boxBlk W fb = some k → B ≤ k

theorem Far.kb {B fb : Nat} {W W' : World} (h : Far B fb W) (hk : Kb fb W W') (hB : B ≤ W.heap.size) : Far B fb W' :=
  ⟨h.box, fun k e => by
    rcases hk.new k e with e1 | e1
    · exact h.row k e1
    · omega⟩
theorem Kb.kept {B fb : Nat} {W W' : World} (h : Kb fb W W') (hF : Far B fb W) : Kept (fun k => B ≤ k) W W' :=
  ⟨h.os, h.tape, h.output, h.size, fun k hk hg => h.eqv hk (by have := hF.box; omega) (fun e => hg (hF.row k e))⟩

section
variable {α : Type} (f : α → List Value) (s : Nat)
/-- Block b is a leaf that holds these values; it lies below B. -/
def Leaf (B : Nat) (w : World) (b : Nat) (vs : List α) : Prop :=
  ∃ a c, b < B ∧ (∀ k, blkOf a = some k → k < B) ∧ Blk w b #[.slice a vs.length c, .slice none 0 0, .slice none 0 0, .slice none 0 0, .slice none 0 0] ∧ Row f s w a vs.length c vs

/-- Block b is a node over these leaves; it lies below B. -/
def Inner (B : Nat) (w : World) (b : Nat) (vss : List (List α)) : Prop :=
  ∃ ak ck az cs aw cw al cl bs ls, (b < B ∧ (∀ k, blkOf ak = some k → k < B) ∧ (∀ k, blkOf az = some k → k < B) ∧ (∀ k, blkOf al = some k → k < B)) ∧
    Blk w b #[.slice none 0 0, .slice ak vss.length ck, .slice az vss.length cs, .slice aw vss.length cw, .slice al vss.length cl] ∧
    Row ptrCells 1 w ak vss.length ck bs ∧ Row intCells 1 w az vss.length cs (vss.map List.length) ∧ Row f s w al vss.length cl ls ∧
    (∀ (i : Nat) (v : α) (vs : List α), ls[i]? = some v → vss[i]? = some vs → vs.getLast? = some v) ∧ ∀ (i b' : Nat) (vs : List α), bs[i]? = some b' → vss[i]? = some vs → Leaf f s B w b' vs
end

section
variable {α : Type} {f : α → List Value} {s B : Nat} {w w' : World} {b : Nat} {vs : List α} {vss : List (List α)}
theorem Leaf.kept (h : Leaf f s B w b vs) (hk : Kept (fun k => B ≤ k) w w') : Leaf f s B w' b vs := by
  obtain ⟨a, c, h1, h2, h3, h4⟩ := h
  exact ⟨a, c, h1, h2, h3.kept hk (by omega), h4.kept hk (fun k e => by have := h2 k e; omega)⟩
theorem Leaf.mono (h : Leaf f s B w b vs) {B' : Nat} (hB : B ≤ B') : Leaf f s B' w b vs := by
  obtain ⟨a, c, h1, h2, h3, h4⟩ := h
  exact ⟨a, c, by omega, fun k e => by have := h2 k e; omega, h3, h4⟩
theorem Inner.kept (h : Inner f s B w b vss) (hk : Kept (fun k => B ≤ k) w w') : Inner f s B w' b vss := by
  obtain ⟨ak, ck, az, cs, aw, cw, al, cl, bs, ls, ⟨h1, h2, h3, h4⟩, h5, h6, h7, h8, h9, h10⟩ := h
  exact ⟨ak, ck, az, cs, aw, cw, al, cl, bs, ls, ⟨h1, h2, h3, h4⟩, h5.kept hk (by omega), h6.kept hk (fun k e => by have := h2 k e; omega), h7.kept hk (fun k e => by have := h3 k e; omega), h8.kept hk (fun k e => by have := h4 k e; omega), h9,
    fun i b' vs e1 e2 => (h10 i b' vs e1 e2).kept hk⟩
end

/-- The values with their places, from i on. -/
def idx {α : Type} : Int → List α → List (Int × α)
  | _, [] => []
  | i, v :: r => (i, v) :: idx (i + 1) r

theorem idx_snoc {α : Type} : ∀ (vs : List α) (i : Int) (v : α), idx i (vs ++ [v]) = idx i vs ++ [(i + vs.length, v)]
  | [], i, v => by simp [idx]
  | x :: r, i, v => by
    rw [List.cons_append, idx, idx, idx_snoc r (i + 1) v]
    simp
    omega
theorem idx_append {α : Type} : ∀ (us vs : List α) (i : Int), idx i (us ++ vs) = idx i us ++ idx (i + us.length) vs
  | [], vs, i => by simp [idx]
  | x :: r, vs, i => by
    rw [List.cons_append, idx, idx, idx_append r vs (i + 1)]
    simp
    congr 1
    omega
theorem idx_map {α : Type} : ∀ (vs : List α) (i : Int), (idx i vs).map Prod.snd = vs
  | [], i => rfl
  | x :: r, i => by simp [idx, idx_map r (i + 1)]
theorem take_snoc {α : Type} {vs : List α} {k : Nat} {x : α} (hx : vs[k]? = some x) : vs.take (k + 1) = vs.take k ++ [x] := by
  rw [List.take_add_one, hx]; rfl
theorem prefix_idx {α : Type} {pre XS : List (Int × α)} {vs : List α} {i : Int} {k : Nat} {x : α} (h : pre ++ idx i vs <+: XS) (hx : vs[k]? = some x) :
    (pre ++ idx i (vs.take k)) ++ [(i + k, x)] <+: XS ∧ pre ++ idx i (vs.take (k + 1)) = (pre ++ idx i (vs.take k)) ++ [(i + k, x)] := by
  have hk : k < vs.length := (List.getElem?_eq_some_iff.1 hx).1
  have e : pre ++ idx i (vs.take (k + 1)) = (pre ++ idx i (vs.take k)) ++ [(i + k, x)] := by
    rw [take_snoc hx, idx_snoc, List.length_take, Nat.min_eq_left (by omega), List.append_assoc]
  refine ⟨?_, e⟩
  rw [← e]
  refine List.IsPrefix.trans ?_ h
  conv => rhs; rw [← List.take_append_drop (k + 1) vs, idx_append, ← List.append_assoc]
  exact List.prefix_append _ _

end Go.Proofs.YbulkdyyyFmt
