/-
  Seat b6272aD: the node's map of reserved rooms, as the list of the model's pairs.
-/
import Derived.Test.YbulkdywgDoorRow
import Derived.Maps.OwnSet
import Derived.Maps.StringElems
import Derived.DeepKeys4
namespace Go.Proofs.YbulkdywgDoor
open Go.RowKit Go.Maps
set_option linter.unusedVariables false
set_option maxRecDepth 100000

theorem laid : laidOutB Ybad.prog = true := by kernel_rfl
theorem row43 : (43 : TypeId) < Ybad.prog.types.size := of_decide_eq_true (by kernel_rfl)
theorem wide43 : (match Ybad.prog.underlying 43 with | some (.array _ _) | some (.struct _) => true | _ => false) = true := by kernel_rfl
theorem key43 : Keyed Ybad.prog 43 := Keyed.of_law (deep_law_laid laid (m := 3) (by omega) row43 (by kernel_rfl) wide43)
theorem und39 : Ybad.prog.underlying 39 = some (.map 43 9) := by kernel_rfl
theorem und9 : Ybad.prog.underlying 9 = some .string := by kernel_rfl
theorem zero9 (w : World) : (zeroValue 9).run Ybad.prog w = .ok (.string ⟨#[]⟩) w := by kernel_rfl

def opV (o q : Int) : Value := .agg #[.int .i32 o, .int .u32 q]
def In4 (o q : Int) : Prop := (0 ≤ o ∧ o < 4) ∧ 0 ≤ q ∧ q < 4
def klP (P : Program) (o q : Int) : Lit := (keyOf P 43 (opV o q)).getD (.bool false)

theorem kl_key {o q : Int} (h : In4 o q) : keyOf Ybad.prog 43 (opV o q) = some (klP Ybad.prog o q) := by
  have h0 : (keyOf Ybad.prog 43 (opV o q)).isSome = true := by
    obtain ⟨⟨h1, h2⟩, h3, h4⟩ := h
    have e1 : o = 0 ∨ o = 1 ∨ o = 2 ∨ o = 3 := by omega
    have e2 : q = 0 ∨ q = 1 ∨ q = 2 ∨ q = 3 := by omega
    rcases e1 with rfl | rfl | rfl | rfl <;> rcases e2 with rfl | rfl | rfl | rfl <;> exact (show Option.isSome _ = true from by kernel_rfl)
  unfold klP
  cases hk : keyOf Ybad.prog 43 (opV o q) with
  | none => rw [hk] at h0; cases h0
  | some l => rfl

theorem kl_inj {o q o' q' : Int} (h : In4 o q) (h' : In4 o' q') (e : klP Ybad.prog o q = klP Ybad.prog o' q') : o = o' ∧ q = q' := by
  have := key43.inj (kl_key h) ((kl_key h').trans (by rw [e]))
  simpa [opV] using this

def isOp (o q : Int) (p : Pr) : Bool := decide (p.o = o ∧ p.q = q)
def delR (res : List Pr) (o q : Int) : List Pr := res.filter (fun p => !isOp o q p)
def setR (res : List Pr) (o q : Int) (key : ByteArray) : List Pr := if res.any (isOp o q) then res.map (fun p => if isOp o q p then ⟨o, q, key⟩ else p) else res ++ [⟨o, q, key⟩]

structure Fine (res : List Pr) : Prop where
  in4 : ∀ p ∈ res, In4 p.o p.q ∧ p.key.size ≤ maxLen
  apart : res.Pairwise (fun p p' => ¬ (p.o = p'.o ∧ p.q = p'.q))

theorem isOp_iff {o q : Int} {p : Pr} : isOp o q p = true ↔ p.o = o ∧ p.q = q := by simp [isOp]

theorem Fine.nil : Fine [] := ⟨by simp, List.Pairwise.nil⟩
theorem Fine.del {res : List Pr} (h : Fine res) (o q : Int) : Fine (delR res o q) :=
  ⟨fun p hp => h.in4 p (List.mem_filter.1 hp).1, h.apart.filter _⟩
theorem Fine.snoc {res : List Pr} (h : Fine res) {o q : Int} {key : ByteArray} (h4 : In4 o q) (hs : key.size ≤ maxLen) (hn : res.any (isOp o q) = false) : Fine (res ++ [⟨o, q, key⟩]) := by
  refine ⟨fun p hp => ?_, ?_⟩
  · rcases List.mem_append.1 hp with hp | hp
    · exact h.in4 p hp
    · simp at hp; subst hp; exact ⟨h4, hs⟩
  · rw [List.pairwise_append]
    refine ⟨h.apart, by simp, fun p hp p' hp' => ?_⟩
    simp at hp'
    subst hp'
    intro e
    have : res.any (isOp o q) = true := List.any_eq_true.2 ⟨p, hp, isOp_iff.2 e⟩
    rw [hn] at this
    cases this
theorem Fine.set {res : List Pr} (h : Fine res) {o q : Int} {key : ByteArray} (h4 : In4 o q) (hs : key.size ≤ maxLen) : Fine (setR res o q key) := by
  unfold setR
  split
  · refine ⟨fun p hp => ?_, ?_⟩
    · obtain ⟨x, hx, rfl⟩ := List.mem_map.1 hp
      split
      · exact ⟨h4, hs⟩
      · exact h.in4 x hx
    · rw [List.pairwise_map]
      refine pairMap (fun a b hab => ?_) h.apart
      have e : ∀ x : Pr, (if isOp o q x then (⟨o, q, key⟩ : Pr) else x).o = x.o ∧ (if isOp o q x then (⟨o, q, key⟩ : Pr) else x).q = x.q := fun x => by
        split
        · rename_i hx; exact ⟨(isOp_iff.1 hx).1.symm, (isOp_iff.1 hx).2.symm⟩
        · exact ⟨rfl, rfl⟩
      rw [(e a).1, (e a).2, (e b).1, (e b).2]
      exact hab
  · rename_i hno
    exact h.snoc h4 hs (Bool.eq_false_iff.2 hno)

/-- The datum is the list. -/
structure Agree (D : DataW Unit) (res : List Pr) : Prop where
  size : Maps.size D = res.length
  has : ∀ o q, In4 o q → Maps.has D (klP Ybad.prog o q) = res.any (isOp o q)
  at_ : ∀ p ∈ res, D.atKey (klP Ybad.prog p.o p.q) (.lit (.string [])) = .lit (.string p.key.data.toList)

/-- Block b is the map that holds these pairs. -/
def RMap (w : World) (b n : Nat) (res : List Pr) : Prop := Fine res ∧ ∃ D, w.ownsMap Ybad.prog 43 (plainElem (H := Unit) Ybad.prog 9) b n D ∧ Agree D res

theorem RMap.lt {w : World} {b n : Nat} {res : List Pr} (h : RMap w b n res) : b < w.heap.size := by
  obtain ⟨_, D, h, _⟩ := h
  exact h.lt
theorem RMap.eqv {w w' : World} {b n : Nat} {res : List Pr} (h : RMap w b n res) (he : w'.heap[b]? = w.heap[b]?) : RMap w' b n res := by
  obtain ⟨hf, D, ⟨es, clock, h1, h2⟩, h3⟩ := h
  exact ⟨hf, D, ⟨es, clock, he.trans h1, h2⟩, h3⟩
theorem RMap.kept {G : Nat → Prop} {w w' : World} {b n : Nat} {res : List Pr} (h : RMap w b n res) (hk : Kept G w w') (hb : ¬ G b) : RMap w' b n res := h.eqv (hk.block b h.lt hb)
theorem RMap.grown {row : Option Nat} {w w' : World} {b n : Nat} {res : List Pr} (h : RMap w b n res) (hk : w.grownBy w' row) (hb : some b ≠ row) : RMap w' b n res := h.eqv (hk.block b h.lt hb)
theorem RMap.alloc {w : World} {b n : Nat} {res : List Pr} (h : RMap w b n res) (o : Obj) : RMap (w.alloc o) b n res := h.eqv (Below.heap_alloc _ _ _ h.lt)
theorem RMap.other {w : World} {b n : Nat} {res : List Pr} (h : RMap w b n res) {b' : Nat} (hb : b ≠ b') (k : Nat) (v : Value) : RMap (w.setCell ⟨b', k, none⟩ v) b n res := h.eqv (heap_setCell_other w _ b v hb)
theorem RMap.mono {w : World} {b n n' : Nat} {res : List Pr} (h : RMap w b n res) (hn : n ≤ n') : RMap w b n' res := by
  obtain ⟨hf, D, h1, h2⟩ := h
  exact ⟨hf, D, h1.mono hn, h2⟩

theorem RMap.made (w : World) : RMap (w.alloc (.map #[] 0)) w.heap.size 0 [] :=
  ⟨Fine.nil, _, World.ownsMap_made w _ _ _, rfl, fun o q h => by simp [has_eq], by simp⟩

/-- What a look-up of op brings. -/
def lookR (res : List Pr) (o q : Int) : ByteArray := ((res.find? (isOp o q)).map (·.key)).getD ⟨#[]⟩

theorem RMap.look {w : World} {b n : Nat} {res : List Pr} (h : RMap w b n res) {o q : Int} (h4 : In4 o q) :
    (Instr.lookup 39 (.map (some b)) (opV o q) true).run Ybad.prog w = .ok (.tuple #[.string (lookR res o q), .bool (res.any (isOp o q))]) w := by
  obtain ⟨hf, D, h1, h2⟩ := h
  obtain ⟨v, ps, hrun, hv⟩ := h1.look_ok key43 und39 (zero9 w) (plainElem_string und9 (by simp [ByteArray.size])) (kl_key h4)
  obtain ⟨s, rfl, hs, _⟩ := plainElem_string_inv und9 hv
  rw [hrun, h2.has o q h4]
  have hs1 : D.atKey (klP Ybad.prog o q) (.lit (.string [])) = .lit (.string s.data.toList) := congrArg Prod.fst hs
  suffices s = lookR res o q by rw [this]
  unfold lookR
  cases hfd : res.find? (isOp o q) with
  | none =>
    have hno : res.any (isOp o q) = false := by
      rw [List.any_eq_false]
      exact fun p hp => List.find?_eq_none.1 hfd p hp
    rw [← h2.has o q h4] at hno
    rw [atKey_of_not_has hno] at hs1
    simp at hs1
    obtain ⟨⟨d⟩⟩ := s
    simp_all
  | some p =>
    have hp := List.mem_of_find?_eq_some hfd
    have ho := List.find?_some hfd
    obtain ⟨rfl, rfl⟩ := isOp_iff.1 ho
    rw [h2.at_ p hp] at hs1
    simp at hs1
    simp
    obtain ⟨d⟩ := s
    obtain ⟨o1, q1, ⟨k1⟩⟩ := p
    simp_all

theorem RMap.len {w : World} {b n : Nat} {res : List Pr} (h : RMap w b n res) (ty : TypeId) : (Builtin.len_ #[39] ty #[.map (some b)]).run Ybad.prog w = .ok (.int .i64 res.length) w := by
  obtain ⟨hf, D, h1, h2⟩ := h
  rw [h1.len und39 ty, h2.size]

theorem RMap.length_le {w : World} {b n : Nat} {res : List Pr} (h : RMap w b n res) : res.length ≤ n := by
  obtain ⟨hf, D, h1, h2⟩ := h
  rw [← h2.size]
  exact h1.size_le

theorem length_del {res : List Pr} (h : Fine res) (o q : Int) : (delR res o q).length + (if res.any (isOp o q) then 1 else 0) = res.length := by
  have key : ∀ l : List Pr, l.Pairwise (fun p p' => ¬ (p.o = p'.o ∧ p.q = p'.q)) → (delR l o q).length + (if l.any (isOp o q) then 1 else 0) = l.length := by
    intro l
    induction l with
    | nil => intro _; rfl
    | cons p r ih =>
      intro hp
      rw [List.pairwise_cons] at hp
      have ih := ih hp.2
      unfold delR at ih ⊢
      by_cases ho : isOp o q p = true
      · have hno : r.any (isOp o q) = false := by
          rw [List.any_eq_false]
          intro p' hp' he
          have h1 := isOp_iff.1 ho
          have h2 := isOp_iff.1 he
          exact hp.1 p' hp' ⟨h1.1.trans h2.1.symm, h1.2.trans h2.2.symm⟩
        simp [ho, hno] at ih ⊢
        exact ih
      · simp only [Bool.not_eq_true] at ho
        simp [ho] at ih ⊢
        omega
  exact key res h.apart

theorem RMap.del {w : World} {b n : Nat} {res : List Pr} (h : RMap w b n res) {o q : Int} (h4 : In4 o q) (ty : TypeId) :
    ∃ w', (Builtin.delete_ #[39, 43] ty #[.map (some b), opV o q]).run Ybad.prog w = .ok (.tuple #[]) w' ∧ RMap w' b n (delR res o q) ∧ w.grownBy w' (some b) ∧ w'.heap.size = w.heap.size := by
  obtain ⟨hf, D, h1, h2⟩ := h
  obtain ⟨w', hrun, r1, r2⟩ := h1.drop key43 und39 (kl_key h4) ty
  refine ⟨w', hrun, ⟨hf.del o q, _, r1, ?_, fun o' q' h' => ?_, fun p hp => ?_⟩, r2.grown, ?_⟩
  · have e1 := size_del (k := klP Ybad.prog o q) (h1.tidy key43)
    have e2 := length_del hf o q
    rw [h2.has o q h4, h2.size] at e1
    omega
  · by_cases he : o' = o ∧ q' = q
    · obtain ⟨rfl, rfl⟩ := he
      rw [has_del_same]
      symm
      rw [List.any_eq_false]
      intro p hp
      have := (List.mem_filter.1 hp).2
      simpa using this
    · rw [has_del_other (fun e => he (kl_inj h' h4 e)), h2.has o' q' h']
      unfold delR
      rw [any_filter_keep]
      intro p hp
      have := isOp_iff.1 hp
      simp only [Bool.not_eq_true', isOp, decide_eq_false_iff_not]
      intro hh
      exact he ⟨this.1.symm.trans hh.1, this.2.symm.trans hh.2⟩
  · have hm := List.mem_filter.1 hp
    rw [atKey_del_other, h2.at_ p hm.1]
    intro e
    have := kl_inj (hf.in4 p hm.1).1 h4 e
    have hx := hm.2
    simp [isOp, this.1, this.2] at hx
  · obtain ⟨_, _, _, _, _, rfl⟩ := r2
    simp [ChangeMaps.setBlock]

theorem RMap.put {w : World} {b n : Nat} {res : List Pr} (h : RMap w b n res) {o q : Int} {key : ByteArray} (h4 : In4 o q) (hs : key.size ≤ maxLen) (hn : n < maxLen) :
    ∃ w', (Instr.mapUpdate 39 (.map (some b)) (opV o q) (.string key)).run Ybad.prog w = .ok () w' ∧ RMap w' b (n + 1) (setR res o q key) ∧ w.grownBy w' (some b) ∧ w'.heap.size = w.heap.size := by
  obtain ⟨hf, D, h1, h2⟩ := h
  obtain ⟨w', hrun, r1, r2⟩ := h1.store key43 und39 hn (kl_key h4) (plainElem_string und9 hs)
  have hkl := key43.key (kl_key h4)
  refine ⟨w', hrun, ⟨hf.set h4 hs, _, r1, ?_, fun o' q' h' => ?_, fun p hp => ?_⟩, r2.grown, ?_⟩
  · rw [size_put (h1.tidy key43), h2.has o q h4, h2.size]
    unfold setR
    split <;> simp
  · have hh : (setR res o q key).any (isOp o' q') = if o' = o ∧ q' = q then true else res.any (isOp o' q') := by
      unfold setR
      split
      · rename_i hany
        by_cases he : o' = o ∧ q' = q
        · obtain ⟨rfl, rfl⟩ := he
          rw [if_pos ⟨rfl, rfl⟩, List.any_map]
          obtain ⟨p, hp, ho⟩ := List.any_eq_true.1 hany
          exact List.any_eq_true.2 ⟨p, hp, by simp only [Function.comp, ho, if_true]; exact isOp_iff.2 ⟨rfl, rfl⟩⟩
        · rw [if_neg he, List.any_map]
          congr 1
          funext p
          simp only [Function.comp]
          split
          · rename_i ho
            have := isOp_iff.1 ho
            simp only [isOp, this.1, this.2]
          · rfl
      · rw [List.any_append]
        by_cases he : o' = o ∧ q' = q
        · obtain ⟨rfl, rfl⟩ := he
          simp [isOp]
        · have : isOp o' q' ⟨o, q, key⟩ = false := by
            simp only [isOp, decide_eq_false_iff_not]
            exact fun e => he ⟨e.1.symm, e.2.symm⟩
          simp [this, he]
    rw [hh]
    by_cases he : o' = o ∧ q' = q
    · obtain ⟨rfl, rfl⟩ := he
      rw [has_put_same h1.isMap hkl, if_pos ⟨rfl, rfl⟩]
    · rw [has_put_other (fun e => he (kl_inj h' h4 e)), h2.has o' q' h', if_neg he]
  · have hold : ∀ x ∈ res, isOp o q x = false → (D.put (klP Ybad.prog o q) (.lit (.string key.data.toList))).atKey (klP Ybad.prog x.o x.q) (.lit (.string [])) = .lit (.string x.key.data.toList) := fun x hx ho => by
      rw [atKey_put_other, h2.at_ x hx]
      intro e
      have := kl_inj (hf.in4 x hx).1 h4 e
      simp [isOp, this.1, this.2] at ho
    unfold setR at hp
    split at hp
    · obtain ⟨x, hx, rfl⟩ := List.mem_map.1 hp
      by_cases ho : isOp o q x = true
      · rw [if_pos ho]
        exact atKey_put_same h1.isMap hkl _ _
      · rw [if_neg ho]
        exact hold x hx (by simpa using ho)
    · rename_i hany
      rcases List.mem_append.1 hp with hp | hp
      · refine hold p hp ?_
        simp only [Bool.not_eq_true, List.any_eq_false] at hany
        simpa using hany p hp
      · simp at hp
        subst hp
        exact atKey_put_same h1.isMap hkl _ _
  · obtain ⟨_, _, _, _, _, rfl⟩ := r2
    simp [ChangeMaps.setBlock]

/-! ### the model's list is the same -/
theorem riOf_some {res : List Pr} {o q : Int} {j : Nat} {x : Pr} (hx : res[j]? = some x) (he : x.o = o ∧ x.q = q) (hn : ∀ i y, i < j → res[i]? = some y → ¬ (y.o = o ∧ y.q = q)) : riOf res o q = j := by
  have : res.findIdx? (fun x => decide (x.o = o ∧ x.q = q)) = some j := by
    rw [List.findIdx?_eq_some_iff_getElem]
    obtain ⟨hk, rfl⟩ := List.getElem?_eq_some_iff.1 hx
    exact ⟨hk, by simpa using he, fun i hi => by simpa using hn i _ hi (by simp [Nat.lt_trans hi hk])⟩
  unfold riOf
  rw [this]
theorem riOf_none {res : List Pr} {o q : Int} (hn : ∀ j y, j < res.length → res[j]? = some y → ¬ (y.o = o ∧ y.q = q)) : riOf res o q = -1 := by
  have : res.findIdx? (fun x => decide (x.o = o ∧ x.q = q)) = none := by
    rw [List.findIdx?_eq_none_iff]
    intro x hx
    obtain ⟨j, hj, rfl⟩ := List.getElem_of_mem hx
    simpa using hn j _ hj (by simp)
  unfold riOf
  rw [this]

/-- What riOf says: no such pair; or its place. -/
theorem riOf_cases {res : List Pr} (hf : Fine res) (o q : Int) :
    (riOf res o q = -1 ∧ res.any (isOp o q) = false ∧ delR res o q = res) ∨
    ∃ (j : Nat) (x : Pr), riOf res o q = (j : Int) ∧ res[j]? = some x ∧ x.o = o ∧ x.q = q ∧ res.any (isOp o q) = true ∧ lookR res o q = x.key ∧ delR res o q = res.take j ++ res.drop (j + 1) ∧ ∀ key, setR res o q key = res.set j ⟨o, q, key⟩ := by
  have h2 := hf.apart
  clear hf
  induction res with
  | nil => exact .inl ⟨rfl, rfl, rfl⟩
  | cons p r ih =>
    rw [List.pairwise_cons] at h2
    by_cases ho : isOp o q p = true
    · have hpe := isOp_iff.1 ho
      have hno : ∀ p' ∈ r, isOp o q p' = false := fun p' hp' => by
        rw [← Bool.not_eq_true]
        intro he
        have h2' := isOp_iff.1 he
        exact h2.1 p' hp' ⟨hpe.1.trans h2'.1.symm, hpe.2.trans h2'.2.symm⟩
      have hfil : delR r o q = r := List.filter_eq_self.2 (fun p' hp' => by simp [hno p' hp'])
      refine .inr ⟨0, p, riOf_some (j := 0) rfl hpe (fun i y hi => by omega), rfl, hpe.1, hpe.2, by simp [ho], by simp [lookR, ho], ?_, fun key => ?_⟩
      · simpa [delR, ho] using hfil
      · simp only [setR, List.any_cons, ho, Bool.true_or, if_true, List.map_cons, List.set_cons_zero, List.cons.injEq, true_and]
        conv => rhs; rw [← List.map_id r]
        exact List.map_congr_left (fun p' hp' => by simp [hno p' hp'])
    · simp only [Bool.not_eq_true] at ho
      have hpn : ¬ (p.o = o ∧ p.q = q) := fun e => by rw [isOp_iff.2 e] at ho; cases ho
      rcases ih h2.2 with ⟨e1, e2, e3⟩ | ⟨j, x, e1, e2, e3, e4, e5, e6, e7, e8⟩
      · refine .inl ⟨riOf_none (fun j y hj hy => ?_), by simp [ho, e2], by simpa [delR, ho] using e3⟩
        cases j with
        | zero => simp at hy; subst hy; exact hpn
        | succ j =>
          simp at hy
          rw [List.any_eq_false] at e2
          exact fun e => e2 y (List.mem_of_getElem? hy) (isOp_iff.2 e)
      · refine .inr ⟨j + 1, x, ?_, by simpa using e2, e3, e4, by simp [ho, e5], by simpa [lookR, ho] using e6, by simpa [delR, ho] using e7, fun key => ?_⟩
        · have : r.findIdx? (fun x => decide (x.o = o ∧ x.q = q)) = some j := by
            unfold riOf at e1
            split at e1
            · rename_i i hi; rw [hi]; congr 1; omega
            · omega
          unfold riOf
          rw [List.findIdx?_cons, this]
          have hd : decide (p.o = o ∧ p.q = q) = false := decide_eq_false hpn
          rw [hd]
          simp
        · have := e8 key
          simp only [setR, e5, if_true] at this
          simp only [setR, List.any_cons, ho, e5, Bool.false_or, if_true, List.map_cons, List.set_cons_succ, Bool.false_eq_true, if_false, this]

theorem setR_new {res : List Pr} {o q : Int} (h : res.any (isOp o q) = false) (key : ByteArray) : setR res o q key = res ++ [⟨o, q, key⟩] := by
  simp [setR, h]

end Go.Proofs.YbulkdywgDoor
