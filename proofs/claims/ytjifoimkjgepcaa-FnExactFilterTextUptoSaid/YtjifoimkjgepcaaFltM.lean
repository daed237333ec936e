/-
  The plain side of the filters: trees of features, what is added to them, what they take. No program in sight.
-/
import Derived.RowKit
set_option linter.unusedVariables false
namespace Go.Proofs.Ytjifoimkjgepcaa.Flt

/-- A tree of features: edges in their order. -/
inductive FT where
  | mk (kids : List (ByteArray × FT))
def FT.kids : FT → List (ByteArray × FT) | .mk k => k
instance : Inhabited FT := ⟨.mk []⟩

/-- An edge takes a text: it is any (one byte 0), or the same. -/
def hit (s n : ByteArray) : Bool := n.toList == [0] || n.toList == s.toList
def ixN (s : ByteArray) : List ByteArray → Option Nat
  | [] => none
  | n :: ns => if hit s n then some 0 else (ixN s ns).map (· + 1)
def ixInt : Option Nat → Int
  | some j => (j : Int)
  | none => -1

theorem ixN_no {s : ByteArray} {ns : List ByteArray} {k : Nat} (h : k < ns.length) (hix : ixN s ns = (ixN s (ns.drop k)).map (· + k)) (hh : hit s ns[k] = false) :
    ixN s ns = (ixN s (ns.drop (k + 1))).map (· + (k + 1)) := by
  rw [hix, List.drop_eq_getElem_cons h, ixN, if_neg (by simp [hh]), Option.map_map]
  congr 1; funext x; simp only [Function.comp]; omega
theorem ixN_yes {s : ByteArray} {ns : List ByteArray} {k : Nat} (h : k < ns.length) (hix : ixN s ns = (ixN s (ns.drop k)).map (· + k)) (hh : hit s ns[k] = true) :
    ixInt (ixN s ns) = k := by
  rw [hix, List.drop_eq_getElem_cons h, ixN, if_pos hh]; simp [ixInt]
theorem ixN_end {s : ByteArray} {ns : List ByteArray} {k : Nat} (h : ¬ k < ns.length) (hix : ixN s ns = (ixN s (ns.drop k)).map (· + k)) :
    ixInt (ixN s ns) = -1 := by
  rw [hix, List.drop_eq_nil_of_le (by omega)]; rfl
theorem ixN_lt {s : ByteArray} : ∀ {ns : List ByteArray} {j : Nat}, ixN s ns = some j → j < ns.length
  | [], j, h => by simp [ixN] at h
  | n :: ns, j, h => by
    unfold ixN at h
    split at h
    · simp at h; subst h; simp
    · obtain ⟨i, hi, rfl⟩ := Option.map_eq_some_iff.1 h
      have := ixN_lt hi
      simp; omega

/-- What a tree takes. -/
def accT : List ByteArray → FT → Bool
  | [], _ => false
  | v :: xs, t =>
    match ixN v (t.kids.map (·.1)) with
    | none => false
    | some j => if (t.kids.getD j default).2.kids.isEmpty then true else accT xs (t.kids.getD j default).2

/-- A filter put into a tree. -/
def addT : List ByteArray → FT → FT
  | [], t => t
  | v :: fs, t =>
    match ixN v (t.kids.map (·.1)) with
    | none => .mk (t.kids ++ [(v, addT fs (.mk []))])
    | some j =>
      if (t.kids.getD j default).2.kids.isEmpty then t
      else if fs.isEmpty then .mk (t.kids.set j ((t.kids.getD j default).1, .mk []))
      else .mk (t.kids.set j ((t.kids.getD j default).1, addT fs (t.kids.getD j default).2))

/-- A tree that bears, at each node, its block and the value of its slice. -/
inductive DT where
  | mk (b : Nat) (v : Value) (kids : List (ByteArray × DT))
def DT.b : DT → Nat | .mk b _ _ => b
def DT.v : DT → Value | .mk _ v _ => v
def DT.kids : DT → List (ByteArray × DT) | .mk _ _ k => k
instance : Inhabited DT := ⟨.mk 0 .nilFunc []⟩
theorem DT.eta (d : DT) : d = .mk d.b d.v d.kids := by cases d; rfl

mutual
def DT.strip : DT → FT
  | .mk _ _ k => .mk (DT.stripL k)
def DT.stripL : List (ByteArray × DT) → List (ByteArray × FT)
  | [] => []
  | (n, d) :: r => (n, d.strip) :: DT.stripL r
end
theorem stripL_eq : ∀ l, DT.stripL l = l.map fun x => (x.1, x.2.strip)
  | [] => rfl
  | (n, d) :: r => by simp [DT.stripL, stripL_eq r]
theorem strip_kids (d : DT) : d.strip.kids = d.kids.map fun x => (x.1, x.2.strip) := by
  cases d; simp [DT.strip, FT.kids, DT.kids, stripL_eq]
theorem strip_mk (b : Nat) (v : Value) (k : List (ByteArray × DT)) : (DT.mk b v k).strip = .mk (k.map fun x => (x.1, x.2.strip)) := by simp [DT.strip, stripL_eq]

/-- A node: its block, its slice, its edges (name, child's block). -/
structure Nd where
  b : Nat
  v : Value
  es : List (ByteArray × Nat)
def ends (k : List (ByteArray × DT)) : List (ByteArray × Nat) := k.map fun x => (x.1, x.2.b)
mutual
def DT.nodes : DT → List Nd
  | .mk b v k => ⟨b, v, ends k⟩ :: DT.nodesL k
def DT.nodesL : List (ByteArray × DT) → List Nd
  | [] => []
  | (_, d) :: r => d.nodes ++ DT.nodesL r
end
theorem nodesL_append : ∀ a b, DT.nodesL (a ++ b) = DT.nodesL a ++ DT.nodesL b
  | [], b => by simp [DT.nodesL]
  | (n, d) :: r, b => by simp [DT.nodesL, nodesL_append r b]
theorem nodes_eq (d : DT) : d.nodes = ⟨d.b, d.v, ends d.kids⟩ :: DT.nodesL d.kids := by cases d; simp [DT.nodes, DT.b, DT.v, DT.kids]

/-- What stands round a node. -/
structure Fr where
  b : Nat
  v : Value
  l : List (ByteArray × DT)
  n : ByteArray
  r : List (ByteArray × DT)
def plug : List Fr → DT → DT
  | [], d => d
  | f :: C, d => plug C (.mk f.b f.v (f.l ++ (f.n, d) :: f.r))
def plugF : List Fr → FT → FT
  | [], t => t
  | f :: C, t => plugF C (.mk ((f.l.map fun x => (x.1, x.2.strip)) ++ (f.n, t) :: (f.r.map fun x => (x.1, x.2.strip))))
theorem strip_plug : ∀ C d, (plug C d).strip = plugF C d.strip
  | [], d => rfl
  | f :: C, d => by rw [plug, strip_plug C, plugF, strip_mk]; simp
def nodesC : List Fr → Nat → List Nd
  | [], _ => []
  | f :: C, h => ⟨f.b, f.v, ends f.l ++ (f.n, h) :: ends f.r⟩ :: (DT.nodesL f.l ++ DT.nodesL f.r ++ nodesC C f.b)
theorem nodes_plug : ∀ C d, ((plug C d).nodes).Perm (d.nodes ++ nodesC C d.b)
  | [], d => by simp [plug, nodesC]
  | f :: C, d => by
    refine (nodes_plug C _).trans ?_
    simp only [nodesC, DT.b]
    rw [nodes_eq (.mk f.b f.v _)]
    simp only [DT.b, DT.v, DT.kids, nodesL_append, DT.nodesL, ends, List.map_append, List.map_cons]
    refine (List.Perm.trans ?_ (List.perm_middle.symm))
    simp only [List.cons_append]
    refine List.Perm.cons _ ?_
    simp only [List.append_assoc]
    refine List.Perm.trans (List.perm_append_comm_assoc _ _ _) ?_
    exact List.Perm.refl _
/-- The root's block doesn't hang on what is plugged in, but on its block. -/
theorem plug_b : ∀ C d e, d.b = e.b → (plug C d).b = (plug C e).b
  | [], d, e, h => h
  | f :: C, d, e, h => plug_b C _ _ rfl

/-- A step down. -/
theorem plug_down (C : List Fr) (d : DT) (j : Nat) (h : j < d.kids.length) :
    plug C d = plug (⟨d.b, d.v, d.kids.take j, d.kids[j].1, d.kids.drop (j + 1)⟩ :: C) d.kids[j].2 := by
  rw [plug]
  congr 1
  have e : d.kids.take j ++ (d.kids[j].1, d.kids[j].2) :: d.kids.drop (j + 1) = d.kids := by
    rw [show ((d.kids[j].1, d.kids[j].2) : ByteArray × DT) = d.kids[j] from rfl, ← List.drop_eq_getElem_cons h, List.take_append_drop]
  simp only [e]
  exact d.eta
theorem plugF_down (C : List Fr) (d : DT) (j : Nat) (h : j < d.kids.length) (t : FT) :
    plugF (⟨d.b, d.v, d.kids.take j, d.kids[j].1, d.kids.drop (j + 1)⟩ :: C) t = plugF C (.mk (d.strip.kids.set j (d.kids[j].1, t))) := by
  rw [plugF]
  congr 2
  rw [strip_kids, List.set_eq_take_append_cons_drop, if_pos (by simpa using h)]
  simp [List.map_take, List.map_drop]

theorem names_strip (d : DT) : d.strip.kids.map (·.1) = (ends d.kids).map (·.1) := by
  rw [strip_kids]; simp [ends]

/-- One step of adding, no edge. -/
theorem addT_none {v : ByteArray} {fs : List ByteArray} {d : DT} (h : ixN v ((ends d.kids).map (·.1)) = none) :
    addT (v :: fs) d.strip = .mk (d.strip.kids ++ [(v, addT fs (.mk []))]) := by
  rw [addT, names_strip, h]
theorem addT_leaf {v : ByteArray} {fs : List ByteArray} {d : DT} {j : Nat} (h : ixN v ((ends d.kids).map (·.1)) = some j) (hj : j < d.kids.length) (hl : d.kids[j].2.kids = []) :
    addT (v :: fs) d.strip = d.strip := by
  rw [addT, names_strip, h]
  simp only []
  rw [if_pos]
  rw [strip_kids]
  simp [List.getD, hj, strip_kids, hl]
theorem addT_tail {v : ByteArray} {d : DT} {j : Nat} (h : ixN v ((ends d.kids).map (·.1)) = some j) (hj : j < d.kids.length) (hl : d.kids[j].2.kids ≠ []) :
    addT [v] d.strip = .mk (d.strip.kids.set j (d.kids[j].1, .mk [])) := by
  rw [addT, names_strip, h]
  simp only []
  rw [if_neg]
  · simp [strip_kids, List.getD, hj]
  · rw [strip_kids]
    simp [List.getD, hj, strip_kids, hl]
theorem addT_on {v : ByteArray} {fs : List ByteArray} {d : DT} {j : Nat} (h : ixN v ((ends d.kids).map (·.1)) = some j) (hj : j < d.kids.length) (hl : d.kids[j].2.kids ≠ []) (hf : fs ≠ []) :
    addT (v :: fs) d.strip = .mk (d.strip.kids.set j (d.kids[j].1, addT fs d.kids[j].2.strip)) := by
  rw [addT, names_strip, h]
  simp only []
  rw [if_neg, if_neg (by simpa using hf)]
  · simp [strip_kids, List.getD, hj]
  · rw [strip_kids]
    simp [List.getD, hj, strip_kids, hl]

theorem accT_none {v : ByteArray} {xs : List ByteArray} {d : DT} (h : ixN v ((ends d.kids).map (·.1)) = none) : accT (v :: xs) d.strip = false := by
  rw [accT, names_strip, h]
theorem accT_leaf {v : ByteArray} {xs : List ByteArray} {d : DT} {j : Nat} (h : ixN v ((ends d.kids).map (·.1)) = some j) (hj : j < d.kids.length) (hl : d.kids[j].2.kids = []) :
    accT (v :: xs) d.strip = true := by
  rw [accT, names_strip, h]
  simp only []
  rw [if_pos]
  rw [strip_kids]
  simp [List.getD, hj, strip_kids, hl]
theorem accT_on {v : ByteArray} {xs : List ByteArray} {d : DT} {j : Nat} (h : ixN v ((ends d.kids).map (·.1)) = some j) (hj : j < d.kids.length) (hl : d.kids[j].2.kids ≠ []) :
    accT (v :: xs) d.strip = accT xs d.kids[j].2.strip := by
  rw [accT, names_strip, h]
  simp only []
  rw [if_neg]
  · simp [strip_kids, List.getD, hj]
  · rw [strip_kids]
    simp [List.getD, hj, strip_kids, hl]

/-- All filters put in, one behind the other. -/
def addAll (l : List (List ByteArray)) (t : FT) : FT := l.foldl (fun t f => addT f t) t
theorem addAll_snoc (l : List (List ByteArray)) (f : List ByteArray) (t : FT) : addAll (l ++ [f]) t = addT f (addAll l t) := by simp [addAll]
def takesAll (l : List (List ByteArray)) (x : List ByteArray) : Bool := accT x (addAll l (.mk []))

end Go.Proofs.Ytjifoimkjgepcaa.Flt
