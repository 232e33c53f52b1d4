/-
  A row of bytes that the call makes and fills within its capacity: what is known of it, step by step. No walk in this text.
-/
import Derived.Test.Qxb6615689aRows
import Derived.WalkKit
import Derived.ProofKit
import Derived.Lib.JoinLaws
import Derived.Laws.IdiomStrings
namespace Go.Proofs.Qxb6615689a.Held0
open Go.RowKit

def cellsOf (l : List UInt8) : List Value := l.map fun b => Value.int .u8 (b.toNat : Int)

theorem cellsOf_length (l : List UInt8) : (cellsOf l).length = l.length := by simp [cellsOf]
theorem cellsOf_bytes (s : ByteArray) : byteCells s = cellsOf s.data.toList := rfl

/-- In the world wx the block number 'w.heap.size' (the first that is new since w) is a row of at least cap cells, none frozen, whose first cells are the bytes l; what is older stands as it was. -/
structure Held (w wx : World) (cap : Nat) (l : List UInt8) : Prop where
  grown : Grown w wx
  lies : w.heap.size < wx.heap.size
  cells : ∀ j (hj : j < l.length), wx.cell? ⟨w.heap.size, j, none⟩ = some (.int .u8 (l[j].toNat : Int))
  there : ∀ j, j < cap → (wx.cell? ⟨w.heap.size, j, none⟩).isSome = true
  free : ∀ j, wx.frozen? ⟨w.heap.size, j, none⟩ = false

theorem grown_setCells {W : World} {b : Nat} (hb : W.heap.size ≤ b) : ∀ (vs : List Value) (o : Nat) (w : World), Grown W w → Grown W (w.setCells b o vs)
  | [], _, _, h => h
  | v :: r, o, w, h => grown_setCells hb r (o + 1) _ (h.setCell (by exact hb) v)

theorem size_setCells (b : Nat) : ∀ (vs : List Value) (o : Nat) (w : World), (w.setCells b o vs).heap.size = w.heap.size
  | [], _, _ => rfl
  | v :: r, o, w => by rw [World.setCells, size_setCells b r]; simp [World.setCell]

theorem Held.made (w : World) (cap : Nat) : Held w (w.alloc (.cells (madeCells #[.int .u8 0] cap) 5)) cap [] where
  grown := (Grown.refl w).alloc _ _
  lies := by simp
  cells := fun j hj => absurd hj (by simp)
  there := fun j hj => by
    rw [World.cell?_alloc_new, Array.getElem?_eq_getElem (by rw [size_madeCells]; exact hj)]; rfl
  free := fun j => by
    rw [frozen?_alloc_cells]
    simp [World.frozen?]

theorem Held.alloc {w wx : World} {cap : Nat} {l : List UInt8} (h : Held w wx cap l) (c : Array Value) (t : TypeId) : Held w (wx.alloc (.cells c t)) cap l where
  grown := h.grown.alloc _ _
  lies := by have := h.lies; simp; omega
  cells := fun j hj => by rw [World.cell?_alloc_lt _ _ _ (by exact h.lies)]; exact h.cells j hj
  there := fun j hj => by rw [World.cell?_alloc_lt _ _ _ (by exact h.lies)]; exact h.there j hj
  free := fun j => by rw [frozen?_alloc_cells]; exact h.free j

theorem Held.put {w wx : World} {cap : Nat} {l : List UInt8} (h : Held w wx cap l) (m : List UInt8) (hfit : l.length + m.length ≤ cap) :
    Held w (wx.setCells w.heap.size l.length (cellsOf m)) cap (l ++ m) where
  grown := grown_setCells (Nat.le_refl _) _ _ _ h.grown
  lies := by rw [size_setCells]; exact h.lies
  cells := fun j hj => by
    rw [List.length_append] at hj
    by_cases hl : j < l.length
    · rw [World.cell?_setCells_out _ _ _ _ _ (fun _ _ => Or.inl hl), h.cells j hl]
      simp [List.getElem_append_left hl]
    · obtain ⟨k, rfl⟩ := Nat.exists_eq_add_of_le (Nat.le_of_not_lt hl)
      have hk : k < m.length := by omega
      rw [World.cell?_setCells_in _ _ _ _ (fun i hi => h.there _ (by rw [cellsOf_length] at hi; omega)) k (by rw [cellsOf_length]; exact hk)]
      simp [cellsOf, List.getElem_append_right]
  there := fun j hj => by
    by_cases hin : l.length ≤ j ∧ j < l.length + m.length
    · obtain ⟨k, rfl⟩ := Nat.exists_eq_add_of_le hin.1
      rw [World.cell?_setCells_in _ _ _ _ (fun i hi => h.there _ (by rw [cellsOf_length] at hi; omega)) k (by rw [cellsOf_length]; omega)]
      rfl
    · rw [World.cell?_setCells_out _ _ _ _ _ (fun _ _ => by rw [cellsOf_length]; show j < l.length ∨ l.length + m.length ≤ j; omega)]
      exact h.there j hj
  free := fun j => by rw [World.frozen?_setCells]; exact h.free j

/-- 'string(b)' of such a row. -/
theorem Held.text {w wx : World} {cap c : Nat} {l : List UInt8} (h : Held w wx cap l) :
    (convert 34 9 (.slice (some ⟨w.heap.size, 0, none⟩) l.length c)).run Try.prog wx = .ok (.string ⟨l.toArray⟩) wx :=
  run_convert_bytes_back wx 34 9 5 ⟨w.heap.size, 0, none⟩ c l Try.underlying34 Try.underlying5 Try.underlying9
    (fun j hj => by rw [show (⟨w.heap.size, 0, none⟩ : Addr).add j = ⟨w.heap.size, j, none⟩ from by unfold Addr.add; split <;> simp_all]; exact h.cells j hj)

/-- The same, the length and the text under names of their own. -/
theorem Held.text_at {w wx : World} {cap : Nat} {l : List UInt8} (h : Held w wx cap l) (n c : Nat) (t : ByteArray) (hn : l.length = n) (ht : t = ⟨l.toArray⟩) :
    (convert 34 9 (.slice (some ⟨w.heap.size, 0, none⟩) n c)).run Try.prog wx = .ok (.string t) wx := by
  subst hn ht
  exact h.text

theorem info5 : (Try.prog.info? 5).map (fun i => (i.zero, i.size, i.bytes)) = some (some (.int .u8 0), 1, 1) := by kernel_rfl

/-- 'append(b, x...)' where there is room, x whatever yields the bytes m: for the walk. -/
theorem Held.wp_append {w wx : World} {cap : Nat} {l : List UInt8} {ops : Array Oper} {rest : List Oper} {o : Oper} {a : Act} {Q : Exit → Act → World → Prop}
    (hg : o.guard = none) (s x : Operand) (tx : TypeId) (hop : o.op = Op.call { callee := Callee.builtin Builtin.append, args := #[s, x], argTypes := #[34, tx] })
    (h : Held w wx cap l) (n k : Nat) (m : List UInt8) (hn : l.length = n) (hk : m.length = k) (hs : a.eval s = .slice (some ⟨w.heap.size, 0, none⟩) n cap)
    (hx : Src Try.prog 1 tx (a.eval x) k (cellsOf m) wx) (hfit : n + k ≤ cap)
    (hK : ∀ w', Held w w' cap (l ++ m) → wpList Try.prog ops Q rest (a.put o.dst (.slice (some ⟨w.heap.size, 0, none⟩) (n + k) cap)) w') :
    wpList Try.prog ops Q (o :: rest) a wx := by
  subst hn hk
  refine wpList_append_room1 wx hg s x 34 tx hop 5 (.int .u8 0) 1 Try.underlying34 info5 w.heap.size 0 l.length cap hs _ rfl m.length (cellsOf m) hx hfit ?_ ?_ ?_
  · intro j hj
    rw [cellsOf_length] at hj
    exact h.there _ (by omega)
  · intro j _
    exact h.free _
  · rw [Nat.zero_add]
    exact hK _ (h.put m hfit)

theorem Held.wp_append_string {w wx : World} {cap : Nat} {l : List UInt8} {ops : Array Oper} {rest : List Oper} {o : Oper} {a : Act} {Q : Exit → Act → World → Prop}
    (hg : o.guard = none) (s x : Operand) (hop : o.op = Op.call { callee := Callee.builtin Builtin.append, args := #[s, x], argTypes := #[34, 9] })
    (h : Held w wx cap l) (n : Nat) (t : ByteArray) (hn : l.length = n) (hs : a.eval s = .slice (some ⟨w.heap.size, 0, none⟩) n cap)
    (hx : a.eval x = .string t) (hfit : n + t.size ≤ cap)
    (hK : ∀ w', Held w w' cap (l ++ t.data.toList) → wpList Try.prog ops Q rest (a.put o.dst (.slice (some ⟨w.heap.size, 0, none⟩) (n + t.size) cap)) w') :
    wpList Try.prog ops Q (o :: rest) a wx :=
  h.wp_append hg s x 9 hop n t.size t.data.toList hn (by simp) hs (by rw [hx]; exact Src.ofString _ Try.underlying9 t) hfit hK

theorem Held.wp_append_one {w wx : World} {cap : Nat} {l : List UInt8} {ops : Array Oper} {rest : List Oper} {o : Oper} {a : Act} {Q : Exit → Act → World → Prop}
    (hg : o.guard = none) (s x : Operand) (hop : o.op = Op.call { callee := Callee.builtin Builtin.append, args := #[s, x], argTypes := #[34, 34] })
    (h : Held w wx cap l) (n : Nat) (b : UInt8) (g c : Nat) (hn : l.length = n) (hs : a.eval s = .slice (some ⟨w.heap.size, 0, none⟩) n cap)
    (hx : a.eval x = .slice (some ⟨g, 0, none⟩) 1 c) (hc : wx.cell? ⟨g, 0, none⟩ = some (.int .u8 (b.toNat : Int))) (hfit : n + 1 ≤ cap)
    (hK : ∀ w', Held w w' cap (l ++ [b]) → wpList Try.prog ops Q rest (a.put o.dst (.slice (some ⟨w.heap.size, 0, none⟩) (n + 1) cap)) w') :
    wpList Try.prog ops Q (o :: rest) a wx :=
  h.wp_append hg s x 34 hop n 1 [b] hn rfl hs
    (by
      rw [hx]
      refine Src.ofSlice wx Try.underlying34 _ 1 c _ rfl ?_ ?_
      · intro j u hj
        match j, hj with
        | 0, hj =>
          simp [cellsOf] at hj
          subst hj
          simpa [Addr.add] using hc
      · intro u hu
        simp [cellsOf] at hu
        subst hu
        rfl) hfit hK

end Go.Proofs.Qxb6615689a.Held0
