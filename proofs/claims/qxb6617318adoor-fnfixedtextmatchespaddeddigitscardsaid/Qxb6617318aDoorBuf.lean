import Derived.WalkKit
import Derived.WalkSpells
import Derived.Deep.AppendSrc
import Derived.Lib.AppendIntMem
import Derived.Lib.BufferKept
namespace Go.Proofs.Qxb6617318aDoor
open Go.RowKit

/-! ### A byte slice over a local array of 24 bytes, appended to within its room -/
/-- Block b holds the bytes l at its head, 24 cells in all, none of them frozen. -/
structure IsBuf (W : World) (b n : Nat) (l : List UInt8) : Prop where
  len : l.length = n
  cells : ∀ j (h : j < l.length), W.cell? ⟨b, j, none⟩ = some (.int .u8 (l[j].toNat : Int))
  room : ∀ j, j < 24 → (W.cell? ⟨b, j, none⟩).isSome = true
  free : ∀ j, W.frozen? ⟨b, j, none⟩ = false
  here : b < W.heap.size

theorem IsBuf.below {W W' : World} {b n B : Nat} {l : List UInt8} (h : IsBuf W b n l) (hb : Below B W W') (hB : b < B) : IsBuf W' b n l :=
  ⟨h.len, fun j hj => (hb.cell (p := ⟨b, j, none⟩) hB).trans (h.cells j hj), fun j hj => by rw [hb.cell (p := ⟨b, j, none⟩) hB]; exact h.room j hj,
    fun j => (hb.frozen (p := ⟨b, j, none⟩) hB).trans (h.free j), Nat.lt_of_lt_of_le h.here hb.size⟩
theorem IsBuf.alloc {W : World} {b n : Nat} {l : List UInt8} (h : IsBuf W b n l) (o : Obj) : IsBuf (W.alloc o) b n l :=
  h.below ((Below.refl W.heap.size W).alloc (Nat.le_refl _) o) h.here
theorem IsBuf.drew {W : World} {b n : Nat} {l : List UInt8} (h : IsBuf W b n l) : IsBuf W.drew b n l := ⟨h.len, h.cells, h.room, h.free, h.here⟩

theorem size_setCells (b : Nat) : ∀ (vs : List Value) (o : Nat) (w : World), (w.setCells b o vs).heap.size = w.heap.size
  | [], _, _ => rfl
  | v :: r, o, w => by rw [World.setCells, size_setCells b r]; simp [World.setCell]
theorem below_setCells (b : Nat) : ∀ (vs : List Value) (o : Nat) (w : World), Below b w (w.setCells b o vs)
  | [], _, w => Below.refl _ _
  | v :: r, o, w => by
    rw [World.setCells]
    exact ((Below.refl b w).setCell (p := ⟨b, o, none⟩) (Nat.le_refl _) v).trans (below_setCells b r (o + 1) _)

theorem IsBuf.put {W : World} {b n : Nat} {l news : List UInt8} (h : IsBuf W b n l) (hr : n + news.length ≤ 24) : IsBuf (W.setCells b n (Lib.byteCells news)) b (n + news.length) (l ++ news) := by
  obtain rfl := h.len
  have hlen : (Lib.byteCells news).length = news.length := Lib.byteCells_length _
  have hin := World.cell?_setCells_in b (Lib.byteCells news) l.length W (fun j hj => h.room _ (by omega))
  refine ⟨by rw [List.length_append], fun j hj => ?_, fun j hj => ?_, fun j => by rw [World.frozen?_setCells]; exact h.free j, by rw [size_setCells]; exact h.here⟩
  · rw [List.length_append] at hj
    by_cases hl : j < l.length
    · rw [World.cell?_setCells_out b _ _ _ _ (fun _ _ => Or.inl hl), h.cells j hl, List.getElem_append_left hl]
    · obtain ⟨k, rfl⟩ : ∃ k, j = l.length + k := ⟨j - l.length, by omega⟩
      rw [hin k (by omega), List.getElem_append_right (by omega)]
      simp [Lib.byteCells]
  · by_cases hl : l.length ≤ j ∧ j < l.length + (Lib.byteCells news).length
    · obtain ⟨k, rfl⟩ : ∃ k, j = l.length + k := ⟨j - l.length, by omega⟩
      rw [hin k (by omega)]; rfl
    · rw [World.cell?_setCells_out b _ _ _ _ (fun _ _ => by show j < _ ∨ _ ≤ j; omega)]
      exact h.room j hj

/-- THE LAW: 'append(text, ..)' where the room suffices. -/
theorem wpList_append_buf {P : Program} (w : World) {ops : Array Oper} {rest : List Oper} {o : Oper} {a : Act} {Q : Exit → Act → World → Prop}
    (hg : o.guard = none) (s x : Operand) (t tx e : TypeId) (hop : o.op = Op.call { callee := Callee.builtin Builtin.append, args := #[s, x], argTypes := #[t, tx] })
    (i : TypeInfo) (ht : P.underlying t = some (.slice e)) (hi : P.info? e = some i) (hsz : i.size = 1)
    (b n : Nat) (l : List UInt8) (hs : a.eval s = .slice (some ⟨b, 0, none⟩) n 24) (v : Value) (hx : a.eval x = v) (news : List UInt8)
    (hsrc : Src P 1 tx v news.length (Lib.byteCells news) w) (hB : IsBuf w b n l) (hroom : n + news.length ≤ 24)
    (hK : ∀ n' w', IsBuf w' b n' (l ++ news) → Below b w w' → wpList P ops Q rest (a.put o.dst (.slice (some ⟨b, 0, none⟩) n' 24)) w') :
    wpList P ops Q (o :: rest) a w := by
  refine wpList_plain hg fun K hK' => ?_
  have hlen : (Lib.byteCells news).length = news.length := Lib.byteCells_length _
  have hrun := run_append_room_src (P := P) w t tx o.type e i ht hi b 0 n 24 v news.length (Lib.byteCells news) (by rw [hsz]; exact hsrc) hroom
    (fun j hj => by rw [hsz]; exact hB.room _ (by omega)) (fun j hj => hB.free _)
  rw [hsz, Nat.mul_one, Nat.zero_add] at hrun
  unfold Oper.wp
  simp [execOp, hop, resolve, invoke, builtin, hs, hx, hrun, Result.andThen]
  exact hK' _ _ (hK _ _ (hB.put hroom) (below_setCells b _ _ _))
end Go.Proofs.Qxb6617318aDoor
