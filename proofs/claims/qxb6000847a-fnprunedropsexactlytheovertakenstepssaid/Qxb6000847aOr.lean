import Derived.Test.Qxb6000847aGrid
namespace Go.Proofs.Qxb6000847a
open Go.RowKit

/-- append WHERE THERE IS ROOM, for the walk. -/
theorem wpList_append_fit {P : Program} (w : World) {ops : Array Oper} {rest : List Oper} {o : Oper} {a : Act} {Q : Exit → Act → World → Prop}
    (hg : o.guard = none) (s x : Operand) (t : TypeId) (hop : o.op = Op.call { callee := Callee.builtin Builtin.append, args := #[s, x], argTypes := #[t, t] })
    (e : TypeId) (i : TypeInfo) (size : Nat) (h1 : P.underlying t = some (.slice e)) (h2 : P.info? e = some i) (h4 : i.size = size)
    (b off n cap : Nat) (hs : a.eval s = .slice (some ⟨b, off, none⟩) n cap)
    (ad : Addr) (m c : Nat) (news : List Value) (hx : a.eval x = .slice (some ad) m c) (hn : news.length = m * size) (hc : ∀ j u, news[j]? = some u → w.cell? (ad.add j) = some u) (h1c : ∀ u ∈ news, u.oneCell' = true)
    (hroom : n + m ≤ cap)
    (hspare : ∀ j, j < news.length → (w.cell? ⟨b, off + n * size + j, none⟩).isSome = true ∧ w.frozen? ⟨b, off + n * size + j, none⟩ = false)
    (hK : wpList P ops Q rest (a.put o.dst (.slice (some ⟨b, off, none⟩) (n + m) cap)) (w.setCells b (off + n * size) news)) :
    wpList P ops Q (o :: rest) a w := by
  refine wpList_plain hg fun K hK' => ?_
  subst h4
  have hrun := run_append_room_cells (P := P) w t o.type e i h1 h2 b off n cap ad m c news hn hc h1c hroom (fun j hj => (hspare j hj).1) (fun j hj => (hspare j hj).2)
  unfold Oper.wp
  simp [execOp, hop, resolve, invoke, builtin, hs, hx, hrun, Result.andThen]
  exact hK' _ _ hK

theorem info61 : (Try.prog.info? 61).map (fun i => (i.zero, i.size, i.bytes)) = some (some (.agg #[.int .i64 0, .int .u64 0]), 2, 16) := by kernel_rfl

/-- What one block may have turned, and new blocks: the rest is as it was. -/
theorem grown_set (w : World) (b o : Nat) (v : Value) : w.grownBy (w.setCell ⟨b, o, none⟩ v) (some b) :=
  ⟨rfl, rfl, rfl, by simp, fun k _ hk => Below.heap_setCell _ _ _ _ (by intro e; exact hk (by rw [e]))⟩

theorem grown_trans {w w1 w2 : World} {r : Option Nat} (h : w.grownBy w1 r) (k : w1.grownBy w2 r) : w.grownBy w2 r :=
  ⟨k.os.trans h.os, k.tape.trans h.tape, k.output.trans h.output, Nat.le_trans h.size k.size, fun i hi hr => (k.block i (Nat.lt_of_lt_of_le hi h.size) hr).trans (h.block i hi hr)⟩

theorem grid_grown {w w' : World} {b : Nat} {t : TypeId} {k n : Nat} {f : Nat → Nat → Value} {r : Option Nat} (h : Grid w b t k n f) (hg : w.grownBy w' r) (hr : r ≠ some b) : Grid w' b t k n f :=
  h.of_block (hg.block b h.lt hr.symm)

set_option maxHeartbeats 1000000 in
/-- (stepBits).or: the word is the last one: its bits are added. -/
theorem or_same (bs p l c n : Nat) (f : Nat → Nat → Value) (att bts old : Int) (w : World) (hG : Grid w bs 61 2 n f) (hl : 0 < l) (hpl : p + l ≤ n) (hl2 : l ≤ 65536)
    (h0 : f (p + l - 1) 0 = .int .i64 att) (h1 : f (p + l - 1) 1 = .int .u64 old) (hb : bts ≠ 0) :
    Calls Try.prog 23 #[.slice (some ⟨bs, p * 2, none⟩) l c, .int .i64 att, .int .u64 bts] w fun e w' =>
      e = .returned (.slice (some ⟨bs, p * 2, none⟩) l c) ∧ w' = w.setCell ⟨bs, (p + l - 1) * 2 + 1, none⟩ (.int .u64 (bits .or .u64 old bts)) := by
  have c0 : w.cell? ⟨bs, p * 2 + (l - 1) * 2, none⟩ = some (.int .i64 att) := by rw [← h0]; exact hG.cell' (p + l - 1) 0 (by omega) (by omega) (by omega)
  have c1 : w.cell? ⟨bs, p * 2 + (l - 1) * 2 + 1, none⟩ = some (.int .u64 old) := by rw [← h1]; exact hG.cell' (p + l - 1) 1 (by omega) (by omega) (by omega)
  have f1 : w.frozen? ⟨bs, p * 2 + (l - 1) * 2 + 1, none⟩ = false := hG.frozen _
  have e1 : (bts == 0) = false := by simpa using hb
  have eo : (p + l - 1) * 2 + 1 = p * 2 + (l - 1) * 2 + 1 := by omega
  rw [eo]
  clear h0 h1 eo hG
  go_enter Try.func23, Try.ntmps23
  go_wp2
  go_ret
  exact ⟨rfl, rfl⟩

set_option maxHeartbeats 1000000 in
/-- (stepBits).or: another word: it is appended, in place. -/
theorem or_new (bs p l c n : Nat) (f : Nat → Nat → Value) (att bts : Int) (w : World) (hG : Grid w bs 61 2 n f) (hlc : l < c) (hpc : p + c ≤ n) (hl2 : l ≤ 65536)
    (h0 : 0 < l → ∃ q, f (p + l - 1) 0 = .int .i64 q ∧ q ≠ att) (hb : bts ≠ 0) :
    Calls Try.prog 23 #[.slice (some ⟨bs, p * 2, none⟩) l c, .int .i64 att, .int .u64 bts] w fun e w' =>
      e = .returned (.slice (some ⟨bs, p * 2, none⟩) (l + 1) c) ∧
      w' = (w.alloc (.cells #[.int .i64 att, .int .u64 bts] 61)).setCells bs ((p + l) * 2) [.int .i64 att, .int .u64 bts] := by
  have e1 : (bts == 0) = false := by simpa using hb
  obtain ⟨i0, hi, hz0, hz1, hz2⟩ := info_parts info61
  have hlt := hG.lt
  have hsp : ∀ o j, j < 2 → ((w.alloc o).cell? ⟨bs, p * 2 + l * 2 + j, none⟩).isSome = true ∧ (w.alloc o).frozen? ⟨bs, p * 2 + l * 2 + j, none⟩ = false := fun o j hj =>
    ⟨by rw [(hG.alloc o).cell' (p + l) j (by omega) (by omega) hj]; rfl, (hG.alloc o).frozen _⟩
  have eo : (p + l) * 2 = p * 2 + l * 2 := by omega
  rw [eo]
  by_cases hl : 0 < l
  · obtain ⟨q, hq, hne⟩ := h0 hl
    have c0 : w.cell? ⟨bs, p * 2 + (l - 1) * 2, none⟩ = some (.int .i64 q) := by rw [← hq]; exact hG.cell' (p + l - 1) 0 (by omega) (by omega) (by omega)
    have e2 : (q == att) = false := by simpa using hne
    clear h0 hq eo hG
    go_enter Try.func23, Try.ntmps23
    go_wp2_with (at_builtin; refine wpList_append_fit _ rfl (.tmp 36) (.tmp 40) 57 rfl 61 i0 2 Try.underlying57 hi hz1 bs (p * 2) l c rfl ⟨w.heap.size, 0, none⟩ 1 1 [.int .i64 att, .int .u64 bts] rfl rfl ?c1 ?c2 (by omega) ?c3 ?_)
    case c1 =>
      intro j u hj
      match j, hj with
      | 0, hj => simp at hj; subst hj; simp [Addr.add]
      | 1, hj => simp at hj; subst hj; simp [Addr.add]
    case c2 => intro u hu; simp at hu; rcases hu with rfl | rfl <;> rfl
    case c3 => intro j hj; exact hsp _ j hj
    go_wp2
    go_ret
    exact ⟨rfl, rfl⟩
  · have hd : decide ((0 : Int) < (l : Int)) = false := decide_eq_false (by omega)
    clear h0 eo hG
    go_enter Try.func23, Try.ntmps23
    go_wp2_with (at_builtin; refine wpList_append_fit _ rfl (.tmp 36) (.tmp 40) 57 rfl 61 i0 2 Try.underlying57 hi hz1 bs (p * 2) l c rfl ⟨w.heap.size, 0, none⟩ 1 1 [.int .i64 att, .int .u64 bts] rfl rfl ?c1 ?c2 (by omega) ?c3 ?_)
    case c1 =>
      intro j u hj
      match j, hj with
      | 0, hj => simp at hj; subst hj; simp [Addr.add]
      | 1, hj => simp at hj; subst hj; simp [Addr.add]
    case c2 => intro u hu; simp at hu; rcases hu with rfl | rfl <;> rfl
    case c3 => intro j hj; exact hsp _ j hj
    go_wp2
    go_ret
    exact ⟨rfl, rfl⟩

end Go.Proofs.Qxb6000847a
