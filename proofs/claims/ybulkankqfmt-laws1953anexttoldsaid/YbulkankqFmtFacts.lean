/- Plain facts for the walk of LawS1953ANext: the buffer, the copy of the bytes at hand, comparisons of pointers. -/
import Derived.Test.YbulkankqFmtWalksB
import Derived.LaidEqlPtr
namespace Go.Proofs.YbulkankqFmt.Nx
open Go.RowKit Go.Extern.Stop Go.Stop Go.Extern

theorem info40 : (Ybaf.prog.info? 40).isSome = true := by kernel_rfl
theorem info32 : (Ybaf.prog.info? 32).isSome = true := by kernel_rfl
theorem info38 : (Ybaf.prog.info? 38).map (·.comparable) = some true := by kernel_rfl

theorem neq_ptr_same {tp te : TypeId} {j : TypeInfo} (w : World) (a : Addr) (hp : Ybaf.prog.underlying tp = some (.pointer te)) (hte : Ybaf.prog.info? te = some j) :
    (binOp .neq tp (.pointer (some a)) (.pointer (some a))).run Ybaf.prog w = .ok (.bool false) w := by
  have h : ∀ d : Nat, (Op.equalIn (d + 1) tp (.pointer (some a)) (.pointer (some a))).run Ybaf.prog w = .ok true w := fun d => by
    simp [Op.equalIn, run_underlying hp, sizeOf, typeInfo, hte, run_sameAddr_same]
  simp only [binOp]
  simp [Op.equal, Op.maxDepth, h 9999]

theorem neq_err (a : Addr) (w : World) : (binOp .neq 26 (.iface 38 (.pointer (some a))) (.iface 38 (.pointer (some a)))).run Ybaf.prog w = .ok (.bool false) w := by
  obtain ⟨j, hj⟩ := Option.isSome_iff_exists.1 info40
  obtain ⟨i, hi, hc⟩ := Option.map_eq_some_iff.1 info38
  simp only [binOp]
  simp [Op.equal, Op.maxDepth, run_equalIn_iface_ptr_same w 9998 a Ybaf.underlying26 Ybaf.underlying38 hi hc hj]

theorem neq_stream (a : Addr) (w : World) : (binOp .neq 28 (.pointer (some a)) (.pointer (some a))).run Ybaf.prog w = .ok (.bool false) w := by
  obtain ⟨j, hj⟩ := Option.isSome_iff_exists.1 info32
  exact neq_ptr_same w a Ybaf.underlying28 hj

theorem neq_byte (a : Addr) (w : World) : (binOp .neq 36 (.pointer (some a)) (.pointer (some a))).run Ybaf.prog w = .ok (.bool false) w := by
  obtain ⟨i0, hi, _⟩ := info_parts info5
  exact neq_ptr_same w a Ybaf.underlying36 hi

theorem eql_byte_other (N B : Nat) (w : World) (cn cb : Array Value) (hne : N ≠ B) (hn : w.heap[N]? = some (.cells cn 5 (0, 0))) (hb : w.heap[B]? = some (.cells cb 5 (0, 0))) :
    (binOp .eql 36 (.pointer (some ⟨N, 0, none⟩)) (.pointer (some ⟨B, 0, none⟩))).run Ybaf.prog w = .ok (.bool false) w := by
  obtain ⟨i0, hi, _, hz1, _⟩ := info_parts info5
  exact run_eql_ptr_other w Ybaf.underlying36 hi (by omega) (fun e => hne (by simpa using congrArg Addr.block e)) hn hb

/-- What is told of the slice of bytes that came in. -/
def IsFill (w : World) (a : Option Addr) (len : Nat) (b o : Nat) (z : Nat → Int) : Prop :=
  len ≤ maxLen ∧ (0 < len → a = some ⟨b, o, none⟩) ∧ ∀ i, i < len → w.cell? ⟨b, o + i, none⟩ = some (.int .u8 (z i))

/-- The buffer: a row of bl bytes in block B. -/
def Buf (w : World) (B bl : Nat) (zs : List Int) : Prop := zs.length = bl ∧ w.ownsRow B 5 1 (.slice (some ⟨B, 0, none⟩) bl bl) bl (zs.map (Value.int .u8))

theorem Buf.made {w : World} {B bl : Nat} (h : w.ownsRow B 5 1 (.slice (some ⟨B, 0, none⟩) bl bl) bl (madeCells #[Value.int .u8 0] bl).toList) : Buf w B bl (List.replicate bl 0) := by
  refine ⟨by simp, ?_⟩
  have e : (madeCells #[Value.int .u8 0] bl).toList = (List.replicate bl (0 : Int)).map (Value.int .u8) := by
    have := toList_madeCells_one (Value.int .u8 0) bl
    simpa using this
  rw [← e]; exact h

theorem Buf.put {w : World} {B bl : Nat} {zs : List Int} (h : Buf w B bl zs) (j : Nat) (x : Int) : Buf (w.setCell ⟨B, j, none⟩ (.int .u8 x)) B bl (zs.set j x) := by
  refine ⟨by simpa using h.1, ?_⟩
  rw [List.map_set]
  exact (h.2.stored j _).1

theorem Buf.cell {w : World} {B bl : Nat} {zs : List Int} (h : Buf w B bl zs) (j : Nat) (hj : j < bl) : w.cell? ⟨B, j, none⟩ = some (.int .u8 (zs.getD j 0)) ∧ w.frozen? ⟨B, j, none⟩ = false := by
  refine ⟨?_, h.2.frozenAt j⟩
  have hl := h.1
  rw [h.2.cellAt j (by omega)]
  simp [hl, hj]

theorem congr_slice {a : Option Addr} {n n' c c' : Nat} (h : n = n') (h' : c = c') : Value.slice a n c = .slice a n' c' := by rw [h, h']


theorem Buf.later {w w' : World} {B bl : Nat} {zs : List Int} (h : Buf w B bl zs) (hb : Below w.heap.size w w') : Buf w' B bl zs := by
  refine ⟨h.1, h.2.1, ?_⟩
  rcases h.2.2 with h2 | ⟨g, cap, cur, hv, hg, hh, r⟩
  · exact .inl h2
  · exact .inr ⟨g, cap, cur, hv, hg, by rw [hb.block g (lt_of_block hh)]; exact hh, r⟩

theorem Buf.block {w : World} {B bl : Nat} {zs : List Int} (h : Buf w B bl zs) : w.heap[B]? = some (.cells (zs.map (Value.int .u8)).toArray 5 (0, 0)) := by
  obtain ⟨cur, _, rfl, hh⟩ := row_block h.2
  exact hh

/-- The bytes at hand, as values. -/
def atHand (zs : List Int) (off n : Nat) : List Value := ((zs.drop off).take n).map (Value.int .u8)

theorem atHand_length {zs : List Int} {bl off n : Nat} (h : zs.length = bl) (hob : off + n ≤ bl) : (atHand zs off n).length = n := by simp [atHand]; omega
theorem atHand_one (zs : List Int) (off n : Nat) : ∀ v ∈ atHand zs off n, v.oneCell' = true := ints_oneCell .u8 _
theorem atHand_at {zs : List Int} {off n j : Nat} {v : Value} (h : (atHand zs off n)[j]? = some v) : j < n ∧ v = .int .u8 (zs.getD (off + j) 0) := by
  simp only [atHand, List.getElem?_map, List.getElem?_take, List.getElem?_drop] at h
  split at h
  · rename_i hj
    refine ⟨hj, ?_⟩
    cases hz : zs[off + j]? with
    | none => simp [hz] at h
    | some x => simp [hz] at h; simp [List.getD, hz, h]
  · simp at h

theorem Buf.src {w : World} {B bl off n od : Nat} {zs : List Int} (h : Buf w B bl zs) (hob : off + n ≤ bl) (hod : 0 < n → od = off) : ∀ j v, (atHand zs off n)[j]? = some v → w.cell? ⟨B, od + j, none⟩ = some v := by
  intro j v hj
  obtain ⟨h1, rfl⟩ := atHand_at hj
  rw [hod (by omega)]
  exact (h.cell (off + j) (by omega)).1

/-- What lies there ahead of the call of next: the buffer in block B, the copy of the bytes at hand in block O. -/
structure Pre (w : World) (B O bl off n : Nat) (zs : List Int) : Prop where
  buf : Buf w B bl zs
  old : w.heap[O]? = some (.cells (atHand zs off n).toArray 5 (0, 0))

theorem Pre.later {w w' : World} {B O bl off n : Nat} {zs : List Int} (h : Pre w B O bl off n zs) (hb : Below w.heap.size w w') : Pre w' B O bl off n zs :=
  ⟨h.buf.later hb, by rw [hb.block O (lt_of_block h.old)]; exact h.old⟩

theorem Pre.kept {w w' : World} {bs bd B O bl off n : Nat} {zs : List Int} (h : Pre w B O bl off n zs) (hk : Kept bs bd w w') (h1 : B ≠ bs) (h2 : B ≠ bd) (h3 : O ≠ bs) (h4 : O ≠ bd) : Pre w' B O bl off n zs :=
  ⟨⟨h.buf.1, hk.row h.buf.2 h1 h2⟩, by rw [hk.block O (lt_of_block h.old) h3 h4]; exact h.old⟩

theorem Pre.oldCell {w : World} {B O bl off n : Nat} {zs : List Int} (h : Pre w B O bl off n zs) (hob : off + n ≤ bl) (j : Nat) (hj : j < n) : w.cell? ⟨O, j, none⟩ = some (.int .u8 (zs.getD (off + j) 0)) := by
  rw [cell_of_row w O j _ 5 (0, 0) h.old]
  have hl := h.buf.1
  have : (atHand zs off n)[j]? = some (.int .u8 (zs.getD (off + j) 0)) := by
    simp [atHand, List.getD, hj, show off + j < zs.length by omega]
  simpa using this

/-- Behind the copy. -/
theorem pre_of_copy {wr w2 w3 : World} {B bl off n : Nat} {zs : List Int} {cur : List Value} (hbuf : Buf wr B bl zs) (hob : off + n ≤ bl) (hb2 : Below wr.heap.size wr w2) (hcl : cur.length = n) (hb3 : Below wr.heap.size w2 w3)
    (hg : w3.heap[wr.heap.size]? = some (.cells (splice cur 0 (atHand zs off n)).toArray 5 (0, 0))) : Pre w3 B wr.heap.size bl off n zs := by
  have hl := atHand_length hbuf.1 hob
  have e : splice cur 0 (atHand zs off n) = atHand zs off n := by
    simp only [splice, List.take_zero, List.nil_append, Nat.zero_add]
    rw [List.drop_eq_nil_of_le (by omega), List.append_nil]
  rw [e] at hg
  have hb : Below wr.heap.size wr w3 := hb2.trans hb3
  exact ⟨hbuf.later hb, hg⟩


/-- The two blocks just laid are a stream and its decoder. -/
theorem St.new (W : World) (bv dv ev : Value) (limit read start held : Int) :
    St ((W.alloc (.cells #[.nilIface, bv, .int .u64 limit, .int .u64 read, .int .u64 start, .int .u64 held] 32)).alloc (.cells #[dv, ev, .pointer (some ⟨W.heap.size, 0, none⟩)] 35)) W.heap.size (W.heap.size + 1) bv dv ev limit read start held := by
  refine ⟨?_, ?_, ?_, ?_, ?_, ?_, ?_, ?_, ?_, ?_, ?_, ?_, ?_⟩ <;> simp

/-- The k-th byte at hand, behind next, where the buffer was given back. -/
theorem grown_cell {w : World} {N n off bl : Nat} {cur : List Value} {zs : List Int} (hz : zs.length = bl) (hob : off + n ≤ bl) (hh : w.heap[N]? = some (.cells cur.toArray 5 (0, 0))) (ht : cur.take n = atHand zs off n) (j : Nat) (hj : j < n) :
    w.cell? ⟨N, j, none⟩ = some (.int .u8 (zs.getD (off + j) 0)) := by
  rw [cell_of_row w N j _ 5 (0, 0) hh]
  have h1 : (cur.take n)[j]? = some (.int .u8 (zs.getD (off + j) 0)) := by
    rw [ht]
    simp [atHand, List.getD, hj, show off + j < zs.length by omega]
  rw [List.getElem?_take, if_pos hj] at h1
  simpa using h1

theorem eql_byte_draws (N B : Nat) (w : World) (cn cb : Array Value) (hne : N ≠ B) (hn : w.heap[N]? = some (.cells cn 5 (0, 0))) (hb : w.heap[B]? = some (.cells cb 5 (0, 0))) :
    ∀ m, (binOp .eql 36 (.pointer (some ⟨N, 0, none⟩)) (.pointer (some ⟨B, 0, none⟩))).run Ybaf.prog (w.drewN m) = .ok (.bool false) (w.drewN m) :=
  fun m => eql_byte_other N B (w.drewN m) cn cb hne hn hb
end Go.Proofs.YbulkankqFmt.Nx
