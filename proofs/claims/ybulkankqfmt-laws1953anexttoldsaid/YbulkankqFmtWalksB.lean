/- The contract of (*Decoder).next. -/
import Derived.Test.YbulkankqFmtWalksA
import Derived.Deep.DeepCutAuto
import Derived.Deep.CutBlock
import Derived.Deep.RegionWith
import Derived.BigRegion
import Derived.Laws.CopyOwn
namespace Go.Proofs.YbulkankqFmt.Nx
open Go.RowKit Go.Extern.Stop Go.Stop Go.Extern

/-- The stream lies in block bs, the decoder in block bd. -/
structure St (w : World) (bs bd : Nat) (bv dv ev : Value) (limit read start held : Int) : Prop where
  b : w.cell? ⟨bs, 1, none⟩ = some bv
  l : w.cell? ⟨bs, 2, none⟩ = some (.int .u64 limit)
  r : w.cell? ⟨bs, 3, none⟩ = some (.int .u64 read)
  s : w.cell? ⟨bs, 4, none⟩ = some (.int .u64 start)
  h : w.cell? ⟨bs, 5, none⟩ = some (.int .u64 held)
  d : w.cell? ⟨bd, 0, none⟩ = some dv
  e : w.cell? ⟨bd, 1, none⟩ = some ev
  t : w.cell? ⟨bd, 2, none⟩ = some (.pointer (some ⟨bs, 0, none⟩))
  fb : w.frozen? ⟨bs, 1, none⟩ = false
  fs : w.frozen? ⟨bs, 4, none⟩ = false
  fh : w.frozen? ⟨bs, 5, none⟩ = false
  fd : w.frozen? ⟨bd, 0, none⟩ = false
  fe : w.frozen? ⟨bd, 1, none⟩ = false

theorem frozen_later {w w' : World} {a : Addr} {v : Value} (hb : Below w.heap.size w w') (h : w.cell? a = some v) (hf : w.frozen? a = false) : w'.frozen? a = false :=
  (hb.frozen (World.block_lt_of_cell? _ _ h)).trans hf

theorem St.later {w w' : World} {bs bd : Nat} {bv dv ev : Value} {limit read start held : Int} (h : St w bs bd bv dv ev limit read start held) (hb : Below w.heap.size w w') : St w' bs bd bv dv ev limit read start held :=
  ⟨cell_later hb h.b, cell_later hb h.l, cell_later hb h.r, cell_later hb h.s, cell_later hb h.h, cell_later hb h.d, cell_later hb h.e, cell_later hb h.t,
    frozen_later hb h.b h.fb, frozen_later hb h.s h.fs, frozen_later hb h.h h.fh, frozen_later hb h.d h.fd, frozen_later hb h.e h.fe⟩

theorem St.putErr {w : World} {bs bd : Nat} {bv dv ev : Value} {limit read start held : Int} (h : St w bs bd bv dv ev limit read start held) (hne : bs ≠ bd) (v : Value) : St (w.setCell ⟨bd, 1, none⟩ v) bs bd bv dv v limit read start held := by
  obtain ⟨h1, h2, h3, h4, h5, h6, h7, h8, f1, f2, f3, f4, f5⟩ := h
  have hne' : ¬ bd = bs := fun e => hne e.symm
  refine ⟨?_, ?_, ?_, ?_, ?_, ?_, ?_, ?_, ?_, ?_, ?_, ?_, ?_⟩ <;> go_simp

theorem St.putPos {w : World} {bs bd : Nat} {bv dv ev : Value} {limit read start held : Int} (h : St w bs bd bv dv ev limit read start held) (hne : bs ≠ bd) (x y : Int) : St ((w.setCell ⟨bs, 4, none⟩ (.int .u64 x)).setCell ⟨bs, 5, none⟩ (.int .u64 y)) bs bd bv dv ev limit read x y := by
  obtain ⟨h1, h2, h3, h4, h5, h6, h7, h8, f1, f2, f3, f4, f5⟩ := h
  have hne' : ¬ bd = bs := fun e => hne e.symm
  refine ⟨?_, ?_, ?_, ?_, ?_, ?_, ?_, ?_, ?_, ?_, ?_, ?_, ?_⟩ <;> go_simp

theorem St.putBuf {w : World} {bs bd : Nat} {bv dv ev : Value} {limit read start held : Int} (h : St w bs bd bv dv ev limit read start held) (hne : bs ≠ bd) (v : Value) : St (w.setCell ⟨bs, 1, none⟩ v) bs bd v dv ev limit read start held := by
  obtain ⟨h1, h2, h3, h4, h5, h6, h7, h8, f1, f2, f3, f4, f5⟩ := h
  have hne' : ¬ bd = bs := fun e => hne e.symm
  refine ⟨?_, ?_, ?_, ?_, ?_, ?_, ?_, ?_, ?_, ?_, ?_, ?_, ?_⟩ <;> go_simp

theorem St.putData {w : World} {bs bd : Nat} {bv dv ev : Value} {limit read start held : Int} (h : St w bs bd bv dv ev limit read start held) (hne : bs ≠ bd) (v : Value) : St (w.setCell ⟨bd, 0, none⟩ v) bs bd bv v ev limit read start held := by
  obtain ⟨h1, h2, h3, h4, h5, h6, h7, h8, f1, f2, f3, f4, f5⟩ := h
  have hne' : ¬ bd = bs := fun e => hne e.symm
  refine ⟨?_, ?_, ?_, ?_, ?_, ?_, ?_, ?_, ?_, ?_, ?_, ?_, ?_⟩ <;> go_simp

/-- Of the blocks that were there, only those of the stream and of the decoder may have turned. -/
structure Kept (bs bd : Nat) (w w' : World) : Prop where
  os : w'.os = w.os
  tape : w'.tape = w.tape
  output : w'.output = w.output
  size : w.heap.size ≤ w'.heap.size
  block : ∀ k, k < w.heap.size → k ≠ bs → k ≠ bd → w'.heap[k]? = w.heap[k]?

theorem Kept.trans {bs bd : Nat} {a b c : World} (h : Kept bs bd a b) (k : Kept bs bd b c) : Kept bs bd a c :=
  ⟨k.os.trans h.os, k.tape.trans h.tape, k.output.trans h.output, Nat.le_trans h.size k.size, fun i hi h1 h2 => (k.block i (Nat.lt_of_lt_of_le hi h.size) h1 h2).trans (h.block i hi h1 h2)⟩

theorem Kept.of_below {bs bd : Nat} {w w' : World} (h : Below w.heap.size w w') : Kept bs bd w w' := ⟨h.os, h.tape, h.output, h.size, fun k hk _ _ => h.block k hk⟩

theorem Kept.setCell {bs bd : Nat} (w : World) (a : Addr) (v : Value) (h : a.block = bs ∨ a.block = bd) : Kept bs bd w (w.setCell a v) :=
  ⟨rfl, rfl, rfl, by simp [World.setCell], fun k _ h1 h2 => Below.heap_setCell _ _ _ _ (by rcases h with h | h <;> omega)⟩

theorem Kept.below {bs bd B : Nat} {w w' : World} (h : Kept bs bd w w') (hB : B ≤ w.heap.size) (h1 : B ≤ bs) (h2 : B ≤ bd) : Below B w w' :=
  ⟨h.os, h.tape, h.output, h.size, fun k hk => h.block k (by omega) (by omega) (by omega)⟩

theorem Kept.row {bs bd B : Nat} {w w' : World} {e : TypeId} {size : Nat} {g n cap m : Nat} {xs : List Value} (h : Kept bs bd w w') (ho : w.ownsRow B e size (.slice (some ⟨g, 0, none⟩) n cap) m xs) (h1 : g ≠ bs) (h2 : g ≠ bd) :
    w'.ownsRow B e size (.slice (some ⟨g, 0, none⟩) n cap) m xs := by
  refine ⟨ho.1, ?_⟩
  rcases ho.2 with h3 | ⟨g', cap', cur, hv, hg, hh, r⟩
  · exact .inl h3
  · have e : g' = g := by simp at hv; exact hv.1.symm
    subst e
    exact .inr ⟨g', cap', cur, hv, hg, by rw [h.block g' (lt_of_block hh) h1 h2]; exact hh, r⟩

theorem below_draws (B : Nat) (w : World) (n : Nat) : Below B w (w.drewN n) := below_drewN (Below.refl B w) n

/-- The error behind the call: an earlier one stays; else there is one just where what is counted passes the limit. -/
def ErrOk (ev ev' : Value) (over : Prop) : Prop :=
  (∃ t v, ev = .iface t v ∧ ev' = ev) ∨ (ev = .nilIface ∧ ((over ∧ ∃ u, ev' = .iface 38 u) ∨ (¬ over ∧ ev' = .nilIface)))

theorem below_one (w : World) (m : Nat) (o : Obj) : Below w.heap.size w ((w.drewN m).alloc o) := (below_draws _ _ _).alloc (Nat.le_refl _) o

theorem cells_new (w2 : World) (s : Nat) (p q r : Value) (h : s = w2.heap.size) : (w2.alloc (.cells #[p, q, r] 20)).cell? ⟨s, 0, none⟩ = some p ∧ (w2.alloc (.cells #[p, q, r] 20)).cell? ⟨s, 1, none⟩ = some q ∧ (w2.alloc (.cells #[p, q, r] 20)).cell? ⟨s, 2, none⟩ = some r := by
  subst h
  refine ⟨?_, ?_, ?_⟩ <;> simp

theorem failf_at (F : Interp) (bd : Nat) (x y z : Int) (w : World) (m : Nat) (hF : F.answers w.tape) (h7 : w.cell? ⟨bd, 1, none⟩ = some .nilIface) (f5 : w.frozen? ⟨bd, 1, none⟩ = false) :
    Calls Ybaf.prog 7 #[.pointer (some ⟨bd, 0, none⟩), .string fmtS, .slice (some ⟨w.heap.size, 0, none⟩) 3 3] ((w.drewN m).alloc (.cells #[.iface 22 (.int .u64 x), .iface 22 (.int .u64 y), .iface 22 (.int .u64 z)] 20))
      fun e w' => e = .returned (.tuple #[]) ∧ ∃ u w1, Below w.heap.size w w1 ∧ w' = w1.setCell ⟨bd, 1, none⟩ (.iface 38 u) := by
  have hb := below_one w m (.cells #[.iface 22 (.int .u64 x), .iface 22 (.int .u64 y), .iface 22 (.int .u64 z)] 20)
  have cc := cells_new (w.drewN m) w.heap.size (.iface 22 (.int .u64 x)) (.iface 22 (.int .u64 y)) (.iface 22 (.int .u64 z)) rfl
  refine (failf_new F bd w.heap.size x y z ((w.drewN m).alloc (.cells #[.iface 22 (.int .u64 x), .iface 22 (.int .u64 y), .iface 22 (.int .u64 z)] 20)) hF cc.1 cc.2.1 cc.2.2 (cell_later hb h7) (frozen_later hb h7 f5)).mono ?_
  rintro e w' ⟨he, u, w1, hb1, hw⟩
  exact ⟨he, u, w1, hb.trans (hb1.mono (by simp)), hw⟩

theorem failf_kept (bd : Nat) (s : ByteArray) (sl v : Value) (t : TypeId) (w : World) (m : Nat) (o : Obj) (h1 : w.cell? ⟨bd, 1, none⟩ = some (.iface t v)) :
    Calls Ybaf.prog 7 #[.pointer (some ⟨bd, 0, none⟩), .string s, sl] ((w.drewN m).alloc o) fun e w' => e = .returned (.tuple #[]) ∧ Below w.heap.size w w' := by
  refine (failf_keep bd s sl v t _ (cell_later (below_one w m o) h1)).mono ?_
  rintro e w' ⟨he, rfl⟩
  exact ⟨he, below_one w m o⟩

/-- The block of an owned row of n cells. -/
theorem row_block {w : World} {B e g n : Nat} {xs : List Value} (h : w.ownsRow B e 1 (.slice (some ⟨g, 0, none⟩) n n) n xs) : ∃ cur : List Value, cur.length = n ∧ cur = xs ∧ w.heap[g]? = some (.cells cur.toArray e (0, 0)) := by
  rcases h.2 with ⟨h1, _⟩ | ⟨g', cap', cur, hv, hg, hh, hc1, hc2, hc3, htake⟩
  · simp at h1
  · simp at hv
    obtain ⟨rfl, rfl⟩ := hv
    refine ⟨cur.toList, by simp; omega, ?_, by simpa using hh⟩
    rw [← htake, List.take_of_length_le (by simp; omega)]

/-- The cells to be copied, behind the new row and the store. -/
theorem src_later {bs bd gb od : Nat} {w wc w5 : World} {ds : List Value} {v1 : Value} (hgs : gb ≠ bs) (hgd : gb ≠ bd) (hk : Kept bs bd w wc) (hb : Below wc.heap.size wc w5) (hsrc : ∀ j v, ds[j]? = some v → w.cell? ⟨gb, od + j, none⟩ = some v) :
    ∀ j v, ds[j]? = some v → (w5.setCell ⟨bs, 1, none⟩ v1).cell? ((⟨gb, od, none⟩ : Addr).add j) = some v := by
  intro j v hj
  have h0 := hsrc j v hj
  have hlt : gb < w.heap.size := World.block_lt_of_cell? _ _ h0
  have h1 : wc.cell? ⟨gb, od + j, none⟩ = some v := (World.cell?_of_block (a := ⟨gb, od + j, none⟩) (hk.block gb hlt hgs hgd)).trans h0
  have h2 : w5.cell? ⟨gb, od + j, none⟩ = some v := cell_later hb h1
  rw [Addr.add_lit]
  rw [World.cell?_of_block (a := ⟨gb, od + j, none⟩) (Below.heap_setCell w5 ⟨bs, 1, none⟩ v1 gb hgs)]
  exact h2

/-- What the call of next leaves. -/
def NextPost (bs bd gb bl od : Nat) (ev : Value) (n c : Nat) (limit read start held : Int) (ds : List Value) (w : World) (e : Ending) (w' : World) : Prop :=
  e = .returned (.tuple #[]) ∧ ∃ ev' bv' dv', ErrOk ev ev' (limit < countedOf read start held n) ∧ St w' bs bd bv' dv' ev' limit read (IntKind.u64.wrap (read - (n : Int))) 0 ∧ Kept bs bd w w' ∧
      ((¬ (4096 < bl ∧ n ≤ 2048) ∧ bv' = .slice (some ⟨gb, 0, none⟩) bl bl ∧ dv' = .slice (some ⟨gb, od, none⟩) n c) ∨
       ((4096 < bl ∧ n ≤ 2048) ∧ ∃ (N : Nat) (cur : List Value), w.heap.size ≤ N ∧ bv' = .slice (some ⟨N, 0, none⟩) 4096 4096 ∧ dv' = .slice (some ⟨N, 0, none⟩) n 4096 ∧ w'.heap[N]? = some (.cells cur.toArray 5 (0, 0)) ∧ cur.length = 4096 ∧ cur.take n = ds))

theorem St.laterB {w w' : World} {N bs bd : Nat} {bv dv ev : Value} {limit read start held : Int} (h : St w bs bd bv dv ev limit read start held) (hbs : bs < N) (hbd : bd < N) (hb : Below N w w') : St w' bs bd bv dv ev limit read start held :=
  ⟨(hb.cell (p := ⟨bs, 1, none⟩) hbs).trans h.b, (hb.cell (p := ⟨bs, 2, none⟩) hbs).trans h.l, (hb.cell (p := ⟨bs, 3, none⟩) hbs).trans h.r, (hb.cell (p := ⟨bs, 4, none⟩) hbs).trans h.s, (hb.cell (p := ⟨bs, 5, none⟩) hbs).trans h.h,
    (hb.cell (p := ⟨bd, 0, none⟩) hbd).trans h.d, (hb.cell (p := ⟨bd, 1, none⟩) hbd).trans h.e, (hb.cell (p := ⟨bd, 2, none⟩) hbd).trans h.t,
    (hb.frozen (p := ⟨bs, 1, none⟩) hbs).trans h.fb, (hb.frozen (p := ⟨bs, 4, none⟩) hbs).trans h.fs, (hb.frozen (p := ⟨bs, 5, none⟩) hbs).trans h.fh, (hb.frozen (p := ⟨bd, 0, none⟩) hbd).trans h.fd, (hb.frozen (p := ⟨bd, 1, none⟩) hbd).trans h.fe⟩

theorem next_close {bs bd gb bl od : Nat} {ev ev' : Value} {n c N : Nat} {limit read start held : Int} {ds cur : List Value} {w W6 w7 : World} {dv : Value} (hne : bs ≠ bd) (hbs : bs < N) (hbd : bd < N) (hgr : 4096 < bl ∧ n ≤ 2048) (hwN : w.heap.size ≤ N)
    (her : ErrOk ev ev' (limit < countedOf read start held n)) (hs : St W6 bs bd (.slice (some ⟨N, 0, none⟩) 4096 4096) dv ev' limit read (IntKind.u64.wrap (read - (n : Int))) 0) (hk : Kept bs bd w W6) (hb : Below N W6 w7)
    (hg : w7.heap[N]? = some (.cells (splice cur 0 ds).toArray 5 (0, 0))) (hcl : cur.length = 4096) (hdl : ds.length = n) :
    NextPost bs bd gb bl od ev n c limit read start held ds w (.returned (.tuple #[])) (w7.setCell ⟨bd, 0, none⟩ (.slice (some ⟨N, 0, none⟩) n 4096)) := by
  have hk7 : Kept bs bd w w7 := ⟨hb.os.trans hk.os, hb.tape.trans hk.tape, hb.output.trans hk.output, Nat.le_trans hk.size hb.size, fun k h1 h2 h3 => (hb.block k (by omega)).trans (hk.block k h1 h2 h3)⟩
  refine ⟨rfl, ev', _, _, her, (hs.laterB hbs hbd hb).putData hne _, hk7.trans (Kept.setCell _ ⟨bd, 0, none⟩ _ (.inr rfl)), .inr ⟨hgr, N, splice cur 0 ds, hwN, rfl, rfl, ?_, ?_, ?_⟩⟩
  · rw [Below.heap_setCell _ _ _ _ (by simp; omega)]; exact hg
  · rw [length_splice _ _ _ (by omega)]; exact hcl
  · simp [splice, ← hdl]

theorem info5 : (Ybaf.prog.info? 5).map (fun i => (i.zero, i.size, i.bytes)) = some (some (.int .u8 0), 1, 1) := by kernel_rfl

set_option maxRecDepth 100000 in
set_option maxHeartbeats 2000000 in
theorem next_any (F : Interp) (bs bd gb bl od : Nat) (ev : Value) (n c : Nat) (limit read start held : Int) (w : World) (ds : List Value) (hF : F.answers w.tape) (hne : bs ≠ bd) (hgs : gb ≠ bs) (hgd : gb ≠ bd) (hn : n ≤ 16384) (hbl : bl ≤ 16384)
    (hds : ds.length = n) (hd1 : ∀ v ∈ ds, v.oneCell' = true) (hsrc : ∀ j v, ds[j]? = some v → w.cell? ⟨gb, od + j, none⟩ = some v)
    (hev : ev = .nilIface ∨ ∃ t v, ev = .iface t v)
    (hst : St w bs bd (.slice (some ⟨gb, 0, none⟩) bl bl) (.slice (some ⟨gb, od, none⟩) n c) ev limit read start held) :
    Calls Ybaf.prog 5 #[.pointer (some ⟨bd, 0, none⟩)] w (NextPost bs bd gb bl od ev n c limit read start held ds w) := by
  obtain ⟨a, ha⟩ : ∃ a : Option Addr, a = some ⟨gb, od, none⟩ := ⟨_, rfl⟩
  obtain ⟨bv, hbv⟩ : ∃ bv : Value, bv = .slice (some ⟨gb, 0, none⟩) bl bl := ⟨_, rfl⟩
  rw [← ha, ← hbv] at hst
  have HA := hide ha
  have HV := hide hbv
  have HDS := hide hsrc
  have HD1 := hide hd1
  have HDL := hide hds
  clear ha hbv hsrc hd1 hds
  have HS := hide hst
  obtain ⟨h1, h2, h3, h4, h5, h6, h7, h8, f1, f2, f3, f4, f5⟩ := hst
  go_enter Ybaf.func5, Ybaf.ntmps5
  go_wp2_with fail
  refine (counted_any bs bd read start held a n c _ hn h3 h4 h5 h6).mono ?_
  rintro e w1 ⟨rfl, k, rfl⟩
  go_upto_if 16 with fail
  have HS1 := hide ((unhide HS).later (below_draws w.heap.size w k))
  go_cut [] (fun wc => ∃ ev', ErrOk ev ev' (limit < countedOf read start held n) ∧ St wc bs bd bv (.slice a n c) ev' limit read start held ∧ Kept bs bd w wc)
  case first =>
    by_cases hov : limit < countedOf read start held n
    · rcases hev with rfl | ⟨t, v, rfl⟩
      · go_wp2_with fail
        go_region_with ((go_at_call 7; refine (failf_at F bd _ _ _ w _ hF h7 f5).mono ?_; rintro e w2 ⟨rfl, u, w3, hb3, rfl⟩))
        all_goals go_wp2
        all_goals go_meet
        all_goals exact ⟨_, .inr ⟨rfl, .inl ⟨hov, u, rfl⟩⟩, ((unhide HS).later (by assumption)).putErr hne _, (Kept.of_below (by assumption)).trans (Kept.setCell _ ⟨bd, 1, none⟩ _ (.inr rfl))⟩
      · go_wp2_with fail
        go_region_with ((go_at_call 7; refine (failf_kept bd _ _ v t w _ _ h7).mono ?_; rintro e w2 ⟨rfl, hb3⟩))
        all_goals go_wp2
        all_goals go_meet
        all_goals exact ⟨_, .inl ⟨t, v, rfl, rfl⟩, (unhide HS).later (by assumption), Kept.of_below (by assumption)⟩
    · go_wp2
      go_meet
      rcases hev with rfl | ⟨t, v, rfl⟩
      · exact ⟨_, .inr ⟨rfl, .inr ⟨Int.not_lt.2 hov, rfl⟩⟩, unhide HS1, Kept.of_below (below_draws _ _ _)⟩
      · exact ⟨_, .inl ⟨t, v, rfl, rfl⟩, unhide HS1, Kept.of_below (below_draws _ _ _)⟩
  case rest =>
    obtain ⟨ev', herr, hst2, hkept⟩ := hcut
    have HER := hide herr
    clear h1 h2 h3 h4 h5 h6 h7 h8 f1 f2 f3 f4 f5 HS HS1 hF hev herr
    have HS2 := hide hst2
    obtain ⟨h1, h2, h3, h4, h5, h6, h7, h8, f1, f2, f3, f4, f5⟩ := hst2
    have HK := hide hkept
    clear hkept h2 h7 f1 f4 f5
    go_upto_region 4 with fail
    go_cut [] (fun wd => St wd bs bd bv (.slice a n c) ev' limit read (IntKind.u64.wrap (read - (n : Int))) 0 ∧ Kept bs bd w wd)
    case first =>
      go_region
      go_wp2
      go_meet
      have HQ := (unhide HS2).putPos hne (IntKind.u64.wrap (read - (n : Int))) 0
      exact ⟨HQ.later ((Below.refl _ _).drew), (unhide HK).trans (((Kept.setCell _ ⟨bs, 4, none⟩ _ (.inl rfl)).trans (Kept.setCell _ ⟨bs, 5, none⟩ _ (.inl rfl))).trans (Kept.of_below ((Below.refl _ _).drew)))⟩
    case rest =>
      obtain ⟨hst3, hk3⟩ := hcut
      clear h1 h3 h4 h5 h6 h8 f2 f3 HS2 HK
      obtain rfl := unhide HA
      obtain rfl := unhide HV
      clear HA HV
      have HS3 := hide hst3
      have HK3 := hide hk3
      obtain ⟨h1, h2, h3, h4, h5, h6, h7, h8, f1, f2, f3, f4, f5⟩ := hst3
      clear hk3 h2 h3 h4 h5 h7 f2 f3 f5
      by_cases hgr : 4096 < bl ∧ n ≤ 2048
      · obtain ⟨g1, g2⟩ := id hgr
        have g1' : (4096 : Int) < (bl : Int) := by omega
        have g2' : (n : Int) ≤ 2048 := by omega
        obtain ⟨i0, hi, hz0, hz1, hz2⟩ := info_parts info5
        go_wp2_with (at_make; refine wpList_make_full _ rfl _ _ 24 rfl wc.heap.size 5 i0 (.int .u8 0) 1 Ybaf.underlying24 hi hz0 hz1 _ _ _ _ 4096 rfl rfl rfl rfl (by rw [hz2]; omega) (by unfold maxLen; omega) (Nat.le_refl _) ?_)
        intro w5 hown5 hgrow5
        have hb5 : Below wc.heap.size wc w5 := (Below.refl _ _).grown hgrow5 (Nat.le_refl _) (fun k h => by simp at h)
        obtain ⟨cur, hcl, _, hcur⟩ := row_block hown5
        have hbs : bs < wc.heap.size := World.block_lt_of_cell? _ _ h1
        have hbd : bd < wc.heap.size := World.block_lt_of_cell? _ _ h6
        have e1 := cell_later hb5 h1
        have e6 := cell_later hb5 h6
        have e8 := cell_later hb5 h8
        have q1 := frozen_later hb5 h1 f1
        have q4 := frozen_later hb5 h6 f4
        have HS5 := hide (((unhide HS3).later hb5).putBuf hne (.slice (some ⟨wc.heap.size, 0, none⟩) 4096 4096))
        have HK5 := hide (((unhide HK3).trans (Kept.of_below hb5)).trans (Kept.setCell _ ⟨bs, 1, none⟩ (.slice (some ⟨wc.heap.size, 0, none⟩) 4096 4096) (.inl rfl)))
        have HSRC := hide (src_later (v1 := .slice (some ⟨wc.heap.size, 0, none⟩) 4096 4096) hgs hgd (unhide HK3) hb5 (unhide HDS))
        have HCUR : Hid ((w5.setCell ⟨bs, 1, none⟩ (.slice (some ⟨wc.heap.size, 0, none⟩) 4096 4096)).heap[wc.heap.size]? = some (.cells cur.toArray 5 (0, 0))) := by
          show _ = _
          rw [Below.heap_setCell _ _ _ _ (by simp; omega)]
          exact hcur
        have hN : wc.heap.size ≤ w5.heap.size := hb5.size
        have hdl := unhide HDL
        have hne' : ¬ bd = bs := fun e => hne e.symm
        have HC := hide hcl
        clear hown5 hgrow5 hb5 hcur h1 h6 h8 f1 f4 HS3 hgr hcl HDL HDS
        go_upto_region 7 with fail
        clear e1 e6 e8 q1 q4
        have hbs6 : wc.heap.size ≤ (w5.setCell ⟨bs, 1, none⟩ (.slice (some ⟨wc.heap.size, 0, none⟩) 4096 4096)).heap.size := by simpa [World.setCell] using hN
        generalize w5.setCell ⟨bs, 1, none⟩ (.slice (some ⟨wc.heap.size, 0, none⟩) 4096 4096) = W6 at *
        have r1 := (unhide HS5).b
        have r6 := (unhide HS5).d
        have r8 := (unhide HS5).t
        have p4 := (unhide HS5).fd
        have g3' : (n : Int) ≤ 4096 := by omega
        go_region_law (refine step_copy_splice rfl (.tmp 75) (.tmp 79) 24 24 rfl 5 Ybaf.underlying24 (by kernel_rfl) _ _ _ _ _ _ rfl rfl wc.heap.size 0 cur 5 (by exact unhide HCUR) ds (by rw [hdl]; exact (Nat.min_eq_left (by omega)).symm) (by intro _; exact ⟨rfl, _, rfl, unhide HSRC⟩) (by rw [unhide HC, hdl]; omega) (unhide HD1) wc.heap.size W6 (by exact ⟨rfl, rfl, rfl, Nat.le_refl _, fun _ _ => rfl⟩) (Nat.le_refl _) ?_; intro w7 hg7 hb7; have r71 := (hb7.cell (p := ⟨bs, 1, none⟩) hbs).trans r1; have r76 := (hb7.cell (p := ⟨bd, 0, none⟩) hbd).trans r6; have r78 := (hb7.cell (p := ⟨bd, 2, none⟩) hbd).trans r8; have p74 := (hb7.frozen (p := ⟨bd, 0, none⟩) hbd).trans p4)
        have hwN : w.heap.size ≤ wc.heap.size := (unhide HK3).size
        all_goals
          go_end0
          exact next_close hne hbs hbd ⟨g1, g2⟩ (unhide HK3).size (unhide HER) (unhide HS5) (unhide HK5) (by assumption) (unhide (by assumption)) (unhide HC) hdl
      · by_cases g1 : 4096 < bl
        · have g1' : (4096 : Int) < (bl : Int) := by omega
          have g2' : ¬ (n : Int) ≤ 2048 := by omega
          clear hgr
          go_wp2
          go_end0
          exact ⟨rfl, ev', _, _, unhide HER, unhide HS3, unhide HK3, .inl ⟨by omega, rfl, rfl⟩⟩
        · have g1' : ¬ (4096 : Int) < (bl : Int) := by omega
          clear hgr
          go_wp2
          go_end0
          exact ⟨rfl, ev', _, _, unhide HER, unhide HS3, unhide HK3, .inl ⟨by omega, rfl, rfl⟩⟩
end Go.Proofs.YbulkankqFmt.Nx
