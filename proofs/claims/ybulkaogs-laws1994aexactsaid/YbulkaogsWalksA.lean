/- Contracts of (Object).Get, the closure in (Command).Status, Info, Status, StatusInfo, OnStatus, Describe, zzs1994aexpect. -/
import Derived.Test.YbulkaogsRows
import Derived.WalkKit
import Derived.WalkSpells
import Derived.WalkSmall
namespace Go.Proofs.Ybulkaogs.Ex
open Go.RowKit

theorem hide {p : Prop} (h : p) : Hid p := h
theorem unhide {p : Prop} (h : Hid p) : p := h

/-- A property's value: a string, or a number (its bits fb). -/
def val (fb : Nat) : Option ByteArray → Value
  | some s => .iface 9 (.string s)
  | none => .iface 22 (.float .f64 fb)

/-- The first property named key among the first n. -/
def res (K : Nat → ByteArray) (V : Nat → Option ByteArray) (key : ByteArray) : Nat → Option (Option ByteArray)
  | 0 => none
  | n + 1 => if K 0 = key then some (V 0) else res (fun i => K (i + 1)) (fun i => V (i + 1)) key n

/-- What Get answers. -/
def ans (fb : Nat) : Option (Option ByteArray) → Value
  | some v => .tuple #[val fb v, .bool true]
  | none => .tuple #[.nilIface, .bool false]

/-- What the closure makes of it. -/
def strOf : Option (Option ByteArray) → ByteArray
  | some (some s) => s
  | _ => ByteArray.empty

theorem res_drop {K : Nat → ByteArray} {V : Nat → Option ByteArray} {key : ByteArray} : ∀ {n k : Nat}, k ≤ n → (∀ j, j < k → ¬ K j = key) → res K V key n = res (fun i => K (k + i)) (fun i => V (k + i)) key (n - k)
  | n, 0, _, _ => by simp
  | 0, k + 1, h, _ => by omega
  | n + 1, k + 1, h, hj => by
    have h0 := hj 0 (by omega)
    rw [res, if_neg h0]
    rw [res_drop (n := n) (k := k) (by omega) (fun j hjk => hj (j + 1) (by omega))]
    have e : n + 1 - (k + 1) = n - k := by omega
    rw [e]
    congr 1
    · funext i; congr 1; omega
    · funext i; congr 1; omega

theorem res_hit {K : Nat → ByteArray} {V : Nat → Option ByteArray} {key : ByteArray} {n k : Nat} (hk : k < n) (hj : ∀ j, j < k → ¬ K j = key) (he : K k = key) : res K V key n = some (V k) := by
  rw [res_drop (Nat.le_of_lt hk) hj]
  obtain ⟨m, hm⟩ : ∃ m, n - k = m + 1 := ⟨n - k - 1, by omega⟩
  rw [hm]
  simp [res, he]

theorem res_miss {K : Nat → ByteArray} {V : Nat → Option ByteArray} {key : ByteArray} {n : Nat} (hj : ∀ j, j < n → ¬ K j = key) : res K V key n = none := by
  rw [res_drop (Nat.le_refl n) hj]
  simp [res]

/-- The properties lie in block b. -/
def Props (w : World) (a : Option Addr) (b n : Nat) (K : Nat → ByteArray) (V : Nat → Option ByteArray) (fb : Nat) : Prop :=
  (0 < n → a = some ⟨b, 0, none⟩) ∧ ∀ i, i < n → w.cell? ⟨b, i * 2, none⟩ = some (.string (K i)) ∧ w.cell? ⟨b, i * 2 + 1, none⟩ = some (val fb (V i))

theorem Props.later {w w' : World} {a : Option Addr} {b n : Nat} {K : Nat → ByteArray} {V : Nat → Option ByteArray} {fb : Nat} (h : Props w a b n K V fb) (hb : Below w.heap.size w w') : Props w' a b n K V fb :=
  ⟨h.1, fun i hi => ⟨cell_later hb (h.2 i hi).1, cell_later hb (h.2 i hi).2⟩⟩

theorem toList_ne {a b : ByteArray} (h : ¬ a = b) : (a.toList == b.toList) = false := by
  rw [beq_eq_false_iff_ne]
  intro e
  rw [ByteArray.toList_eq, ByteArray.toList_eq] at e
  exact h (ByteArray.ext (Array.toList_inj.mp e))

set_option maxHeartbeats 1000000 in
theorem get_any (a : Option Addr) (b n c : Nat) (K : Nat → ByteArray) (V : Nat → Option ByteArray) (fb : Nat) (key : ByteArray) (w : World) (hn : n ≤ 5) (hp : Props w a b n K V fb) :
    Calls Yba.prog 11 #[.slice a n c, .string key] w fun e w' => e = .returned (ans fb (res K V key n)) ∧ Below w.heap.size w w' := by
  have HP := hide hp
  clear hp
  go_enter Yba.func11, Yba.ntmps11
  go_wp2
  go_loopw [10] (fun i wr => ∃ k : Nat, k ≤ n ∧ i = .int .i64 k ∧ (∀ j, j < k → ¬ K j = key) ∧ Below w.heap.size w wr) (fun i _ => n - (intOf i).toNat)
  case atStart => exact ⟨0, Nat.zero_le _, rfl, by omega, Below.refl _ _⟩
  case round =>
    obtain ⟨k, hk, rfl, hall, hbr⟩ := hrel
    have HJ := hide hall
    have HB := hide hbr
    by_cases hlt : k < n
    · obtain rfl := (unhide HP).1 (by omega)
      obtain ⟨c1, c2⟩ := (unhide HP).2 k hlt
      have d1 := cell_later hbr c1
      have d2 := cell_later hbr c2
      have hlti : (k : Int) < (n : Int) := by omega
      have hsz := hbr.size
      clear hall hbr c1 c2
      by_cases he : K k = key
      · have HR := hide (res_hit (V := V) hlt (unhide HJ) he)
        have hb : ((K k).toList == key.toList) = true := by rw [he]; simp
        clear he
        cases hv : V k with
        | some s =>
          rw [hv] at d2 HR
          simp only [val] at d2
          clear hv
          go_wp2
          go_ret2
          exact ⟨by rw [unhide HR]; rfl, (unhide HB).alloc hsz _⟩
        | none =>
          rw [hv] at d2 HR
          simp only [val] at d2
          clear hv
          go_wp2
          go_ret2
          exact ⟨by rw [unhide HR]; rfl, (unhide HB).alloc hsz _⟩
      · have hb := toList_ne he
        have HE := hide he
        clear he
        cases hv : V k with
        | some s =>
          rw [hv] at d2
          simp only [val] at d2
          clear hv
          go_wp2
          go_roundw
          case rel => exact ⟨k + 1, by omega, by go_num, fun j hj => by
            rcases Nat.lt_succ_iff_lt_or_eq.1 hj with h | h
            · exact unhide HJ j h
            · rw [h]; exact unhide HE, (unhide HB).alloc hsz _⟩
          case measure => simp [intOf]; omega
        | none =>
          rw [hv] at d2
          simp only [val] at d2
          clear hv
          go_wp2
          go_roundw
          case rel => exact ⟨k + 1, by omega, by go_num, fun j hj => by
            rcases Nat.lt_succ_iff_lt_or_eq.1 hj with h | h
            · exact unhide HJ j h
            · rw [h]; exact unhide HE, (unhide HB).alloc hsz _⟩
          case measure => simp [intOf]; omega
    · have e : n = k := by omega
      subst e
      have HR := hide (res_miss (V := V) hall)
      clear hall hbr
      go_wp2
      go_ret2
      exact ⟨by rw [unhide HR]; rfl, unhide HB⟩

theorem ta_str (s : ByteArray) (w : World) : (Instr.typeAssert (.iface 9 (.string s)) 20 9 true).run Yba.prog w = .ok (.tuple #[.string s, .bool true]) w := by kernel_rfl
theorem ta_nil (w : World) : (Instr.typeAssert .nilIface 20 9 true).run Yba.prog w = .ok (.tuple #[.string ByteArray.empty, .bool false]) w := by kernel_rfl
theorem ta_flt (fb : Nat) (w : World) : (Instr.typeAssert (.iface 22 (.float .f64 fb)) 20 9 true).run Yba.prog w = .ok (.tuple #[.string ByteArray.empty, .bool false]) w := by kernel_rfl
theorem to_obj (a : Option Addr) (n c : Nat) (w : World) : (Instr.typeAssert (.iface 26 (.slice a n c)) 20 26 true).run Yba.prog w = .ok (.tuple #[.slice a n c, .bool true]) w := by kernel_rfl
theorem to_obj_str (s : ByteArray) (w : World) : (Instr.typeAssert (.iface 9 (.string s)) 20 26 true).run Yba.prog w = .ok (.tuple #[.slice none 0 0, .bool false]) w := by kernel_rfl

set_option maxHeartbeats 400000 in
theorem closure_any (bi : Nat) (a : Option Addr) (b n c : Nat) (K : Nat → ByteArray) (V : Nat → Option ByteArray) (fb : Nat) (key : ByteArray) (w : World) (hn : n ≤ 5) (hp : Props w a b n K V fb) (hc : w.cell? ⟨bi, 0, none⟩ = some (.slice a n c)) :
    Calls Yba.prog 10 #[.string key, .pointer (some ⟨bi, 0, none⟩)] w fun e w' => e = .returned (.string (strOf (res K V key n))) ∧ Below w.heap.size w w' := by
  obtain ⟨r, hr⟩ : ∃ r, res K V key n = r := ⟨_, rfl⟩
  rw [hr]
  have HR := hide hr
  clear hr
  have t1 := ta_str
  have t2 := ta_nil
  have t3 := ta_flt
  match r, HR with
  | some (some s), HR =>
    go_enter Yba.func10, Yba.ntmps10
    go_wp2_with fail
    refine (get_any a b n c K V fb key w hn hp).mono ?_
    rintro e w1 ⟨rfl, hb⟩
    rw [unhide HR]
    clear hp hc HR
    have HB := hide hb
    clear hb
    simp only [ans, val]
    go_wp2
    go_ret
    exact ⟨rfl, unhide HB⟩
  | some none, HR =>
    go_enter Yba.func10, Yba.ntmps10
    go_wp2_with fail
    refine (get_any a b n c K V fb key w hn hp).mono ?_
    rintro e w1 ⟨rfl, hb⟩
    rw [unhide HR]
    clear hp hc HR
    have HB := hide hb
    clear hb
    simp only [ans, val]
    go_wp2
    go_ret
    exact ⟨rfl, unhide HB⟩
  | none, HR =>
    go_enter Yba.func10, Yba.ntmps10
    go_wp2_with fail
    refine (get_any a b n c K V fb key w hn hp).mono ?_
    rintro e w1 ⟨rfl, hb⟩
    rw [unhide HR]
    clear hp hc HR
    have HB := hide hb
    clear hb
    simp only [ans]
    go_wp2
    go_ret
    exact ⟨rfl, unhide HB⟩

set_option maxHeartbeats 400000 in
theorem info_args (obj : Value) (ho : obj = .nilIface ∨ ∃ t x, obj = .iface t x) (ba na ca : Nat) (t : TypeId) (x : Value) (name : ByteArray) (tx : Nat) (hn : 0 < na) (w : World) (hc : w.cell? ⟨ba, 0, none⟩ = some (.iface t x)) :
    Calls Yba.prog 9 #[.agg #[.string name, .float .f64 tx, obj, .slice (some ⟨ba, 0, none⟩) na ca]] w fun e w' => e = .returned (.iface t x) ∧ Below w.heap.size w w' := by
  have hni : (0 : Int) < (na : Int) := by omega
  have hb0 : ba < w.heap.size := World.block_lt_of_cell? _ _ hc
  rcases ho with rfl | ⟨t', x', rfl⟩
  all_goals
    go_enter Yba.func9, Yba.ntmps9
    go_wp2
    go_ret
    exact ⟨rfl, (Below.refl _ _).alloc (Nat.le_refl _) _⟩

set_option maxHeartbeats 400000 in
theorem info_obj (t : TypeId) (x : Value) (name : ByteArray) (tx : Nat) (w : World) :
    Calls Yba.prog 9 #[.agg #[.string name, .float .f64 tx, .iface t x, .slice none 0 0]] w fun e w' => e = .returned (.iface t x) ∧ Below w.heap.size w w' := by
  go_enter Yba.func9, Yba.ntmps9
  go_wp2
  go_ret
  exact ⟨rfl, (Below.refl _ _).alloc (Nat.le_refl _) _⟩

def kLevel : ByteArray := { data := #[108, 101, 118, 101, 108] }
def kCode : ByteArray := { data := #[99, 111, 100, 101] }
def kDesc : ByteArray := { data := #[100, 101, 115, 99, 114, 105, 112, 116, 105, 111, 110] }

/-- A command, as a value; what it shows as its information object. -/
def cmdV (name : ByteArray) (obj args : Value) : Value := .agg #[.string name, .float .f64 0, obj, args]

/-- The command's information object leads to the properties. -/
def Shows (w : World) (obj args : Value) (a : Option Addr) (n c : Nat) : Prop :=
  (obj = .nilIface ∨ ∃ t x, obj = .iface t x) ∧
  ∃ t x ok, (∀ W, (Instr.typeAssert (.iface t x) 20 26 true).run Yba.prog W = .ok (.tuple #[.slice a n c, .bool ok]) W) ∧
    ((args = .slice none 0 0 ∧ obj = .iface t x) ∨ ∃ ba na ca, args = .slice (some ⟨ba, 0, none⟩) na ca ∧ 0 < na ∧ w.cell? ⟨ba, 0, none⟩ = some (.iface t x))

theorem Shows.later {w w' : World} {obj args : Value} {a : Option Addr} {n c : Nat} (h : Shows w obj args a n c) (hb : Below w.heap.size w w') : Shows w' obj args a n c := by
  obtain ⟨h0, t, x, ok, h1, h2 | ⟨ba, na, ca, h3, h4, h5⟩⟩ := h
  · exact ⟨h0, t, x, ok, h1, .inl h2⟩
  · exact ⟨h0, t, x, ok, h1, .inr ⟨ba, na, ca, h3, h4, cell_later hb h5⟩⟩

theorem info_any (name : ByteArray) (obj args : Value) (a : Option Addr) (n c : Nat) (w : World) (h : Shows w obj args a n c) :
    ∃ t x ok, (∀ W, (Instr.typeAssert (.iface t x) 20 26 true).run Yba.prog W = .ok (.tuple #[.slice a n c, .bool ok]) W) ∧
      Calls Yba.prog 9 #[.agg #[.string name, .float .f64 0, obj, args]] w fun e w' => e = .returned (.iface t x) ∧ Below w.heap.size w w' := by
  obtain ⟨h0, t, x, ok, h1, ⟨rfl, rfl⟩ | ⟨ba, na, ca, rfl, h4, h5⟩⟩ := h
  · exact ⟨t, x, ok, h1, info_obj t x name 0 w⟩
  · exact ⟨t, x, ok, h1, info_args obj h0 ba na ca t x name 0 h4 w h5⟩

set_option maxHeartbeats 1000000 in
theorem status_any (name : ByteArray) (obj : Value) (ao : Option Addr) (na ca : Nat) (a : Option Addr) (b n c : Nat) (K : Nat → ByteArray) (V : Nat → Option ByteArray) (fb : Nat) (w : World) (hn : n ≤ 5) (hs : Shows w obj (.slice ao na ca) a n c) (hp : Props w a b n K V fb) :
    Calls Yba.prog 7 #[.agg #[.string name, .float .f64 0, obj, .slice ao na ca]] w fun e w' => e = .returned (.tuple #[.string (strOf (res K V kLevel n)), .string (strOf (res K V kCode n)), .string (strOf (res K V kDesc n))]) ∧ Below w.heap.size w w' := by
  have hb0 : Below w.heap.size w (w.alloc (.cells #[.string name, .float .f64 0, obj, .slice ao na ca] 29)) := (Below.refl _ _).alloc (Nat.le_refl _) _
  have HB0 := hide hb0
  obtain ⟨t, x, ok, hta, hcall⟩ := info_any name obj (.slice ao na ca) a n c _ (hs.later hb0)
  have HC := hide hcall
  have HP := hide hp
  have ho := hs.1
  clear hb0 hcall hp hs
  have core : ∀ o, o = obj → Calls Yba.prog 7 #[.agg #[.string name, .float .f64 0, obj, .slice ao na ca]] w fun e w' => e = .returned (.tuple #[.string (strOf (res K V kLevel n)), .string (strOf (res K V kCode n)), .string (strOf (res K V kDesc n))]) ∧ Below w.heap.size w w' := by
    intro o hoo
    clear hoo
    rcases ho with rfl | ⟨t', x', rfl⟩
    all_goals
      go_enter Yba.func7, Yba.ntmps7
      go_wp2_with fail
      refine (unhide HC).mono ?_
      rintro e w1 ⟨rfl, hb1⟩
      have HB1 := hide ((unhide HB0).trans (hb1.mono (unhide HB0).size))
      have HP1 := hide ((unhide HP).later (unhide HB1))
      clear hb1 HC HB0 HP
      dsimp only
      go_wp2_with fail
      have hb2 : Below w1.heap.size w1 (w1.alloc (.cells #[.slice a n c] 26)) := (Below.refl _ _).alloc (Nat.le_refl _) _
      have hc2 : (w1.alloc (.cells #[.slice a n c] 26)).cell? ⟨w1.heap.size, 0, none⟩ = some (.slice a n c) := by simp
      have hp2 := (unhide HP1).later hb2
      have HB2 := hide ((unhide HB1).trans (hb2.mono (unhide HB1).size))
      refine (closure_any w1.heap.size a b n c K V fb kLevel _ hn hp2 hc2).mono ?_
      rintro e w3 ⟨rfl, hb3⟩
      have hp3 := hp2.later hb3
      have hc3 := cell_later hb3 hc2
      have HB3 := hide ((unhide HB2).trans (hb3.mono (unhide HB2).size))
      have HX3 := hide (And.intro hp3 hc3)
      clear hb2 hc2 hp2 hb3 hp3 hc3 HB1 HP1 HB2
      generalize w1.heap.size = bi at *
      dsimp only
      go_wp2_with fail
      refine (closure_any bi a b n c K V fb kCode _ hn (unhide HX3).1 (unhide HX3).2).mono ?_
      rintro e w4 ⟨rfl, hb4⟩
      have HX4 := hide (And.intro ((unhide HX3).1.later hb4) (cell_later hb4 (unhide HX3).2))
      have HB4 := hide ((unhide HB3).trans (hb4.mono (unhide HB3).size))
      clear hb4 HX3 HB3
      dsimp only
      go_wp2_with fail
      refine (closure_any bi a b n c K V fb kDesc _ hn (unhide HX4).1 (unhide HX4).2).mono ?_
      rintro e w5 ⟨rfl, hb5⟩
      have HB5 := hide ((unhide HB4).trans (hb5.mono (unhide HB4).size))
      clear hb5 HX4 HB4
      dsimp only
      go_wp2
      go_ret3
      exact ⟨rfl, unhide HB5⟩
  exact core obj rfl

/-- What is said of a command: its name, its code, its description. -/
def descr (name code desc : ByteArray) : ByteArray :=
  let s := if code.size = 0 then name else name ++ ({ data := #[32] } ++ code)
  if desc.size = 0 then s else s ++ ({ data := #[58, 32] } ++ desc)

theorem isEmpty_of {s : ByteArray} (h : s.size = 0) : s = ByteArray.empty := by
  apply ByteArray.ext
  have : s.data.size = 0 := h
  simpa using Array.eq_empty_of_size_eq_zero this

theorem toList_empty {s : ByteArray} : s.toList.isEmpty = decide (s.size = 0) := by
  rw [ByteArray.toList_eq]
  have : s.size = s.data.size := rfl
  rw [this]
  cases h : s.data with
  | mk l => cases l <;> simp

theorem ret_str {a b : ByteArray} (h : a = b) : Ending.returned (.string a) = .returned (.string b) := by rw [h]
theorem mk_size (l : Array UInt8) : ({ data := l } : ByteArray).size = l.size := rfl
theorem mk1 : ({ data := #[32] } : ByteArray).size = 1 := rfl
theorem mk2 : ({ data := #[58, 32] } : ByteArray).size = 2 := rfl

set_option maxHeartbeats 1000000 in
theorem expect_any (name code desc : ByteArray) (w : World) (h1 : name.size ≤ 65536) (h2 : code.size ≤ 65536) (h3 : desc.size ≤ 65536) :
    Calls Yba.prog 6 #[.string name, .string code, .string desc] w fun e w' => e = .returned (.string (descr name code desc)) ∧ w' = w := by
  have m1 := mk1
  have m2 := mk2
  by_cases c2 : code.size = 0
  · have b2 : code.toList.isEmpty = true := by rw [toList_empty]; simp [c2]
    by_cases c3 : desc.size = 0
    · have b3 : desc.toList.isEmpty = true := by rw [toList_empty]; simp [c3]
      have HF := hide (show descr name code desc = name by simp [descr, c2, c3])
      clear c2 c3
      go_enter Yba.func6, Yba.ntmps6
      go_wp2
      go_ret
      exact ⟨ret_str (unhide HF).symm, rfl⟩
    · have b3 : desc.toList.isEmpty = false := by rw [toList_empty]; simp [c3]
      have HF := hide (show descr name code desc = name ++ { data := #[58, 32] } ++ desc by simp [descr, c2, c3, ByteArray.append_assoc])
      have s1 : (name ++ { data := #[58, 32] } : ByteArray).size ≤ 70000 := by rw [ByteArray.size_append, mk2]; omega
      clear c2 c3
      go_enter Yba.func6, Yba.ntmps6
      go_wp2
      go_ret
      exact ⟨ret_str (unhide HF).symm, rfl⟩
  · have b2 : code.toList.isEmpty = false := by rw [toList_empty]; simp [c2]
    have s1 : (name ++ { data := #[32] } : ByteArray).size ≤ 70000 := by rw [ByteArray.size_append, mk1]; omega
    by_cases c3 : desc.size = 0
    · have b3 : desc.toList.isEmpty = true := by rw [toList_empty]; simp [c3]
      have HF := hide (show descr name code desc = name ++ { data := #[32] } ++ code by simp [descr, c2, c3, ByteArray.append_assoc])
      clear c2 c3
      go_enter Yba.func6, Yba.ntmps6
      go_wp2
      go_ret
      exact ⟨ret_str (unhide HF).symm, rfl⟩
    · have b3 : desc.toList.isEmpty = false := by rw [toList_empty]; simp [c3]
      have HF := hide (show descr name code desc = name ++ { data := #[32] } ++ code ++ { data := #[58, 32] } ++ desc by simp [descr, c2, c3, ByteArray.append_assoc])
      have s2 : (name ++ { data := #[32] } ++ code : ByteArray).size ≤ 200000 := by rw [ByteArray.size_append]; omega
      have s3 : (name ++ { data := #[32] } ++ code ++ { data := #[58, 32] } : ByteArray).size ≤ 200010 := by rw [ByteArray.size_append, mk2]; omega
      clear c2 c3
      go_enter Yba.func6, Yba.ntmps6
      go_wp2
      go_ret
      exact ⟨ret_str (unhide HF).symm, rfl⟩

set_option maxHeartbeats 1000000 in
theorem describe_any (name : ByteArray) (obj : Value) (ao : Option Addr) (na ca : Nat) (a : Option Addr) (b n c : Nat) (K : Nat → ByteArray) (V : Nat → Option ByteArray) (fb : Nat) (w : World) (hn : n ≤ 5) (hs : Shows w obj (.slice ao na ca) a n c) (hp : Props w a b n K V fb)
    (code desc : ByteArray) (hcode : strOf (res K V kCode n) = code) (hdesc : strOf (res K V kDesc n) = desc) (h1 : name.size ≤ 65536) (h2 : code.size ≤ 65536) (h3 : desc.size ≤ 65536) :
    Calls Yba.prog 4 #[.agg #[.string name, .float .f64 0, obj, .slice ao na ca]] w fun e w' => e = .returned (.string (descr name code desc)) ∧ Below w.heap.size w w' := by
  have m1 := mk1
  have m2 := mk2
  have hb0 : Below w.heap.size w (w.alloc (.cells #[.string name, .float .f64 0, obj, .slice ao na ca] 29)) := (Below.refl _ _).alloc (Nat.le_refl _) _
  have hst := status_any name obj ao na ca a b n c K V fb _ hn (hs.later hb0) (hp.later hb0)
  rw [hcode, hdesc] at hst
  generalize strOf (res K V kLevel n) = lv at hst
  have HST := hide hst
  have HB0 := hide hb0
  have ho := hs.1
  clear hst hb0 hs hp hcode hdesc
  have s1 : ({ data := #[32] } ++ code : ByteArray).size ≤ 70000 := by rw [ByteArray.size_append, mk1]; omega
  have s2 : (name ++ ({ data := #[32] } ++ code) : ByteArray).size ≤ 200000 := by rw [ByteArray.size_append]; omega
  have s3 : ({ data := #[58, 32] } ++ desc : ByteArray).size ≤ 70000 := by rw [ByteArray.size_append, mk2]; omega
  have key : ∃ t2 t3 : Bool, code.toList.isEmpty = t2 ∧ desc.toList.isEmpty = t3 ∧ descr name code desc = (if t3 then (if t2 then name else name ++ ({ data := #[32] } ++ code)) else (if t2 then name else name ++ ({ data := #[32] } ++ code)) ++ ({ data := #[58, 32] } ++ desc)) := by
    refine ⟨_, _, rfl, rfl, ?_⟩
    rw [toList_empty, toList_empty]
    simp [descr]
  obtain ⟨t2, t3, b2, b3, hd⟩ := key
  have HD := hide hd
  clear hd
  rcases ho with rfl | ⟨t', x', rfl⟩
  all_goals
    cases t2
    all_goals
      cases t3
      all_goals
        go_enter Yba.func4, Yba.ntmps4
        go_wp2_with fail
        refine (unhide HST).mono ?_
        rintro e w1 ⟨rfl, hb1⟩
        have HB1 := hide ((unhide HB0).trans (hb1.mono (unhide HB0).size))
        have hcn := cell_later hb1 (show (w.alloc (.cells #[.string name, .float .f64 0, _, .slice ao na ca] 29)).cell? ⟨w.heap.size, 0, none⟩ = some (.string name) by simp)
        clear hb1 HST HB0
        dsimp only
        go_wp2
        go_ret
        exact ⟨ret_str (unhide HD).symm, unhide HB1⟩
end Go.Proofs.Ybulkaogs.Ex
