import Derived.Test.Qxb6627603aLeaf
import Derived.Deep.Cut
import Derived.Deep.CutBlock
import Derived.Deep.CutRange
namespace Go.Proofs.Qxb6627603a
open Go.ChangeShapes Go.WideShapes Go.ChangeAt Go.RowKit

set_option maxHeartbeats 1000000 in
theorem bytes8_any (a b c d e f g : ByteArray) (p : Int) (w : World) (h : a.size + b.size + c.size + d.size + e.size + f.size + g.size ≤ 1048576) :
    Calls Try.prog 8 #[.string a, .string b, .string c, .string d, .string e, .string f, .string g, .int .i64 p] w fun x w' => x = .returned (.bool true) ∧ w' = w := by
  go_enter Try.func8, Try.ntmps8
  go_wp2
  go_ret
  exact ⟨rfl, rfl⟩
set_option maxHeartbeats 1000000 in
theorem bytes8_no (a b c d e f g : ByteArray) (p : Int) (w : World) (ha : a.size ≤ maxLen) (hb : b.size ≤ maxLen) (hc : c.size ≤ maxLen) (hd : d.size ≤ maxLen) (he : e.size ≤ maxLen) (hf : f.size ≤ maxLen) (hg : g.size ≤ maxLen)
    (h : 1048576 < a.size + b.size + c.size + d.size + e.size + f.size + g.size) :
    Calls Try.prog 8 #[.string a, .string b, .string c, .string d, .string e, .string f, .string g, .int .i64 p] w fun x w' => x = .returned (.bool false) ∧ w' = w := by
  unfold maxLen at ha hb hc hd he hf hg
  go_enter Try.func8, Try.ntmps8
  go_wp2
  all_goals
    go_ret
    exact ⟨rfl, rfl⟩

/-- Six strings lie in block b. -/
def Lies (wx : World) (n : Nat) (a b c d e f : ByteArray) : Prop :=
  wx.heap[n]? = some (.cells #[.string a, .string b, .string c, .string d, .string e, .string f] 28)

theorem Lies.alloc {wx : World} {n : Nat} {a b c d e f : ByteArray} (h : Lies wx n a b c d e f) (o : Obj) : Lies (wx.alloc o) n a b c d e f := by
  have hn : n < wx.heap.size := (Array.getElem?_eq_some_iff.1 h).1
  unfold Lies
  rw [Below.heap_alloc _ _ _ hn]
  exact h
theorem Lies.drew {wx : World} {n : Nat} {a b c d e f : ByteArray} (h : Lies wx n a b c d e f) : Lies wx.drew n a b c d e f := h
theorem Lies.lt {wx : World} {n : Nat} {a b c d e f : ByteArray} (h : Lies wx n a b c d e f) : n < wx.heap.size := (Array.getElem?_eq_some_iff.1 h).1
theorem Lies.cell {wx : World} {n : Nat} {a b c d e f : ByteArray} (h : Lies wx n a b c d e f) (j : Nat) : wx.cell? ⟨n, j, none⟩ = (#[Value.string a, .string b, .string c, .string d, .string e, .string f])[j]? := by
  unfold Lies at h
  simp [World.cell?, h]

/-- Both tuples lie where they were laid, and nothing old has turned. -/
def Two (w wx : World) (a b c d e f b' c' d' e' f' : ByteArray) : Prop :=
  Grown w wx ∧ Lies wx (w.heap.size + 1) a b c d e f ∧ Lies wx (w.heap.size + 1 + 1 + 1) a b' c' d' e' f'

theorem Two.alloc {w wx : World} {a b c d e f b' c' d' e' f' : ByteArray} (h : Two w wx a b c d e f b' c' d' e' f') (C : Array Value) (t : TypeId) : Two w (wx.alloc (.cells C t)) a b c d e f b' c' d' e' f' :=
  ⟨h.1.alloc _ _, h.2.1.alloc _, h.2.2.alloc _⟩
theorem Two.drew {w wx : World} {a b c d e f b' c' d' e' f' : ByteArray} (h : Two w wx a b c d e f b' c' d' e' f') : Two w wx.drew a b c d e f b' c' d' e' f' := h

theorem two_start (w : World) (a b c d e f b' c' d' e' f' : ByteArray) :
    Two w ((((w.alloc (.cells #[.string a, .string b, .string c, .string d, .string e, .string f] 28)).alloc (.cells #[.string a, .string b, .string c, .string d, .string e, .string f] 28)).alloc
      (.cells #[.string a, .string b', .string c', .string d', .string e', .string f'] 28)).alloc (.cells #[.string a, .string b', .string c', .string d', .string e', .string f'] 28)) a b c d e f b' c' d' e' f' := by
  have new : ∀ (x : World) (o : Obj), (x.alloc o).heap[x.heap.size]? = some o := fun x o => (MapKept.heap_alloc x o).1
  have sz : ∀ (x : World) (o : Obj), (x.alloc o).heap.size = x.heap.size + 1 := fun x o => by simp
  refine ⟨((((Grown.refl w).alloc _ _).alloc _ _).alloc _ _).alloc _ _, ?_, ?_⟩
  · refine Lies.alloc (Lies.alloc ?_ _) _
    have := new (w.alloc (.cells #[.string a, .string b, .string c, .string d, .string e, .string f] 28)) (.cells #[.string a, .string b, .string c, .string d, .string e, .string f] 28)
    rw [sz] at this
    exact this
  · have := new (((w.alloc (.cells #[.string a, .string b, .string c, .string d, .string e, .string f] 28)).alloc (.cells #[.string a, .string b, .string c, .string d, .string e, .string f] 28)).alloc
      (.cells #[.string a, .string b', .string c', .string d', .string e', .string f'] 28)) (.cells #[.string a, .string b', .string c', .string d', .string e', .string f'] 28)
    rw [sz, sz, sz] at this
    exact this

theorem rel_moves {A B G : Int} (h0 : 0 ≤ G) (h1 : G ≤ 1048576) : (IntKind.i64.wrap (A + 1 + (B + G) + 2 - (A + 1 + B + 2)) != G) = false := by
  have e : A + 1 + (B + G) + 2 - (A + 1 + B + 2) = G := by omega
  have e2 : IntKind.i64.wrap G = G := by rw [IntKind.wrap_i64]; omega
  rw [e, e2]
  simp
theorem sub_moves {A B C G : Int} : (IntKind.i64.wrap (A + 1 + (B + G) + (C + G) + 3 - (A + 1 + B + C + 3)) != IntKind.i64.wrap (2 * G)) = false := by
  have e : A + 1 + (B + G) + (C + G) + 3 - (A + 1 + B + C + 3) = 2 * G := by omega
  rw [e]
  simp
theorem bool_val {a b : Bool} (h : a = b) : Value.bool a = Value.bool b := by rw [h]

theorem col_obj (a b c d e f : ByteArray) (w : World) :
    Calls Try.prog 7 #[.agg #[.string a, .string b, .string c, .string d, .string e, .string f], .int .i64 0] w fun x w' => x = .returned (.int .i64 1) ∧
      w' = w.alloc (.cells #[.string a, .string b, .string c, .string d, .string e, .string f] 28) := col_other a b c d e f 0 w rfl rfl
end Go.Proofs.Qxb6627603a
