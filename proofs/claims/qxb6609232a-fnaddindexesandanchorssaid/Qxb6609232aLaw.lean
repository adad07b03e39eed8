import Derived.Test.Qxb6609232aZz
import Derived.Test.Qxb6609232aPlain
namespace Go.Proofs.Qxb6609232a.T
open Go.RowKit Go.Maps Go.ChangeShapes Go.WideShapes Go.ChangeAt Go.WideMaps Go.WideElems
set_option linter.unusedVariables false
attribute [local go_sem ↓] Go.wp_at_zero Go.wp_at_succ
structure Step where
  r0 : Int
  r1 : Int
  r2 : Int
  r3 : Int
  r4 : Int
  r5 : Int
  r6 : Int
  r7 : Int
  p0 : Int
  p1 : Int
  a : ByteArray
  p3 : Int
  p4 : Bool
  p5 : Bool
  p6 : Bool
def Step.cells (s : Step) : List Value := [.int .u32 s.r0, .int .u32 s.r1, .int .u32 s.r2, .int .u32 s.r3, .int .u8 s.r4, .int .u8 s.r5, .int .u8 s.r6, .int .u8 s.r7, .int .i64 s.p0, .int .i64 s.p1, .string s.a, .int .u8 s.p3, .bool s.p4, .bool s.p5, .bool s.p6]
/-- the argument as it lies in memory -/
structure Arg (w : World) (ss : List Step) (ad : Option Addr) (b off : Nat) : Prop where
  ad : 0 < ss.length → ad = some ⟨b, off, none⟩
  cell : ∀ (k : Nat) (s : Step), ss[k]? = some s → ∀ (f : Nat) (v : Value), s.cells[f]? = some v → w.cell? ⟨b, off + k * 15 + f, none⟩ = some v
  siz : ∀ (k : Nat) (s : Step), ss[k]? = some s → s.a.size ≤ maxLen
def AnyBool (e : Ending) : Prop := ∃ x : Bool, e = .returned (.bool x)
set_option maxHeartbeats 1000000 in
theorem bytes4 (ss : List Step) (ad : Option Addr) (b off cap : Nat) (w : World) (h : Arg w ss ad b off) (hl : ss.length ≤ maxLen) :
    Calls Try.prog 4 #[.slice ad ss.length cap] w fun e w' => AnyBool e ∧ w' = w := by
  have HA := hide h
  clear h
  unfold maxLen at hl
  by_cases h1 : ss.length ≤ 1048576
  · have h1' : (ss.length : Int) ≤ 1048576 := by omega
    generalize hlen : ss.length = len at *
    have HL := hide hlen
    clear hlen
    go_enter Try.func4, Try.ntmps4
    go_wp2_with fail
    go_loop [3, 4] (fun z i => ∃ (k : Nat) (y : Int), k ≤ len ∧ i = .int .i64 k ∧ z = .int .i64 y) (fun _ i => len - (intOf i).toNat)
    case atStart => exact ⟨0, _, by omega, rfl, rfl⟩
    case round =>
      obtain ⟨k, y, hk, rfl, rfl⟩ := hrel
      by_cases hlt : k < len
      · obtain ⟨s, hs⟩ : ∃ s, ss[k]? = some s := ⟨_, List.getElem?_eq_getElem (by have := HL.out; omega)⟩
        obtain rfl := HA.out.ad (by have := HL.out; omega)
        have hlt' : (k : Int) < len := by omega
        have c10 : w.cell? ⟨b, off + k * 15 + 10, none⟩ = some (.string s.a) := HA.out.cell k s hs 10 _ rfl
        go_wp2_with fail
        · go_ret
          exact ⟨⟨_, rfl⟩, rfl⟩
        · go_ret
          exact ⟨⟨_, rfl⟩, rfl⟩
        · go_round
          case rel => exact ⟨k + 1, _, by omega, by go_num, rfl⟩
          case measure => simp [intOf]; omega
      · go_wp2_with fail
        go_ret
        exact ⟨⟨_, rfl⟩, rfl⟩
  · have h1' : (1048576 : Int) < ss.length := by omega
    go_enter Try.func4, Try.ntmps4
    go_wp2
    go_ret
    exact ⟨⟨_, rfl⟩, rfl⟩
/-! ### a new reader -/
set_option maxRecDepth 10000 in
set_option maxHeartbeats 1000000 in
theorem newReader (B : Nat) (w : World) (hB : B ≤ w.heap.size) :
    Calls Try.prog 5 #[] w fun e w' => e = .returned (.pointer (some ⟨w.heap.size + 1, 0, none⟩)) ∧ Below B w w' ∧ RX B w' (w.heap.size + 1) w.heap.size [] (.map []) := by
  go_enter Try.func5, Try.ntmps5
  go_wp2_with fail
  go_ret
  refine ⟨rfl, ((Below.refl B w).alloc hB _).alloc (by simp; omega) _, ?_⟩
  have e1 := two_alloc w
  refine ⟨_, none, 0, .slice none 0 0, (#[.string ⟨#[]⟩, .slice none 0 0, .slice none 0 0, .int .u32 0, .slice none 0 0, .int .u32 0, .slice none 0 0, .map none, .bool false, .map none, .bool false, .int .u32 0] : Array Value), fun _ => 0, fun _ => 0, 0, by omega, e1 _ _, rfl, rfl, rfl, .inl ⟨rfl, rfl⟩, Nat.le_refl _, by simp, by simp, fun _ => rfl, ?_⟩
  refine ⟨hB, (Below.heap_alloc (w.alloc _) _ _ (by simp)).trans (heap_alloc_new w _), rfl, rfl, rfl, ⟨rfl, .inl ⟨rfl, rfl⟩⟩, fun j hj => by omega, fun i j hi => by omega, fun r hr => by cases hr⟩
/-! ### the law -/
theorem RX.keepAll {B : Nat} {w w' : World} {bp bt : Nat} {rs : List (List Value)} {D : DataW Unit} (h : RX B w bp bt rs D) (hk : ∀ b, b < w.heap.size → w'.heap[b]? = w.heap[b]?) : RX B w' bp bt rs D := by
  obtain ⟨rcs, mo, nb, vb, tcs, G, C, n, h⟩ := h
  exact ⟨rcs, mo, nb, vb, tcs, G, C, n, h.keepAll hk⟩
theorem RX.alloc {B : Nat} {w : World} {bp bt : Nat} {rs : List (List Value)} {D : DataW Unit} (h : RX B w bp bt rs D) (o : Obj) : RX B (w.alloc o) bp bt rs D := h.keepAll fun b hb => Below.heap_alloc _ _ _ hb
theorem RX.drewN {B : Nat} {w : World} {bp bt : Nat} {rs : List (List Value)} {D : DataW Unit} (h : RX B w bp bt rs D) (n : Nat) : RX B (w.drewN n) bp bt rs D := h.keepAll fun b hb => rfl
def recOf (s : Step) : List Value := rec1 s.a s.r0 s.r1 s.r2 s.r3 s.r4 s.r5 s.r6 s.r7
def recs (ss : List Step) (k : Nat) : List (List Value) := (ss.take k).map recOf
def keys (ss : List Step) : List (List UInt8) := ss.map fun s => s.a.data.toList
theorem recs_len (ss : List Step) (k : Nat) (h : k ≤ ss.length) : (recs ss k).length = k := by unfold recs; simp; omega
theorem recs_succ (ss : List Step) (k : Nat) (s : Step) (h : ss[k]? = some s) : recs ss (k + 1) = recs ss k ++ [recOf s] := by
  unfold recs
  rw [List.take_add_one, h]; simp
theorem recs_get (ss : List Step) (k : Nat) (s : Step) (h : ss[k]? = some s) : (recs ss ss.length)[k]? = some (recOf s) := by
  unfold recs
  rw [List.take_length, List.getElem?_map, h]; rfl
theorem keys_get (ss : List Step) (k : Nat) (s : Step) (h : ss[k]? = some s) : (keys ss).getD k [] = s.a.data.toList := by
  unfold keys
  rw [List.getD_eq_getElem?_getD, List.getElem?_map, h]; rfl
theorem empty_iff (a : ByteArray) : a.toList.isEmpty = true ↔ a.data.toList = [] := by rw [ByteArray.toList_eq, List.isEmpty_iff]
theorem Dm_step (ss : List Step) (k : Nat) (s : Step) (h : ss[k]? = some s) : Dm (keys ss) (k + 1) = put1 s.a k (Dm (keys ss) k) := by
  rw [Dm, keys_get ss k s h]
  unfold put1
  cases he : s.a.toList.isEmpty
  · rw [if_neg (fun e => by rw [(empty_iff s.a).2 e] at he; cases he), if_neg (by simp)]
  · rw [if_pos ((empty_iff s.a).1 he), if_pos rfl]
theorem anchorAt_v (B bp bt : Nat) (rs : List (List Value)) (D : DataW Unit) (a : ByteArray) (j : Nat) (w : World) (h : RX B w bp bt rs D) (ha : a.size ≤ maxLen) (h1 : Maps.has D (.string a.data.toList) = true) (h2 : ∀ z, D.atKey (.string a.data.toList) z = .lit (.int .u32 j)) :
    Calls Try.prog 9 #[.pointer (some ⟨bp, 0, none⟩), .string a] w fun e w' => e = .returned (.tuple #[.int .u32 j, .bool true]) ∧ w' = w := by
  refine (anchorAt B bp bt rs D a w h ha).mono ?_
  rintro e w' ⟨c, rfl, hat, _, rfl⟩
  rw [h2] at hat
  cases hat
  rw [h1]
  exact ⟨rfl, rfl⟩
theorem anchorAt_none (B bp bt : Nat) (rs : List (List Value)) (D : DataW Unit) (a : ByteArray) (w : World) (h : RX B w bp bt rs D) (ha : a.size ≤ maxLen) (h1 : Maps.has D (.string a.data.toList) = false) :
    Calls Try.prog 9 #[.pointer (some ⟨bp, 0, none⟩), .string a] w fun e w' => e = .returned (.tuple #[.int .u32 0, .bool false]) ∧ w' = w := by
  refine (anchorAt B bp bt rs D a w h ha).mono ?_
  rintro e w' ⟨c, rfl, hat, _, rfl⟩
  rw [atKey_of_not_has h1] at hat
  cases hat
  rw [h1]
  exact ⟨rfl, rfl⟩
end Go.Proofs.Qxb6609232a.T
