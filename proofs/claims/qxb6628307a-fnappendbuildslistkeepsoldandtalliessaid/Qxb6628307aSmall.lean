/-
  CONTRACTS of the small functions on the road: links' getters, lengths, entries.
-/
import Derived.Test.Qxb6628307aRows
import Derived.Test.Qxb6628307aSkew
import Derived.WalkKit
import Derived.WalkSpells
import Derived.WalkLawsBesides
namespace Go.Proofs.Qxb6628307a
open Go.RowKit

/-- an entry, as data -/
structure Ent where
  m : Int
  n : Int
  s : ByteArray
def Ent.val (e : Ent) : Value := .agg #[.int .i64 e.m, .int .i64 e.n, .string e.s]

/-- block b is a link -/
structure LinkAt (w : World) (b : Nat) (m n : Int) (s : ByteArray) (prev jump : Option Addr) (len : Int) : Prop where
  c0 : w.cell? ⟨b, 0, none⟩ = some (.int .i64 m)
  c1 : w.cell? ⟨b, 1, none⟩ = some (.int .i64 n)
  c2 : w.cell? ⟨b, 2, none⟩ = some (.string s)
  c3 : w.cell? ⟨b, 3, none⟩ = some (.pointer prev)
  c4 : w.cell? ⟨b, 4, none⟩ = some (.pointer jump)
  c5 : w.cell? ⟨b, 5, none⟩ = some (.int .i64 len)

set_option maxHeartbeats 400000 in
theorem length_nil (w : World) :
    Calls Try.prog 18 #[.pointer none] w fun e w' => e = .returned (.int .i64 0) ∧ w' = w := by
  go_enter Try.func18, Try.ntmps18
  go_wp2
  go_ret
  exact ⟨rfl, rfl⟩

set_option maxHeartbeats 400000 in
theorem length_some (b : Nat) (n : Int) (w : World) (h : w.cell? ⟨b, 5, none⟩ = some (.int .i64 n)) :
    Calls Try.prog 18 #[.pointer (some ⟨b, 0, none⟩)] w fun e w' => e = .returned (.int .i64 n) ∧ w' = w := by
  go_enter Try.func18, Try.ntmps18
  go_wp2
  go_ret
  exact ⟨rfl, rfl⟩

set_option maxHeartbeats 400000 in
theorem prev_any (b : Nat) (p : Option Addr) (w : World) (h : w.cell? ⟨b, 3, none⟩ = some (.pointer p)) :
    Calls Try.prog 10 #[.pointer (some ⟨b, 0, none⟩)] w fun e w' => e = .returned (.pointer p) ∧ w' = w := by
  go_enter Try.func10, Try.ntmps10
  go_wp2
  go_ret
  exact ⟨rfl, rfl⟩

set_option maxHeartbeats 400000 in
theorem jump_any (b : Nat) (p : Option Addr) (w : World) (h : w.cell? ⟨b, 4, none⟩ = some (.pointer p)) :
    Calls Try.prog 16 #[.pointer (some ⟨b, 0, none⟩)] w fun e w' => e = .returned (.pointer p) ∧ w' = w := by
  go_enter Try.func16, Try.ntmps16
  go_wp2
  go_ret
  exact ⟨rfl, rfl⟩

set_option maxHeartbeats 400000 in
theorem linkLen_any (b : Nat) (n : Int) (w : World) (h : w.cell? ⟨b, 5, none⟩ = some (.int .i64 n)) :
    Calls Try.prog 20 #[.pointer (some ⟨b, 0, none⟩)] w fun e w' => e = .returned (.int .i64 n) ∧ w' = w := by
  go_enter Try.func20, Try.ntmps20
  go_wp2
  go_ret
  exact ⟨rfl, rfl⟩

set_option maxHeartbeats 400000 in
theorem linkEntry_any (b : Nat) (m n : Int) (s : ByteArray) (w : World) (hb : b < w.heap.size) (h0 : w.cell? ⟨b, 0, none⟩ = some (.int .i64 m)) (h1 : w.cell? ⟨b, 1, none⟩ = some (.int .i64 n)) (h2 : w.cell? ⟨b, 2, none⟩ = some (.string s)) :
    Calls Try.prog 22 #[.pointer (some ⟨b, 0, none⟩)] w fun e w' => e = .returned (.agg #[.int .i64 m, .int .i64 n, .string s]) ∧ w' = w.alloc (.cells #[.int .i64 m, .int .i64 n, .string s] 32) := by
  have h0' : ∀ o, (w.alloc o).cell? ⟨b, 0, none⟩ = some (.int .i64 m) := fun o => by rw [World.cell?_alloc_lt _ _ _ hb]; exact h0
  have h1' : ∀ o, (w.alloc o).cell? ⟨b, 1, none⟩ = some (.int .i64 n) := fun o => by rw [World.cell?_alloc_lt _ _ _ hb]; exact h1
  have h2' : ∀ o, (w.alloc o).cell? ⟨b, 2, none⟩ = some (.string s) := fun o => by rw [World.cell?_alloc_lt _ _ _ hb]; exact h2
  go_enter Try.func22, Try.ntmps22
  go_wp2
  exact bodyPost_ret (v := .agg #[.int .i64 m, .int .i64 n, .string s]) (by simp [results, Try.results22, go_sem]) rfl ⟨rfl, rfl⟩

set_option maxHeartbeats 400000 in
theorem zzlast_any (p q : Option Addr) (w : World) :
    Calls Try.prog 11 #[.agg #[.pointer p, .pointer q]] w fun e w' => e = .returned (.pointer p) ∧ w' = w.alloc (.cells #[.pointer p, .pointer q] 29) := by
  go_enter Try.func11, Try.ntmps11
  go_wp2
  go_ret
  exact ⟨rfl, rfl⟩

set_option maxHeartbeats 400000 in
theorem zzlasts_any (p q : Option Addr) (w : World) :
    Calls Try.prog 12 #[.agg #[.pointer p, .pointer q]] w fun e w' => e = .returned (.pointer q) ∧ w' = w.alloc (.cells #[.pointer p, .pointer q] 29) := by
  go_enter Try.func12, Try.ntmps12
  go_wp2
  go_ret
  exact ⟨rfl, rfl⟩

set_option maxHeartbeats 400000 in
theorem len_nil (q : Option Addr) (w : World) :
    Calls Try.prog 17 #[.agg #[.pointer none, .pointer q]] w fun e w' => e = .returned (.int .i64 0) ∧ w' = w.alloc (.cells #[.pointer none, .pointer q] 29) := by
  go_enter Try.func17, Try.ntmps17
  go_wp2
  go_ret
  exact ⟨rfl, rfl⟩

set_option maxHeartbeats 400000 in
theorem len_some (b : Nat) (n : Int) (q : Option Addr) (w : World) (hb : b < w.heap.size) (h : w.cell? ⟨b, 5, none⟩ = some (.int .i64 n)) :
    Calls Try.prog 17 #[.agg #[.pointer (some ⟨b, 0, none⟩), .pointer q]] w fun e w' => e = .returned (.int .i64 n) ∧ w' = w.alloc (.cells #[.pointer (some ⟨b, 0, none⟩), .pointer q] 29) := by
  have h' : ∀ o, (w.alloc o).cell? ⟨b, 5, none⟩ = some (.int .i64 n) := fun o => by rw [World.cell?_alloc_lt _ _ _ hb]; exact h
  go_enter Try.func17, Try.ntmps17
  go_wp2
  go_ret
  exact ⟨rfl, rfl⟩

set_option maxHeartbeats 400000 in
theorem toEntry_any (m n : Int) (s : ByteArray) (w : World) :
    Calls Try.prog 8 #[.agg #[.int .i64 m, .int .i64 n, .string s]] w fun e w' => e = .returned (.agg #[.int .i64 m, .int .i64 n, .string s]) ∧ w' = (w.alloc (.cells #[.int .i64 m, .int .i64 n, .string s] 24)).alloc (.cells #[.int .i64 m, .int .i64 n, .string s] 32) := by
  go_enter Try.func8, Try.ntmps8
  go_wp2
  exact bodyPost_ret (v := .agg #[.int .i64 m, .int .i64 n, .string s]) (by simp [results, Try.results8, go_sem]) rfl ⟨rfl, rfl⟩

set_option maxHeartbeats 400000 in
theorem same_yes (m n : Int) (s : ByteArray) (w : World) :
    Calls Try.prog 21 #[.agg #[.int .i64 m, .int .i64 n, .string s], .agg #[.int .i64 m, .int .i64 n, .string s]] w fun e w' => e = .returned (.bool true) ∧ w' = (w.alloc (.cells #[.int .i64 m, .int .i64 n, .string s] 32)).alloc (.cells #[.int .i64 m, .int .i64 n, .string s] 24) := by
  go_enter Try.func21, Try.ntmps21
  go_wp2
  go_ret
  exact ⟨rfl, rfl⟩

end Go.Proofs.Qxb6628307a
