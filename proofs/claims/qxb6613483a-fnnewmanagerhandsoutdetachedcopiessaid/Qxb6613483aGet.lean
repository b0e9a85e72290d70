import Derived.Test.Qxb6613483aSmall
import Derived.Maps.Ext
import Derived.Defers
namespace Go.Proofs.Qxb6613483a
open Go.RowKit Go.MuLone Go.Maps
set_option linter.unusedSimpArgs false

/-- zzIn. -/
theorem in32 (a : Option Addr) (n c : Nat) (S : Nat → ByteArray) (k : ByteArray) (w : World) (hn : n ≤ 4096) (h : Strs w a n S) :
    Calls Try.prog 32 #[.slice a n c, .string k] w fun e w' => e = .returned (.bool (lastIdx S k.data.toList n).isSome) ∧ w' = w := by
  have h28 := last28 a n c S k w hn h
  clear h hn
  cases hl : lastIdx S k.data.toList n with
  | none =>
    rw [hl] at h28
    go_enter Try.func32, Try.ntmps32
    go_wp2_with fail
    refine h28.mono ?_
    rintro e w' ⟨rfl, rfl⟩
    simp only [lastV]
    go_wp2
    go_ret
    exact ⟨rfl, rfl⟩
  | some i =>
    rw [hl] at h28
    have i0 : (0 : Int) ≤ (i : Int) := by omega
    go_enter Try.func32, Try.ntmps32
    go_wp2_with fail
    refine h28.mono ?_
    rintro e w' ⟨rfl, rfl⟩
    simp only [lastV]
    go_wp2
    go_ret
    exact ⟨rfl, rfl⟩

/-- NewMemoryStorage. -/
theorem new13 (w : World) : Calls Try.prog 13 #[] w fun e w' => e = .returned (.pointer (some ⟨w.heap.size + 1, 0, none⟩)) ∧ w' = (w.alloc (.map #[] 0)).alloc (.cells #[.map (some w.heap.size)] 50) := by
  have hmm := @run_makeMap Try.prog
  go_enter Try.func13, Try.ntmps13
  go_wp2
  go_ret
  exact ⟨rfl, rfl⟩

/-- ZZCounts. -/
theorem counts14 (sb : Nat) (v : Value) (w : World) (h : w.cell? ⟨sb, 0, none⟩ = some v) : Calls Try.prog 14 #[.pointer (some ⟨sb, 0, none⟩)] w fun e w' => e = .returned v ∧ w' = w := by
  go_enter Try.func14, Try.ntmps14
  go_wp2
  go_ret
  exact ⟨rfl, rfl⟩

/-- (*MemoryStorage).GetRefCount. -/
theorem get24 (sb mb n : Nat) (M : List UInt8 → Option Nat) (k : ByteArray) (hk : k.size ≤ maxLen) (w : World) (h : w.cell? ⟨sb, 0, none⟩ = some (.map (some mb))) (hr : Reads w mb n M) :
    Calls Try.prog 24 #[.pointer (some ⟨sb, 0, none⟩), .string k] w fun e w' => e = .returned (ptrV (M k.data.toList)) ∧ w' = w := by
  have hl := hr.lookup hk
  clear hr hk
  go_enter Try.func24, Try.ntmps24
  go_wp2
  go_ret
  exact ⟨rfl, rfl⟩

/-- NewManager. -/
theorem new26 (sb : Nat) (w : World) : Calls Try.prog 26 #[.iface 27 (.pointer (some ⟨sb, 0, none⟩))] w fun e w' => e = .returned (.pointer (some ⟨w.heap.size, 0, none⟩)) ∧ w' = w.alloc (.cells #[.int .i32 0, .int .u32 0, .iface 27 (.pointer (some ⟨sb, 0, none⟩))] 62) := by
  go_enter Try.func26, Try.ntmps26
  go_wp2
  go_ret
  exact ⟨rfl, rfl⟩

/-- A count in memory: block pb holds z and leads to a set that holds s alone. -/
structure Cnt (w : World) (pb : Nat) (z : Int) (s : ByteArray) : Prop where
  mk' ::
  out : ∃ nb, w.heap[pb]? = some (.cells #[.int .i64 z, .map (some nb)] 47 (0, 0)) ∧ Node w nb s.data.toList
theorem Cnt.later {w w' : World} {pb : Nat} {z : Int} {s : ByteArray} (h : Cnt w pb z s) (hb : Below w.heap.size w w') : Cnt w' pb z s := by
  obtain ⟨nb, h1, h2⟩ := h.out
  exact ⟨nb, kept hb h1, h2.later hb⟩
theorem Cnt.lt {w : World} {pb : Nat} {z : Int} {s : ByteArray} (h : Cnt w pb z s) : pb < w.heap.size := by
  obtain ⟨nb, h1, h2⟩ := h.out
  exact lt_of h1

/-- zzIntact. -/
theorem intact30 (pb : Nat) (z : Int) (s : ByteArray) (hs : s.size ≤ maxLen) (w : World) (h : Cnt w pb z s) :
    Calls Try.prog 30 #[.pointer (some ⟨pb, 0, none⟩), .int .i64 z, .string s] w fun e w' => e = .returned (.bool true) ∧ w' = w := by
  obtain ⟨nb, h1, h2⟩ := h.out
  have c0 : w.cell? ⟨pb, 0, none⟩ = some (.int .i64 z) := (cell_of h1 0).trans rfl
  have c1 : w.cell? ⟨pb, 1, none⟩ = some (.map (some nb)) := (cell_of h1 1).trans rfl
  have hl := fun ty => h2.len ty
  have hk := h2.look hs
  clear h h1 h2 hs
  go_enter Try.func30, Try.ntmps30
  go_wp2
  go_ret
  exact ⟨rfl, rfl⟩

end Go.Proofs.Qxb6613483a
