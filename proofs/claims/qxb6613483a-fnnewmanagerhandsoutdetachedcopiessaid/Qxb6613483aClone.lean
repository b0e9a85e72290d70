import Derived.Test.Qxb6613483aGet
namespace Go.Proofs.Qxb6613483a
open Go.RowKit Go.MuLone Go.Maps
set_option linter.unusedSimpArgs false

/-- (*MemoryStorage).DeleteRefCount. -/
theorem delete20 (sb mb n : Nat) (M : List UInt8 → Option Nat) (k : ByteArray) (hk : k.size ≤ maxLen) (w : World) (h : w.cell? ⟨sb, 0, none⟩ = some (.map (some mb))) (hr : Reads w mb n M) :
    Calls Try.prog 20 #[.pointer (some ⟨sb, 0, none⟩), .string k] w fun e w' => e = .returned (.tuple #[]) ∧ Reads w' mb n (fun t => if t = k.data.toList then none else M t) ∧ w.grownBy w' (some mb) := by
  obtain ⟨w1, hd, hr1, hg1⟩ := hr.drop hk 0
  have HR := hide hr1; have HG := hide hg1
  clear hr hk hr1 hg1
  go_enter Try.func20, Try.ntmps20
  go_wp2
  exact bodyPost_end (v := .tuple #[]) (results_none rfl _ _ _) rfl ⟨rfl, HR.out, HG.out⟩

theorem keyOf_string_inv {key : Value} {kl : Lit} (h : keyOf Try.prog 9 key = some kl) : ∃ x, key = .string x := by
  cases key <;> simp [keyOf, Try.underlying9, mapKey] at h
  exact ⟨_, rfl⟩

set_option maxRecDepth 100000 in
/-- maps.Copy into an empty map, of a set of one. -/
theorem copy38 (db nb : Nat) (s : List UInt8) (w : World) (hd : w.heap[db]? = some (.map #[] 0)) (hn : Node w nb s) (hne : db ≠ nb) :
    Calls Try.prog 38 #[.map (some db), .map (some nb)] w fun e w' => e = .returned (.tuple #[]) ∧ Node w' db s ∧ w.grownBy w' (some db) := by
  have hdl : db < w.heap.size := lt_of hd
  have h0 : w.ownsMap (H := Unit) Try.prog 9 (plainElem Try.prog 4) db 0 (.map []) := ⟨#[], 0, hd, ⟨by simp, Go.MapKept.stamped_empty 0, by simp⟩, Nat.le_refl _, rfl⟩
  have hnl := hn.lt
  go_enter Try.func38, Try.ntmps38
  go_wp2_with (first
    | (at_range; refine wpList_range_own _ rfl _ 45 rfl 9 4 key9 Try.underlying45 _ nb 1 _ rfl hn ?_; intro w0 hrg0 hg0 hs0)
    | go_in)
  go_frame
  go_loopw [4] (fun _ wr => ∃ (left : Lit → Bool) (cnt : Nat) (Dout : DataW Unit), wr.ranges Try.prog 9 (plainElem Try.prog 4) nb w.heap.size 1 (nodeD s) left cnt ∧ cnt ≤ 1 ∧
      wr.ownsMap Try.prog 9 (plainElem Try.prog 4) db (1 - cnt) Dout ∧ Agree Dout (nodeD s) left ∧ w.grownBy wr (some db))
    (fun _ wr => wr.rangeLeft nb w.heap.size)
  case atStart =>
    exact ⟨_, _, .map [], hrg0, Nat.le_of_eq (size_node s), (h0.kept hg0 (by simp)).mono (Nat.zero_le _), agree_start _, hg0.but _⟩
  case round =>
    obtain ⟨left, cnt, Dout, hrg, hcs, hout, hA, hnx⟩ := hrel
    go_wp2_with (first
      | (at_next; refine wpList_next_ranges _ rfl _ rfl 9 key9 (plainElem Try.prog 4) Value.string Value.bool (fun _ _ h => keyOf_string_inv h) (fun v y h => by obtain ⟨x, hx, _⟩ := plainElem_bool_inv h; exact ⟨x, hx⟩) nb w.heap.size 1 _ _ _ rfl hrg (fun hc0 hl0 => ?_) (fun x c kl y w1 cnt1 hkey hlk hv hat hrg1 hlt hg1 hs1 hen => stop ?_))
      | go_in)
    · go_wp2
      subst hc0
      have e := agree_end hA hl0 (hout.canon key9) (World.ownsMap.canon hn key9)
      subst e
      exact bodyPost_end (v := .tuple #[]) (results_none rfl _ _ _) rfl ⟨rfl, hout, hnx⟩
    · have hout1 := hout.kept hg1 (by intro e; have := Option.some.inj e; omega)
      unfold Stop
      go_wp2_with (first
        | (at_mapUpdate; refine wpList_mapUpdate_own _ rfl _ _ _ 45 rfl 9 4 key9 Try.underlying45 _ db (1 - cnt) Dout rfl hout1 (by unfold maxLen; omega) _ _ _ rfl rfl hkey y.1 y.2 hv ?_; intro w2 hout2 hg2; go_frame)
        | go_in)
      have hrg2 := hrg1.kept hg2 (fun e => by have := Option.some.inj e; omega) (fun e => by have := Option.some.inj e; omega)
      go_roundw
      case rel =>
        exact ⟨_, cnt1, _, hrg2, by omega, hout2.mono (by omega), agree_step hA hout.isMap (key9.key hkey) hat,
          (hnx.andThen hg1 (fun j hj => by cases hj; exact .inl (Nat.le_refl _))).andThen hg2 (fun j hj => by cases hj; exact .inr rfl)⟩
      case measure => rw [hrg2.left_eq, hrg.left_eq]; exact hlt

theorem make45 (x : Int) (w : World) : (Instr.makeMap 45 (some (.int .i64 x))).run Try.prog w = .ok (.map (some w.heap.size)) (w.alloc (.map #[] 0)) := by
  simp [Instr.makeMap, run_underlying Try.underlying45, asInt, asIntOf, newObj, Sem.run, Result.andThen]

/-- (*ReferenceCount).clone. -/
theorem clone35 (pb : Nat) (z : Int) (s : ByteArray) (w : World) (h : Cnt w pb z s) :
    Calls Try.prog 35 #[.pointer (some ⟨pb, 0, none⟩)] w fun e w' => (∃ b, e = .returned (.pointer (some ⟨b, 0, none⟩)) ∧ w.heap.size ≤ b ∧ Cnt w' b z s) ∧ Below w.heap.size w w' := by
  obtain ⟨nb, h1, h2⟩ := h.out
  have c0 : w.cell? ⟨pb, 0, none⟩ = some (.int .i64 z) := (cell_of h1 0).trans rfl
  have c1 : w.cell? ⟨pb, 1, none⟩ = some (.map (some nb)) := (cell_of h1 1).trans rfl
  have hl := fun ty => h2.len ty
  have hm := make45 1 w
  have e1 : (w.alloc (.map #[] 0)).cell? ⟨pb, 1, none⟩ = some (.map (some nb)) := cell_kept (below_alloc _ _) (lt_of h1) c1
  have H1 := hide h1; have H2 := hide h2
  clear h h1 h2
  go_enter Try.func35, Try.ntmps35
  go_wp2_with fail
  refine (copy38 w.heap.size nb s.data.toList (w.alloc (.map #[] 0)) (new_at _ _) (H2.out.later (below_alloc _ _)) (by have := H2.out.lt; omega)).mono ?_
  rintro e w2 ⟨rfl, hn2, hg2⟩
  have b2 : Below w.heap.size w w2 := ((Below.refl _ _).alloc (Nat.le_refl _) _).grown hg2 (by simp) (fun j hj => by cases hj; exact Nat.le_refl _)
  have d0 : w2.cell? ⟨pb, 0, none⟩ = some (.int .i64 z) := cell_kept b2 (lt_of H1.out) c0
  have HN := hide hn2; have HB := hide b2
  clear hl hm hg2 hn2 b2 c0 c1 e1
  go_wp2
  go_ret
  exact ⟨⟨_, rfl, HB.out.size, ⟨_, new_at _ _, HN.out.later (below_alloc _ _)⟩⟩, Below.from HB.out (below_alloc _ _)⟩
end Go.Proofs.Qxb6613483a
