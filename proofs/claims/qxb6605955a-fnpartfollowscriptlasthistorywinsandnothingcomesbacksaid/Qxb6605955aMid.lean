import Derived.Test.Qxb6605955aFollow
namespace Go.Proofs.Qxb6605955a
open Go.RowKit
attribute [local go_sem ↓] Go.wp_at_zero Go.wp_at_succ

/-- The part in the midst of a script of follows. -/
structure Mid (pb sb : Nat) (h0 mk : ByteArray) (mat : Int) (n m : Nat) (H R : Nat → Rd) (kept : Bool) (w : World) : Prop where
  part : ∃ rdV horV mk' tn ts hist, w.heap[pb]? = some (.cells (pcells sb rdV mk' tn ts horV hist) 77 (0, 0)) ∧ (kept = true → hist = h0) ∧ (kept = false → Bare pb sb hist w)
  store : ∃ vm, w.heap[sb]? = some (.cells (scells vm) 70 (0, 0))
  view : kept = true → View pb h0 mk mat n m H R w

theorem heap_kept {w w' : World} (h : Below w.heap.size w w') {b : Nat} {o : Obj} (hb : w.heap[b]? = some o) : w'.heap[b]? = some o := (h.block b (lt_of hb)).trans hb
theorem Bare.below {pb sb : Nat} {h : ByteArray} {w w' : World} (x : Bare pb sb h w) (hb : Below w.heap.size w w') : Bare pb sb h w' :=
  ⟨heap_kept hb x.part, x.store.elim fun vm hs => ⟨vm, heap_kept hb hs⟩⟩
theorem Mid.below {pb sb n m : Nat} {h0 mk : ByteArray} {mat : Int} {H R : Nat → Rd} {kept : Bool} {w w' : World} (x : Mid pb sb h0 mk mat n m H R kept w) (hb : Below w.heap.size w w') : Mid pb sb h0 mk mat n m H R kept w' := by
  obtain ⟨⟨rdV, horV, mk', tn, ts, hist, hp, h1, h2⟩, ⟨vm, hs⟩, hv⟩ := x
  exact ⟨⟨rdV, horV, mk', tn, ts, hist, heap_kept hb hp, h1, fun e => (h2 e).below hb⟩, ⟨vm, heap_kept hb hs⟩, fun e => (hv e).below hb⟩
theorem Bare.mid {pb sb n m : Nat} {h h0 mk : ByteArray} {mat : Int} {H R : Nat → Rd} {w : World} (x : Bare pb sb h w) : Mid pb sb h0 mk mat n m H R false w :=
  ⟨⟨_, _, _, _, _, h, x.part, (fun e => nomatch e), fun _ => x⟩, x.store, fun e => nomatch e⟩

/-- One follow: whatever was kept, what is kept now. -/
theorem follow18 (pb sb n m : Nat) (h0 mk h : ByteArray) (mat : Int) (H R : Nat → Rd) (kept : Bool) (w : World) (B : Nat) (hx : Mid pb sb h0 mk mat n m H R kept w) (hB : B ≤ w.heap.size) (hpb : B ≤ pb ∧ B ≤ sb) :
    Calls Try.prog 18 #[.pointer (some ⟨pb, 0, none⟩), .string h] w fun e w' => e = .returned (.tuple #[]) ∧ Below B w w' ∧ Mid pb sb h0 mk mat n m H R (kept && (h.toList == h0.toList)) w' ∧ (∃ hist : ByteArray, hist.toList = h.toList ∧ ∃ mk' mat' n' m' H' R', View pb hist mk' mat' n' m' H' R' w') ∧ ((kept && (h.toList == h0.toList)) = false → ∃ hist, Bare pb sb hist w') := by
  obtain ⟨⟨rdV, horV, mk', tn, ts, hist, hp, h1, h2⟩, ⟨vm, hs⟩, hv⟩ := hx
  by_cases he : h.toList = hist.toList
  · refine (follow18_same pb sb rdV horV mk' hist h tn ts w he hp).mono ?_
    rintro e w' ⟨rfl, hw⟩
    obtain rfl : w = w' := hw.symm
    cases kept with
    | true =>
      obtain rfl := h1 rfl
      have hb : (h.toList == hist.toList) = true := by simpa using he
      rw [hb]
      exact ⟨rfl, Below.refl _ _, ⟨⟨rdV, horV, mk', tn, ts, hist, hp, h1, h2⟩, ⟨vm, hs⟩, hv⟩, ⟨hist, he.symm, _, _, _, _, _, _, hv rfl⟩, fun e => nomatch e⟩
    | false =>
      have hb := h2 rfl
      exact ⟨rfl, Below.refl _ _, hb.mid, ⟨hist, he.symm, _, _, _, _, _, _, hb.view⟩, fun _ => ⟨hist, hb⟩⟩
  · refine (follow18_other pb sb rdV horV vm mk' hist h tn ts w he hp hs).mono ?_
    rintro e w' ⟨rfl, hb, hfr⟩
    have hk : (kept && (h.toList == h0.toList)) = false := by
      cases kept with
      | true => rw [← h1 rfl]; simpa using he
      | false => rfl
    rw [hk]
    exact ⟨rfl, hfr.below hB (fun k hk => by simp at hk; omega), hb.mid, ⟨h, rfl, _, _, _, _, _, _, hb.view⟩, fun _ => ⟨h, hb⟩⟩
end Go.Proofs.Qxb6605955a
