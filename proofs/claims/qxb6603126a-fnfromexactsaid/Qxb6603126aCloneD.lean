import Derived.Test.Qxb6603126aData
import Derived.Deep.Slices
namespace Go.Proofs.Qxb6603126a
open Go.RowKit

theorem Try.info5 : (Try.prog.info? 5).map (fun i => (i.zero, i.size, i.bytes)) = some (some (.int .u8 0), 1, 1) := by kernel_rfl
theorem Try.info32 : (Try.prog.info? 32).map (fun i => (i.zero, i.size, i.bytes)) = some (some (.slice none 0 0), 1, 24) := by kernel_rfl

theorem nil24 : ∀ (w : World) (a : Option Addr) (n c n' c' : Nat), (binOp .eql 24 (.slice a n c) (.slice none n' c')).run Try.prog w = .ok (.bool a.isNone) w :=
  fun w a n c n' c' => Lib.run_eql_slice_nil w _ _ a n c n' c' Try.underlying24
theorem nilN32 : ∀ (w : World) (a : Option Addr) (n c n' c' : Nat), (binOp .neq 32 (.slice a n c) (.slice none n' c')).run Try.prog w = .ok (.bool (!a.isNone)) w :=
  fun w a n c n' c' => run_neq_slice_nil_any w _ _ a n c n' c' Try.underlying32

/-- What a copying loop has laid after k rounds. -/
def mixed (k n : Nat) (zs : List Int) : List Value := (zs.take k).map (Value.int .u8) ++ List.replicate (n - k) (.int .u8 0)

theorem mixed_set (k n : Nat) (zs : List Int) (hk : k < n) (hz : zs.length = n) :
    (mixed k n zs).set k (.int .u8 (zs.getD k 0)) = mixed (k + 1) n zs := by
  unfold mixed
  have h1 : ((zs.take k).map (Value.int .u8)).length = k := by simp; omega
  rw [List.set_append, if_neg (by omega), h1, Nat.sub_self]
  obtain ⟨m, hm⟩ : ∃ m, n - k = m + 1 := ⟨n - k - 1, by omega⟩
  rw [hm, List.replicate_succ, List.set_cons_zero, List.take_succ_eq_append_getElem (by omega), List.map_append, show n - (k + 1) = m by omega]
  simp [List.getD, show k < zs.length by omega]

theorem mixed_full (n : Nat) (zs : List Int) (hz : zs.length = n) : mixed n n zs = zs.map (Value.int .u8) := by
  unfold mixed; rw [List.take_of_length_le (by omega)]; simp

theorem ownsRow_elems {w : World} {base e n c : Nat} {a : Option Addr} {k : IntKind} {zs : List Int} (h : w.ownsRow base e 1 (.slice a n c) n (zs.map (Value.int k))) : Elems k w a n zs := by
  refine ⟨by have := h.1; simpa using this, fun hn => ?_⟩
  rcases h.2 with ⟨h', h0⟩ | ⟨g, cap, cur, h', _⟩
  · omega
  · simp only [Value.slice.injEq] at h'
    obtain ⟨rfl, -, rfl⟩ := h'
    refine ⟨g, 0, rfl, fun i hi => ?_⟩
    have := h.cellAt i (by omega)
    rw [Nat.zero_add, this]
    have hl : zs.length = n := by have := h.1; simpa using this
    simp [List.getD, show i < zs.length by omega]

theorem ownsRow_same {w w' : World} {base : Nat} {e : TypeId} {size : Nat} {v : Value} {n : Nat} {xs : List Value} (h : w.ownsRow base e size v n xs) (hs : ∀ g, v.ownBlock = some g → w'.heap[g]? = w.heap[g]?) : w'.ownsRow base e size v n xs := by
  refine ⟨h.1, ?_⟩
  rcases h.2 with hn | ⟨g, cap, cur, rfl, hb, hgg, rest⟩
  · exact .inl hn
  · exact .inr ⟨g, cap, cur, rfl, hb, by rw [hs g rfl]; exact hgg, rest⟩

/-- A copied element: the same bytes, in a block of its own past block O; nil just where the old one was. -/
structure Good (wr : World) (O : Nat) (old : Option Addr) (n : Nat) (zs : List Int) (a : Option Addr) (c : Nat) : Prop where
  el : Elems .u8 wr a n zs
  isnil : a = none → n = 0 ∧ c = 0
  same : a = none ↔ old = none
  past : ∀ x, a = some x → O < x.block ∧ x.block < wr.heap.size

theorem Good.keep {wr w' : World} {O : Nat} {old : Option Addr} {n : Nat} {zs : List Int} {a : Option Addr} {c : Nat} (h : Good wr O old n zs a c) (hs : wr.heap.size ≤ w'.heap.size) (hk : ∀ g, g < wr.heap.size → g ≠ O → w'.heap[g]? = wr.heap[g]?) : Good w' O old n zs a c := by
  refine ⟨⟨h.el.1, fun hn => ?_⟩, h.isnil, h.same, fun x hx => ⟨(h.past x hx).1, Nat.lt_of_lt_of_le (h.past x hx).2 hs⟩⟩
  obtain ⟨b, off, hab, hc⟩ := h.el.2 hn
  have hp := h.past _ hab
  refine ⟨b, off, hab, fun i hi => ?_⟩
  have e : w'.heap[b]? = wr.heap[b]? := hk b hp.2 (by have := hp.1; show b ≠ O; intro e; subst e; exact absurd this (Nat.lt_irrefl _))
  rw [World.cell?_of_block (w := wr) (a := ⟨b, off + i, none⟩) e]
  exact hc i hi

/-- The rows copied so far, and the slots not yet filled. -/
structure Sofar (wr : World) (O m k : Nat) (A : Nat → Option Addr) (L : Nat → Nat) (Z : Nat → List Int) (ys : List Value) : Prop where
  done : ∀ r, r < k → ∃ p : Option Addr × Nat, ys[r]? = some (.slice p.1 (L r) p.2) ∧ Good wr O (A r) (L r) (Z r) p.1 p.2
  rest : ∀ r, k ≤ r → r < m → ys[r]? = some (.slice none 0 0)

theorem Sofar.keep {wr w' : World} {O m k : Nat} {A : Nat → Option Addr} {L : Nat → Nat} {Z : Nat → List Int} {ys : List Value} (h : Sofar wr O m k A L Z ys) (hs : wr.heap.size ≤ w'.heap.size) (hk : ∀ g, g < wr.heap.size → g ≠ O → w'.heap[g]? = wr.heap[g]?) : Sofar w' O m k A L Z ys :=
  ⟨fun r hr => by obtain ⟨p, h1, h2⟩ := h.done r hr; exact ⟨p, h1, h2.keep hs hk⟩, h.rest⟩

/-- A nil element: nothing is stored. -/
theorem Sofar.skip {wr : World} {O m k : Nat} {A : Nat → Option Addr} {L : Nat → Nat} {Z : Nat → List Int} {ys : List Value} (h : Sofar wr O m k A L Z ys) (hk : k < m) (ha : A k = none) (hl : L k = 0) (hz : (Z k).length = L k) : Sofar wr O m (k + 1) A L Z ys := by
  refine ⟨fun r hr => ?_, fun r h1 h2 => h.rest r (by omega) h2⟩
  by_cases e : r = k
  · subst e
    refine ⟨(none, 0), by rw [hl]; exact h.rest r (Nat.le_refl _) hk, ⟨⟨hz, fun hn => by omega⟩, fun _ => ⟨hl, rfl⟩, by simp [ha], fun x hx => by cases hx⟩⟩
  · exact h.done r (by omega)

/-- An element is stored. -/
theorem Sofar.put {wr : World} {O m k : Nat} {A : Nat → Option Addr} {L : Nat → Nat} {Z : Nat → List Int} {ys : List Value} (h : Sofar wr O m k A L Z ys) (hlen : k < ys.length) (a : Option Addr) (c : Nat) (hg : Good wr O (A k) (L k) (Z k) a c) : Sofar wr O m (k + 1) A L Z (ys.set k (.slice a (L k) c)) := by
  refine ⟨fun r hr => ?_, fun r h1 h2 => ?_⟩
  · by_cases e : r = k
    · subst e
      exact ⟨(a, c), List.getElem?_set_self hlen, hg⟩
    · obtain ⟨p, h1, h2⟩ := h.done r (by omega)
      exact ⟨p, by rw [List.getElem?_set_ne (by omega)]; exact h1, h2⟩
  · rw [List.getElem?_set_ne (by omega)]
    exact h.rest r (by omega) h2
end Go.Proofs.Qxb6603126a
