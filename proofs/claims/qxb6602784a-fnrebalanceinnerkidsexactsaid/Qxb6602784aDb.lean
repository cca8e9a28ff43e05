import Derived.Test.Qxb6602784aDa
namespace Go.Proofs.Qxb6602784a
open Go.RowKit
set_option linter.unusedVariables false
set_option linter.unusedSimpArgs false

/-- a slice of slices of slices of integers that came in -/
structure Rd3 (w : World) (a : Option Addr) (n c : Nat) (hs : List (Option Addr × Nat × Nat)) (hss : List (List (Option Addr × Nat × Nat))) (zsss : List (List (List Int))) : Prop where
  top : Rd w a n c (hs.map hv)
  hlen : hss.length = n
  len : zsss.length = n
  row : ∀ (i : Nat) h hh zss, hs[i]? = some h → hss[i]? = some hh → zsss[i]? = some zss → Rd2 w h.1 h.2.1 h.2.2 hh zss

theorem Rd3.later {w w' : World} {a : Option Addr} {n c : Nat} {hs : List (Option Addr × Nat × Nat)} {hss : List (List (Option Addr × Nat × Nat))} {zsss : List (List (List Int))} (h : Rd3 w a n c hs hss zsss) (hb : Below w.heap.size w w') : Rd3 w' a n c hs hss zsss :=
  ⟨h.top.later hb, h.hlen, h.len, fun i x hh zss h1 h2 h3 => (h.row i x hh zss h1 h2 h3).later hb⟩

theorem Rd3.at {w : World} {a : Option Addr} {n c : Nat} {hs : List (Option Addr × Nat × Nat)} {hss : List (List (Option Addr × Nat × Nat))} {zsss : List (List (List Int))} (h : Rd3 w a n c hs hss zsss) {k : Nat} (hk : k < n) :
    ∃ b off ha hn hc hh zss, a = some ⟨b, off, none⟩ ∧ w.cell? ⟨b, off + k, none⟩ = some (.slice ha hn hc) ∧ zsss[k]? = some zss ∧ Rd2 w ha hn hc hh zss := by
  obtain ⟨b, off, rfl, hc⟩ := h.top.plain (by omega)
  obtain ⟨⟨ha, hn1, hc1⟩, hhs⟩ : ∃ h, hs[k]? = some h := ⟨_, List.getElem?_eq_getElem (by have := h.top.len; simp at this; omega)⟩
  obtain ⟨hh, hhh⟩ : ∃ zs, hss[k]? = some zs := ⟨_, List.getElem?_eq_getElem (by have := h.hlen; omega)⟩
  obtain ⟨zss, hzss⟩ : ∃ zs, zsss[k]? = some zs := ⟨_, List.getElem?_eq_getElem (by have := h.len; omega)⟩
  refine ⟨b, off, ha, hn1, hc1, hh, zss, rfl, ?_, hzss, h.row k _ hh zss hhs hhh hzss⟩
  rw [hc k hk, List.getElem?_map, hhs]; rfl

end Go.Proofs.Qxb6602784a
