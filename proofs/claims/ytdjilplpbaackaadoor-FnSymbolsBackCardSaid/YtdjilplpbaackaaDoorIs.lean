/-
  impl.Symbols. Conditions: those of zz_symbols; errors.errorType holds its handle.
-/
import Derived.Test.YtdjilplpbaackaaDoorZs
import Derived.Test.YtdjilplpbaackaaDoorCd
namespace Go.Proofs.YtdjilplpbaackaaDoor
open Go.RowKit

/-- What impl.Symbols answers. -/
def IsEnd (r : List Nat × Bool) (w : World) (e : Ending) (w' : World) : Prop :=
  ∃ v, e = .returned (.tuple #[v, .int .i64 (if r.2 = true then 0 else 1)]) ∧ w'.ownsRow w.heap.size 5 1 v r.1.length (scells r.1) ∧ Only [] w w'

section
variable {ta ca : Option Addr} {tsrc csrc : List UInt8} {tcap ccap : Nat} {e1 e2 : Addr} {w : World}

set_option maxRecDepth 100000 in
set_option maxHeartbeats 4000000 in
theorem impl_symbols (hg : w.cell? ⟨0, 0, none⟩ = some (.iface 158 (.agg #[.pointer (some ⟨4, 65, none⟩)]))) (ht : SrcAt [] ta tsrc w) (hc : SrcAt [] ca csrc w) (htc : tsrc.length ≤ tcap) (hcc : csrc.length ≤ ccap) (htl : tsrc.length ≤ 1000000000000) (hcl : csrc.length ≤ 1000000000000)
    (h1 : w.cell? ⟨1, 0, none⟩ = some (.iface 175 (.pointer (some e1)))) (h2 : w.cell? ⟨2, 0, none⟩ = some (.iface 175 (.pointer (some e2))))
    {m : Nat → Nat → Option Nat} (hseg : Segs tsrc 0 (fun _ _ => none) m) (cl nu n q : Nat) (hc1 : cl ≤ 1) (hn3 : nu ≤ 3) (hq : m cl nu = some q) (hn : n ≤ 4000000000) :
    Calls Tryd.prog 6 #[.slice ta tsrc.length tcap, .int .i64 cl, .int .i64 nu, .slice ca csrc.length ccap, .int .i64 n] w (IsEnd (decAll (tabAt tsrc q) n (bitsFrom csrc 0)) w) := by
  have hz := zz_symbols (e1 := e1) (e2 := e2) ht hc htc hcc htl hcl h1 h2 hseg cl nu n q hc1 hn3 hq hn
  generalize decAll (tabAt tsrc q) n (bitsFrom csrc 0) = r at *
  have HZ := Lib.hid hz; clear hz
  have HG := Lib.hid hg; clear hg ht hc h1 h2 hseg hq htc hcc htl hcl
  go_enter Tryd.func6, Tryd.ntmps6
  go_wp2_with (fail)
  refine HZ.out.mono ?_
  rintro e w1 ⟨v, er, rfl, hown, her, hO⟩
  have hg1 : w1.cell? ⟨0, 0, none⟩ = some (.iface 158 (.agg #[.pointer (some ⟨4, 65, none⟩)])) := (hO.cell (World.block_lt_of_cell? _ _ HG.out) (by simp)).trans HG.out
  have HG1 := Lib.hid hg1; clear hg1
  have HOW := Lib.hid hown; clear hown
  have HO := Lib.hid hO; clear hO
  rcases her with ⟨hw, rfl⟩ | ⟨hw, str, rfl⟩
  · go_wp2_with (go_at_call 15; refine (code_nil _).mono ?_; rintro e w2 ⟨rfl, hO2⟩)
    go_ret2
    exact ⟨v, by rw [if_pos hw]; rfl, own_only HOW.out hO2 (by simp), HO.out.trans hO2⟩
  · go_wp2_with (go_at_call 15; refine (code_fmt _ _ HG1.out).mono ?_; rintro e w2 ⟨rfl, hO2⟩)
    go_ret2
    exact ⟨v, by rw [if_neg (by rw [hw]; decide)]; rfl, own_only HOW.out hO2 (by simp), HO.out.trans hO2⟩
end
end Go.Proofs.YtdjilplpbaackaaDoor
