/-
  The kit's laws on a struct stored and loaded whole, at an operation that is written out (so that they fail at once elsewhere). No program in sight.
-/
import Derived.Test.YbulkchpkBase
import Derived.Deep.MidRow
namespace Go.Proofs.Ybulkchpk
variable {P : Program}

theorem wpl_store {ops : Array Oper} {rest : List Oper} {a : Act} {w : World} {Q : Exit → Act → World → Prop} (ty : TypeId) (x y : Nat) {t0 : TypeId} {pos : String} {aft : Array Edge}
    (b o : Nat) (cells : Array Value) (hx : a.eval (.tmp x) = .pointer (some ⟨b, o, none⟩)) (hy : a.eval (.tmp y) = .agg cells)
    (ht : w.there b o cells.size) (hi : (P.info? ty).map (·.size) = some cells.size) (h1 : cells.all (·.oneCell') = true)
    (h : wpList P ops Q rest (a.put none undef) (w.setCells b o cells.toList)) :
    wpList P ops Q ({ dst := none, op := .store ty (.tmp x) (.tmp y), type := t0, pos := pos, after := aft, guard := none } :: rest) a w :=
  wpList_store_mid rfl ty (.tmp x) (.tmp y) rfl b o cells hx hy ht hi h1 h

theorem wpl_load {ops : Array Oper} {rest : List Oper} {a : Act} {w : World} {Q : Exit → Act → World → Prop} (ty : TypeId) (x : Nat) {d0 : Nat} {t0 : TypeId} {pos : String} {aft : Array Edge}
    (b o : Nat) (cs : List Value) (hx : a.eval (.tmp x) = .pointer (some ⟨b, o, none⟩)) (d : TypeDesc) (hc : w.rangeAt b o cs)
    (hu : P.underlying ty = some d) (hd : d.isRow = true) (hi : (P.info? ty).map (·.size) = some cs.length)
    (h : wpList P ops Q rest (a.put (some d0) (.agg cs.toArray)) w) :
    wpList P ops Q ({ dst := some d0, op := .load ty (.tmp x), type := t0, pos := pos, after := aft, guard := none } :: rest) a w :=
  wpList_load_mid rfl ty (.tmp x) rfl b o hx cs d hc hu hd hi h
end Go.Proofs.Ybulkchpk
