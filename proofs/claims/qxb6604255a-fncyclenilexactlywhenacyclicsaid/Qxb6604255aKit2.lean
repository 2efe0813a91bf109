import Derived.Test.Qxb6604255aKit
namespace Go.Proofs.Qxb6604255a
open Go.RowKit
/-- 'wpList_app1', the new block's number spelt as the walk spells it. -/
theorem wpList_app1g {P : Program} (wr : World) {ops : Array Oper} {rest : List Oper} {o : Oper} {a : Act} {Q : Exit → Act → World → Prop} (hgd : o.guard = none) (s x : Operand) (t : TypeId)
    (ho : o.op = .call { callee := .builtin .append, args := #[s, x], argTypes := #[t, t] })
    (base : Nat) (e : TypeId) (i : TypeInfo) (z : Value) (bytes : Nat) (ht : P.underlying t = some (.slice e)) (hi : P.info? e = some i) (hz : i.zero = some z)
    (hsize : i.size = 1) (hby : i.bytes = bytes) (hzs : z.cells.size = 1)
    (v : Value) (n : Nat) (xs : List Value) (hown : wr.ownsRow base e 1 v n xs) (u : Value) (gq : Nat) (hs : a.eval s = v) (hx : a.eval x = .slice (some ⟨gq, 0, none⟩) 1 1) (hgq : gq = wr.heap.size) (h1 : u.oneCell' = true)
    (h63 : n + 1 ≤ maxLen) (hbytes : (n + 1) * bytes ≤ 140737488355328) (hbase : base ≤ wr.heap.size)
    (h : ∀ v' w', w'.ownsRow base e 1 v' (n + 1) (xs ++ [u]) → Grew e wr v n w' v' → wpList P ops Q rest (a.put o.dst v') w') : wpList P ops Q (o :: rest) a (wr.alloc (.cells #[u] e)) := by
  subst hgq
  exact wpList_app1 wr hgd s x t ho base e i z bytes ht hi hz hsize hby hzs v n xs hown u hs hx h1 h63 hbytes hbase h
end Go.Proofs.Qxb6604255a
