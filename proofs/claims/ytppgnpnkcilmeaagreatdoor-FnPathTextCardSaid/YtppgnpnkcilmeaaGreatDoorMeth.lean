/-
  THE METHODS that a node of a path has from the struct that it holds by pointer: closed facts of the interface calls.
-/
import Derived.Test.YtppgnpnkcilmeaaGreatDoorWMore
import Derived.Test.YtppgnpnkcilmeaaGreatDoorChecked
import Derived.Lib.Hide
namespace Go.Proofs.YtppgnpnkcilmeaaGreatDoor.Pth
open Go.RowKit
abbrev cn : String := "given.example/pub-palinode/pub/goccyyaml.chain"

theorem method_promoted {P : Program} {T st te : TypeId} {name : String} {g : FuncId} {fuel : Nat} {fields : Array Field} {ft : TypeId}
    (h : ((P.info? T).bind fun i => i.methods.find? (·.name == name)).map (fun m => (m.func, m.path.toList.map fun s => (s.struct, s.index, s.deref))) = some (some (g, true), [(st, 0, true)]))
    (hs : P.underlying st = some (.struct fields)) (hf : (fields[0]?).map (fun f => (f.type, f.offset)) = some (ft, 0)) (ht : P.underlying ft = some (.pointer te)) (hz : (P.info? ft).map (·.size) = some 1) (n : Nat) (p : Option Addr) (w : World)
    (hc : w.cell? ⟨n, 0, none⟩ = some (.pointer p)) : (method (fuel + 1) T (.pointer (some ⟨n, 0, none⟩)) name).run P w = .ok (g, .pointer p) w := by
  obtain ⟨m, hm, h2⟩ := Option.map_eq_some_iff.1 h
  obtain ⟨i, hi, hm⟩ := Option.bind_eq_some_iff.1 hm
  obtain ⟨f, hf1, hf2⟩ := Option.map_eq_some_iff.1 hf
  simp only [Prod.mk.injEq] at h2 hf2
  obtain ⟨h3, h4⟩ := h2
  obtain ⟨h5, h6⟩ := hf2
  obtain ⟨s, hs0⟩ : ∃ s, m.path.toList = [s] := by
    cases hx : m.path.toList with
    | nil => rw [hx] at h4; simp at h4
    | cons a b =>
      cases b with
      | nil => exact ⟨a, rfl⟩
      | cons c d => rw [hx] at h4; simp at h4
  rw [hs0] at h4
  simp only [List.map_cons, List.map_nil, List.cons.injEq, Prod.mk.injEq, and_true] at h4
  obtain ⟨s1, s2, s3⟩ := h4
  subst s1
  unfold method
  obtain ⟨j, hj, hj1⟩ := Option.map_eq_some_iff.1 hz
  simp [Sem.run_bind, typeInfo, sizeOf, hj, hj1, loadVar, isAgg, Addr.add_lit, hc, hi, hm, hs0, h3, follow, run_underlying hs, s2, s3, hf1, Place.get, asAddr, fieldPlace, receiverAt, h5, h6, run_underlying ht]

set_option maxRecDepth 100000
theorem m48 (n : Nat) (p : Option Addr) (w : World) (hc : w.cell? ⟨n, 0, none⟩ = some (.pointer p)) : (method 283 48 (.pointer (some ⟨n, 0, none⟩)) cn).run Tryz.prog w = .ok (74, .pointer p) w :=
  method_promoted (st := 82) (ft := 78) (by kernel_rfl) Tryz.underlying82 (by kernel_rfl) Tryz.underlying78 (by kernel_rfl) n p w hc
theorem m84 (n : Nat) (p : Option Addr) (w : World) (hc : w.cell? ⟨n, 0, none⟩ = some (.pointer p)) : (method 283 84 (.pointer (some ⟨n, 0, none⟩)) cn).run Tryz.prog w = .ok (74, .pointer p) w :=
  method_promoted (st := 94) (ft := 78) (by kernel_rfl) Tryz.underlying94 (by kernel_rfl) Tryz.underlying78 (by kernel_rfl) n p w hc
theorem m86 (n : Nat) (p : Option Addr) (w : World) (hc : w.cell? ⟨n, 0, none⟩ = some (.pointer p)) : (method 283 86 (.pointer (some ⟨n, 0, none⟩)) cn).run Tryz.prog w = .ok (74, .pointer p) w :=
  method_promoted (st := 95) (ft := 78) (by kernel_rfl) Tryz.underlying95 (by kernel_rfl) Tryz.underlying78 (by kernel_rfl) n p w hc
theorem m89 (n : Nat) (p : Option Addr) (w : World) (hc : w.cell? ⟨n, 0, none⟩ = some (.pointer p)) : (method 283 89 (.pointer (some ⟨n, 0, none⟩)) cn).run Tryz.prog w = .ok (74, .pointer p) w :=
  method_promoted (st := 104) (ft := 78) (by kernel_rfl) Tryz.underlying104 (by kernel_rfl) Tryz.underlying78 (by kernel_rfl) n p w hc
theorem m91 (n : Nat) (p : Option Addr) (w : World) (hc : w.cell? ⟨n, 0, none⟩ = some (.pointer p)) : (method 283 91 (.pointer (some ⟨n, 0, none⟩)) cn).run Tryz.prog w = .ok (74, .pointer p) w :=
  method_promoted (st := 105) (ft := 78) (by kernel_rfl) Tryz.underlying105 (by kernel_rfl) Tryz.underlying78 (by kernel_rfl) n p w hc
