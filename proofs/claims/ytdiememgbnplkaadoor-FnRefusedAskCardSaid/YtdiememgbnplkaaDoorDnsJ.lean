/-
  Contracts: resourceHeaderOf, none.
-/
import Derived.Test.YtdiememgbnplkaaDoorDnsI
import Derived.Test.YtdiememgbnplkaaDoorData
namespace Go.Proofs.YtdiememgbnplkaaDoor
open Go
set_option maxRecDepth 100000

/-- a ResourceHeader -/
def rhCs (l : List UInt8) (typ cls ttl len : Nat) : List Value := nameCs l ++ [.int .u16 typ, .int .u16 cls, .int .u32 ttl, .int .u16 len]
theorem rhCs_flat (l : List UInt8) (typ cls ttl len : Nat) : flat [Value.agg (nameCs l).toArray, .int .u16 typ, .int .u16 cls, .int .u32 ttl, .int .u16 len] = rhCs l typ cls ttl len := by simp [flat, rhCs, Value.cells]
theorem rhCs_len (l : List UInt8) (h : l.length ≤ 255) (typ cls ttl len : Nat) : (rhCs l typ cls ttl len).length = 260 := by simp [rhCs, nameCs_len l h]
theorem rhCs_one (l : List UInt8) (typ cls ttl len : Nat) : oneCells (rhCs l typ cls ttl len) = true := by
  have := nameCs_one l
  simp only [oneCells, rhCs, List.all_append] at this ⊢
  rw [this]
  rfl

theorem resourceHeaderOf_spec (x : RecD) : Spec Tryd.prog 47 [.agg x.cells.toArray] [] (fun _ => True) (fun r H' => r = .agg (rhCs (cut255 x.name) x.typ x.cls x.ttl x.len).toArray ∧ H' = []) := by
  refine Spec.of Tryd.func47 rfl Tryd.ntmps47 rfl fun w0 _ => ?_
  have hl := cut255_len x.name
  have hsz := nameCs_len (cut255 x.name) hl
  have hfl := rhCs_flat (cut255 x.name) x.typ x.cls x.ttl x.len
  have hq := rhCs_len (cut255 x.name) hl x.typ x.cls x.ttl x.len
  have hone := rhCs_one (cut255 x.name) x.typ x.cls x.ttl x.len
  refine CodeJ.seq ?_
  refine CodeJ.region ?_
  refine OpsJ.op rfl ?_
  refine OpJ.box rfl rfl rfl rfl fun ab hab => ?_
  refine OpsJ.op rfl ?_
  refine OpJ.alloc rfl rfl rfl zero_111 fun res hres => ?_
  refine OpsJ.nil ?_
  refine ExJ.thenN ?_
  refine CodeJ.seq ?_
  refine CodeJ.any (fuel := 13) (listed := #[false, false, false, false, false, false, false, false, false, false, false, false, false]) [1] rfl follows_mixed rfl rfl ?_
  refine AnyJ.take (fuel := 12) (listed' := #[true, false, false, false, false, false, false, false, false, false, false, false, false]) 0 rfl (by kernel_rfl) (by kernel_rfl) (by kernel_rfl) rfl rfl rfl rfl (Yld.fieldAddr fa_47_0 rfl rfl) (fun w hI => hI.pick (is := [1]) (by decide) rfl) ?_
  refine AnyJ.take (fuel := 11) (listed' := #[true, true, false, false, false, false, false, false, false, false, false, false, false]) 1 rfl (by kernel_rfl) (by kernel_rfl) (by kernel_rfl) rfl rfl rfl rfl (Yld.load1 rfl Tryd.underlying9 rfl rfl (fun w hI => Inv.cell1 hI (i := 0) rfl rfl)) (fun w hI => hI.pick (is := [1]) (by decide) rfl) ?_
  refine AnyJ.take (fuel := 10) (listed' := #[true, true, false, true, false, false, false, false, false, false, false, false, false]) 3 rfl (by kernel_rfl) (by kernel_rfl) (by kernel_rfl) rfl rfl rfl rfl (Yld.fieldAddr fa_47_1 rfl rfl) (fun w hI => hI.pick (is := [1]) (by decide) rfl) ?_
  refine AnyJ.take (fuel := 9) (listed' := #[true, true, false, true, true, false, false, false, false, false, false, false, false]) 4 rfl (by kernel_rfl) (by kernel_rfl) (by kernel_rfl) rfl rfl rfl rfl (Yld.load1 rfl Tryd.underlying22 rfl rfl (fun w hI => Inv.cell1 hI (i := 0) rfl rfl)) (fun w hI => hI.pick (is := [1]) (by decide) rfl) ?_
  refine AnyJ.take (fuel := 8) (listed' := #[true, true, false, true, true, true, false, false, false, false, false, false, false]) 5 rfl (by kernel_rfl) (by kernel_rfl) (by kernel_rfl) rfl rfl rfl rfl (Yld.fieldAddr fa_47_2 rfl rfl) (fun w hI => hI.pick (is := [1]) (by decide) rfl) ?_
  refine AnyJ.take (fuel := 7) (listed' := #[true, true, false, true, true, true, true, false, false, false, false, false, false]) 6 rfl (by kernel_rfl) (by kernel_rfl) (by kernel_rfl) rfl rfl rfl rfl (Yld.load1 rfl Tryd.underlying22 rfl rfl (fun w hI => Inv.cell1 hI (i := 0) rfl rfl)) (fun w hI => hI.pick (is := [1]) (by decide) rfl) ?_
  refine AnyJ.take (fuel := 6) (listed' := #[true, true, false, true, true, true, true, true, false, false, false, false, false]) 7 rfl (by kernel_rfl) (by kernel_rfl) (by kernel_rfl) rfl rfl rfl rfl (Yld.fieldAddr fa_47_3 rfl rfl) (fun w hI => hI.pick (is := [1]) (by decide) rfl) ?_
  refine AnyJ.take (fuel := 5) (listed' := #[true, true, false, true, true, true, true, true, true, false, false, false, false]) 8 rfl (by kernel_rfl) (by kernel_rfl) (by kernel_rfl) rfl rfl rfl rfl (Yld.load1 rfl Tryd.underlying43 rfl rfl (fun w hI => Inv.cell1 hI (i := 0) rfl rfl)) (fun w hI => hI.pick (is := [1]) (by decide) rfl) ?_
  refine AnyJ.take (fuel := 4) (listed' := #[true, true, false, true, true, true, true, true, true, true, false, false, false]) 9 rfl (by kernel_rfl) (by kernel_rfl) (by kernel_rfl) rfl rfl rfl rfl (Yld.fieldAddr fa_47_4 rfl rfl) (fun w hI => hI.pick (is := [1]) (by decide) rfl) ?_
  refine AnyJ.take (fuel := 3) (listed' := #[true, true, false, true, true, true, true, true, true, true, true, false, false]) 10 rfl (by kernel_rfl) (by kernel_rfl) (by kernel_rfl) rfl rfl rfl rfl (Yld.load1 rfl Tryd.underlying22 rfl rfl (fun w hI => Inv.cell1 hI (i := 0) rfl rfl)) (fun w hI => hI.pick (is := [1]) (by decide) rfl) ?_
  refine AnyJ.one (fuel := 2) 2 (by kernel_rfl) ?_
  refine StepJ.op (listed' := #[true, true, true, true, true, true, true, true, true, true, true, false, false]) rfl rfl rfl ?_
  refine OpJ.call (nameOf_spec x.name) has_61 rfl rfl rfl rfl rfl [] [0, 1] (by decide) rfl rfl (fun _ _ => trivial) ?_
  rintro _ _ ⟨rfl, rfl⟩
  refine ⟨fun w hI => hI.pick (is := [1]) (by decide) rfl, ?_⟩
  refine AnyJ.take (fuel := 1) (listed' := #[true, true, true, true, true, true, true, true, true, true, true, true, false]) 11 rfl (by kernel_rfl) (by kernel_rfl) (by kernel_rfl) rfl rfl rfl rfl (Yld.buildAll places_111 zero_111 rfl rfl ⟨by show _ = some (0, (nameCs (cut255 x.name)).toArray.size); rw [List.size_toArray, hsz]; rfl, by show _ = some (0 + (nameCs (cut255 x.name)).toArray.size, 1); rw [List.size_toArray, hsz]; rfl, by show _ = some (0 + (nameCs (cut255 x.name)).toArray.size + 1, 1); rw [List.size_toArray, hsz]; rfl, by show _ = some (0 + (nameCs (cut255 x.name)).toArray.size + 1 + 1, 1); rw [List.size_toArray, hsz]; rfl, by show _ = some (0 + (nameCs (cut255 x.name)).toArray.size + 1 + 1 + 1, 1); rw [List.size_toArray, hsz]; rfl, trivial⟩ (by show (flat [Value.agg (nameCs (cut255 x.name)).toArray, .int .u16 x.typ, .int .u16 x.cls, .int .u32 x.ttl, .int .u16 x.len]).length = _; rw [hfl, hq]; rfl)) (fun w hI => hI.pick (is := [1]) (by decide) rfl) ?_
  refine AnyJ.one (fuel := 0) 12 (by kernel_rfl) ?_
  refine StepJ.op (listed' := #[true, true, true, true, true, true, true, true, true, true, true, true, true]) rfl rfl rfl ?_
  refine OpJ.storeW (i := 0) rfl rfl rfl rfl (by show _ = some (flat [Value.agg (nameCs (cut255 x.name)).toArray, .int .u16 x.typ, .int .u16 x.cls, .int .u32 x.ttl, .int .u16 x.len]).toArray.size; rw [hfl, List.size_toArray, hq]; exact sz_111) rfl (by show oneCells (flat [Value.agg (nameCs (cut255 x.name)).toArray, .int .u16 x.typ, .int .u16 x.cls, .int .u32 x.ttl, .int .u16 x.len]) = true; rw [hfl]; exact hone) (by show (flat [Value.agg (nameCs (cut255 x.name)).toArray, .int .u16 x.typ, .int .u16 x.cls, .int .u32 x.ttl, .int .u16 x.len]).toArray.size = _; rw [hfl, List.size_toArray, hq]; rfl) ?_
  refine ⟨fun w hI => hI.pick (is := [1]) (by decide) rfl, ?_⟩
  refine AnyJ.done (by kernel_rfl) ?_
  refine ExJ.thenN ?_
  refine CodeJ.ret ?_
  refine ExJ.retC (vs := flat [Value.agg (nameCs (cut255 x.name)).toArray, .int .u16 x.typ, .int .u16 x.cls, .int .u32 x.ttl, .int .u16 x.len]) Tryd.results47 rfl Tryd.underlying111 rfl (by rw [hfl, hq]; exact sz_111) (fun w hI => Inv.whole hI (i := 0) rfl) ⟨by rw [hfl], rfl⟩ fun w hI => hI.pick (is := []) (by decide) rfl
end Go.Proofs.YtdiememgbnplkaaDoor
