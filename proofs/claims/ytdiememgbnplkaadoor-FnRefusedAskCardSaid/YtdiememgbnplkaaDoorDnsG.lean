/-
  Contracts: Finish.
-/
import Derived.Test.YtdiememgbnplkaaDoorDnsF
namespace Go.Proofs.YtdiememgbnplkaaDoor
open Go
set_option maxRecDepth 100000

theorem packUint16_in (x : Nat) (b off l cap : Nat) (cs : Array Value) (h1 : l + 2 ≤ cap) (h2 : off + l + 2 ≤ cs.size) :
    Spec Tryd.prog 66 [.slice (some ⟨b, off, none⟩) l cap, .int .u16 x] [.blk b cs 5] (fun _ => True) (fun r H' => r = .slice (some ⟨b, off, none⟩) (l + 2) cap ∧ H' = [.blk b (setCs cs (off + l) (bytesV (be16 x))) 5]) := by
  refine Spec.of Tryd.func66 rfl Tryd.ntmps66 rfl fun w0 _ => ?_
  refine CodeJ.seq ?_
  refine CodeJ.region ?_
  refine OpsJ.yld rfl rfl rfl (Yld.assign rfl rfl) ?_
  refine OpsJ.nil ?_
  refine ExJ.thenN ?_
  refine CodeJ.seq ?_
  refine CodeJ.region ?_
  refine OpsJ.yld rfl rfl rfl (Yld.move rfl rfl) ?_
  refine OpsJ.yld rfl rfl rfl (Yld.move rfl rfl) ?_
  refine OpsJ.yld rfl rfl rfl (Yld.shr rfl rfl rfl (by decide)) ?_
  refine OpsJ.yld rfl rfl rfl (Yld.convInt rfl Tryd.underlying22 Tryd.underlying5 rfl) ?_
  refine OpsJ.yld rfl rfl rfl (Yld.move rfl rfl) ?_
  refine OpsJ.yld rfl rfl rfl (Yld.convInt rfl Tryd.underlying22 Tryd.underlying5 rfl) ?_
  rw [shr8, u8_wrap, u8_wrap]
  refine OpsJ.op rfl ?_
  refine OpJ.buildSlice (xs := [.tmp 8, .tmp 10]) elt_29 rfl rfl rfl rfl rfl rfl (by rfl) (by decide) fun s11 hs11 => ?_
  refine OpsJ.op rfl ?_
  refine OpJ.appendIn (i := 1) (news := be16 x) elt_29 rfl rfl rfl rfl rfl rfl (fun w hI => Bytes.src (Inv.bytes (k := 0) rfl w hI) Tryd.underlying29) h1 h2 ?_
  refine OpsJ.yld rfl rfl rfl (Yld.assign rfl rfl) ?_
  refine OpsJ.nil ?_
  refine ExJ.thenN ?_
  refine CodeJ.ret ?_
  exact ExJ.ret1 Tryd.results66 rfl ⟨rfl, rfl⟩ fun w hI => hI.pick (is := [1]) (by decide) rfl

/-- the header of a message, as bytes -/
def hd12 (id bits q an au ad : Nat) : List UInt8 := be16 id ++ be16 bits ++ be16 q ++ be16 an ++ be16 au ++ be16 ad
theorem setCs_two (c : Array Value) (off k : Nat) (xs ys : List UInt8) (hk : k = xs.length) (h : off + k + ys.length ≤ c.size) : setCs (setCs c off (bytesV xs)) (off + k) (bytesV ys) = setCs c off (bytesV (xs ++ ys)) := by
  subst hk
  have e := setCs_adj (c := c) (k := off) (xs := bytesV xs) (ys := bytesV ys) (by simpa [bytesV_len] using h)
  rw [bytesV_len] at e
  rw [e]
  congr 1
  simp [bytesV]
theorem setCs_sz (c : Array Value) (off : Nat) (xs : List UInt8) (h : off + xs.length ≤ c.size) : (setCs c off (bytesV xs)).size = c.size := setCs_size (by rw [bytesV_len]; exact h)

theorem headPack_spec (id bits q an au ad : Nat) (bb b off cap : Nat) (cs : Array Value) (h1 : 12 ≤ cap) (h2 : off + 12 ≤ cs.size) :
    Spec Tryd.prog 62 [.pointer (some ⟨bb, 2, none⟩), .slice (some ⟨b, off, none⟩) 0 cap] [.blk b cs 5] (fun w => Cells w bb 2 [.int .u16 id, .int .u16 bits, .int .u16 q, .int .u16 an, .int .u16 au, .int .u16 ad] ∧ bb ∉ fp [.blk b cs 5])
      (fun r H' => r = .slice (some ⟨b, off, none⟩) 12 cap ∧ H' = [.blk b (setCs cs off (bytesV (hd12 id bits q an au ad))) 5]) := by
  refine Spec.of Tryd.func62 rfl Tryd.ntmps62 rfl fun w0 hR => ?_
  obtain ⟨hcs, hbb⟩ := hR
  have f0 : off + (be16 id).length ≤ cs.size := by simp [be16_len]; omega
  have f1 : off + (be16 id ++ be16 bits).length ≤ cs.size := by simp [be16_len]; omega
  have f2 : off + (be16 id ++ be16 bits ++ be16 q).length ≤ cs.size := by simp [be16_len]; omega
  have f3 : off + (be16 id ++ be16 bits ++ be16 q ++ be16 an).length ≤ cs.size := by simp [be16_len]; omega
  have f4 : off + (be16 id ++ be16 bits ++ be16 q ++ be16 an ++ be16 au).length ≤ cs.size := by simp [be16_len]; omega
  refine CodeJ.seq ?_
  refine CodeJ.region ?_
  refine OpsJ.yld rfl rfl rfl (Yld.assign rfl rfl) ?_
  refine OpsJ.nil ?_
  refine ExJ.thenN ?_
  refine CodeJ.seq ?_
  refine CodeJ.region ?_
  refine OpsJ.yld rfl rfl rfl (Yld.move rfl rfl) ?_
  refine OpsJ.yld rfl rfl rfl (Yld.move rfl rfl) ?_
  refine OpsJ.yld rfl rfl rfl (Yld.nilCheck rfl rfl) ?_
  refine OpsJ.yld rfl rfl rfl (Yld.fieldAddr fa_86_0 rfl rfl) ?_
  refine OpsJ.yld rfl rfl rfl (Yld.load1 rfl Tryd.underlying22 rfl rfl (fun w hI => hI.old (hcs.one (k := 0) rfl) hbb)) ?_
  refine OpsJ.op rfl ?_
  refine OpJ.call (packUint16_in id b off 0 cap cs (by omega) (by omega)) has_66 rfl rfl rfl rfl rfl [0] [] (by decide) rfl rfl (fun _ _ => trivial) ?_
  rintro _ _ ⟨rfl, rfl⟩
  refine OpsJ.yld rfl rfl rfl (Yld.assign rfl rfl) ?_
  refine OpsJ.nil ?_
  refine ExJ.thenN ?_
  refine CodeJ.seq ?_
  refine CodeJ.region ?_
  refine OpsJ.yld rfl rfl rfl (Yld.move rfl rfl) ?_
  refine OpsJ.yld rfl rfl rfl (Yld.move rfl rfl) ?_
  refine OpsJ.yld rfl rfl rfl (Yld.nilCheck rfl rfl) ?_
  refine OpsJ.yld rfl rfl rfl (Yld.fieldAddr fa_86_1 rfl rfl) ?_
  refine OpsJ.yld rfl rfl rfl (Yld.load1 rfl Tryd.underlying22 rfl rfl (fun w hI => hI.old (hcs.one (k := 1) rfl) hbb)) ?_
  refine OpsJ.op rfl ?_
  refine OpJ.call (packUint16_in bits b off 2 cap (setCs cs off (bytesV (be16 id))) (by omega) (by rw [setCs_sz _ _ _ f0]; omega)) has_66 rfl rfl rfl rfl rfl [0] [] (by decide) rfl rfl (fun _ _ => trivial) ?_
  rintro _ _ ⟨rfl, rfl⟩
  refine OpsJ.congrH (H' := [.blk b (setCs cs off (bytesV (be16 id ++ be16 bits))) 5]) (congrArg (fun c => [Res.blk b c 5]) (setCs_two cs off 2 (be16 id) (be16 bits) rfl (by simp [be16_len]; omega))) ?_
  refine OpsJ.yld rfl rfl rfl (Yld.assign rfl rfl) ?_
  refine OpsJ.nil ?_
  refine ExJ.thenN ?_
  refine CodeJ.seq ?_
  refine CodeJ.region ?_
  refine OpsJ.yld rfl rfl rfl (Yld.move rfl rfl) ?_
  refine OpsJ.yld rfl rfl rfl (Yld.move rfl rfl) ?_
  refine OpsJ.yld rfl rfl rfl (Yld.nilCheck rfl rfl) ?_
  refine OpsJ.yld rfl rfl rfl (Yld.fieldAddr fa_86_2 rfl rfl) ?_
  refine OpsJ.yld rfl rfl rfl (Yld.load1 rfl Tryd.underlying22 rfl rfl (fun w hI => hI.old (hcs.one (k := 2) rfl) hbb)) ?_
  refine OpsJ.op rfl ?_
  refine OpJ.call (packUint16_in q b off 4 cap (setCs cs off (bytesV (be16 id ++ be16 bits))) (by omega) (by rw [setCs_sz _ _ _ f1]; omega)) has_66 rfl rfl rfl rfl rfl [0] [] (by decide) rfl rfl (fun _ _ => trivial) ?_
  rintro _ _ ⟨rfl, rfl⟩
  refine OpsJ.congrH (H' := [.blk b (setCs cs off (bytesV (be16 id ++ be16 bits ++ be16 q))) 5]) (congrArg (fun c => [Res.blk b c 5]) (setCs_two cs off 4 (be16 id ++ be16 bits) (be16 q) rfl (by simp [be16_len]; omega))) ?_
  refine OpsJ.yld rfl rfl rfl (Yld.assign rfl rfl) ?_
  refine OpsJ.nil ?_
  refine ExJ.thenN ?_
  refine CodeJ.seq ?_
  refine CodeJ.region ?_
  refine OpsJ.yld rfl rfl rfl (Yld.move rfl rfl) ?_
  refine OpsJ.yld rfl rfl rfl (Yld.move rfl rfl) ?_
  refine OpsJ.yld rfl rfl rfl (Yld.nilCheck rfl rfl) ?_
  refine OpsJ.yld rfl rfl rfl (Yld.fieldAddr fa_86_3 rfl rfl) ?_
  refine OpsJ.yld rfl rfl rfl (Yld.load1 rfl Tryd.underlying22 rfl rfl (fun w hI => hI.old (hcs.one (k := 3) rfl) hbb)) ?_
  refine OpsJ.op rfl ?_
  refine OpJ.call (packUint16_in an b off 6 cap (setCs cs off (bytesV (be16 id ++ be16 bits ++ be16 q))) (by omega) (by rw [setCs_sz _ _ _ f2]; omega)) has_66 rfl rfl rfl rfl rfl [0] [] (by decide) rfl rfl (fun _ _ => trivial) ?_
  rintro _ _ ⟨rfl, rfl⟩
  refine OpsJ.congrH (H' := [.blk b (setCs cs off (bytesV (be16 id ++ be16 bits ++ be16 q ++ be16 an))) 5]) (congrArg (fun c => [Res.blk b c 5]) (setCs_two cs off 6 (be16 id ++ be16 bits ++ be16 q) (be16 an) rfl (by simp [be16_len]; omega))) ?_
  refine OpsJ.yld rfl rfl rfl (Yld.assign rfl rfl) ?_
  refine OpsJ.nil ?_
  refine ExJ.thenN ?_
  refine CodeJ.seq ?_
  refine CodeJ.region ?_
  refine OpsJ.yld rfl rfl rfl (Yld.move rfl rfl) ?_
  refine OpsJ.yld rfl rfl rfl (Yld.move rfl rfl) ?_
  refine OpsJ.yld rfl rfl rfl (Yld.nilCheck rfl rfl) ?_
  refine OpsJ.yld rfl rfl rfl (Yld.fieldAddr fa_86_4 rfl rfl) ?_
  refine OpsJ.yld rfl rfl rfl (Yld.load1 rfl Tryd.underlying22 rfl rfl (fun w hI => hI.old (hcs.one (k := 4) rfl) hbb)) ?_
  refine OpsJ.op rfl ?_
  refine OpJ.call (packUint16_in au b off 8 cap (setCs cs off (bytesV (be16 id ++ be16 bits ++ be16 q ++ be16 an))) (by omega) (by rw [setCs_sz _ _ _ f3]; omega)) has_66 rfl rfl rfl rfl rfl [0] [] (by decide) rfl rfl (fun _ _ => trivial) ?_
  rintro _ _ ⟨rfl, rfl⟩
  refine OpsJ.congrH (H' := [.blk b (setCs cs off (bytesV (be16 id ++ be16 bits ++ be16 q ++ be16 an ++ be16 au))) 5]) (congrArg (fun c => [Res.blk b c 5]) (setCs_two cs off 8 (be16 id ++ be16 bits ++ be16 q ++ be16 an) (be16 au) rfl (by simp [be16_len]; omega))) ?_
  refine OpsJ.yld rfl rfl rfl (Yld.assign rfl rfl) ?_
  refine OpsJ.nil ?_
  refine ExJ.thenN ?_
  refine CodeJ.seq ?_
  refine CodeJ.region ?_
  refine OpsJ.yld rfl rfl rfl (Yld.move rfl rfl) ?_
  refine OpsJ.yld rfl rfl rfl (Yld.move rfl rfl) ?_
  refine OpsJ.yld rfl rfl rfl (Yld.nilCheck rfl rfl) ?_
  refine OpsJ.yld rfl rfl rfl (Yld.fieldAddr fa_86_5 rfl rfl) ?_
  refine OpsJ.yld rfl rfl rfl (Yld.load1 rfl Tryd.underlying22 rfl rfl (fun w hI => hI.old (hcs.one (k := 5) rfl) hbb)) ?_
  refine OpsJ.op rfl ?_
  refine OpJ.call (packUint16_in ad b off 10 cap (setCs cs off (bytesV (be16 id ++ be16 bits ++ be16 q ++ be16 an ++ be16 au))) (by omega) (by rw [setCs_sz _ _ _ f4]; omega)) has_66 rfl rfl rfl rfl rfl [0] [] (by decide) rfl rfl (fun _ _ => trivial) ?_
  rintro _ _ ⟨rfl, rfl⟩
  refine OpsJ.congrH (H' := [.blk b (setCs cs off (bytesV (be16 id ++ be16 bits ++ be16 q ++ be16 an ++ be16 au ++ be16 ad))) 5]) (congrArg (fun c => [Res.blk b c 5]) (setCs_two cs off 10 (be16 id ++ be16 bits ++ be16 q ++ be16 an ++ be16 au) (be16 ad) rfl (by simp [be16_len]; omega))) ?_
  refine OpsJ.yld rfl rfl rfl (Yld.assign rfl rfl) ?_
  refine OpsJ.nil ?_
  refine ExJ.thenN ?_
  refine CodeJ.ret ?_
  exact ExJ.ret1 Tryd.results62 rfl ⟨rfl, rfl⟩ fun w hI => hI
end Go.Proofs.YtdiememgbnplkaaDoor
