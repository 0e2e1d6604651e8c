import Derived.Test.YbulkexuoP17
namespace Go.Proofs.Ybulkexuo
open Go.RowKit

def IN.args (I : IN) : List Value := [.int .u8 I.n0, .slice I.hA I.lh I.hc, .slice I.lA I.ll I.lc, .slice I.rA I.lr I.rc, .int .u8 I.aP, .int .i32 I.asc, .int .i32 I.aAt, .int .u8 I.gP, .int .i32 I.gsc, .int .i32 I.gAt]
set_option maxRecDepth 100000 in
set_option maxHeartbeats 1000000 in
/-- the law, at every input -/
theorem law_any (I : IN) (hF : I.Fine) (w0 : World) (hI : I.At w0) : Calls Yba.prog 3 I.args.toArray w0 (Post w0) := by
  refine calls_of_wp (c := Yba.f3.body.getD .skip) Yba.func3 (by kernel_rfl) ?_
  rw [Yba.ntmps3]
  have hK := kn_call I.args 706 (L := LA I) ⟨rfl, rfl, rfl, rfl, rfl, rfl, rfl, rfl, rfl, rfl, trivial⟩ (by show 10 ≤ 706; omega)
  generalize ({ tmps := I.args.toArray ++ Array.replicate (706 - I.args.toArray.size) undef, defers := [] } : Act) = a at *
  have hwf : WF I.D.N I.R0 := rsK_wf I I.lr
  have hasp : I.D.asp < I.D.N := Nat.mod_lt _ I.N_pos
  have hfin : (fin I.D (I.R0, none)).1 = I.EF := fin_rises I.D hwf hasp
  refine y0 I w0 (fun a hK hlh hll hlr => ?_) a hK
  refine y2 I w0 hI hF hll (fun a w wS HB eV lV hK hbS hHB hH hHlt hE => ?_) a hK
  refine y9 I w0 hI hF hlr wS w HB eV lV hbS hHB hH hHlt hE (fun a w rV raV hK hB => ?_) a hK
  refine y14 I w0 hF hll w HB eV lV rV raV hB (fun a w B e0 l0 hB0 hc0 r0 hK hB' hBB hC hrB => ?_) a hK
  refine y18 I w0 hF hll w HB eV lV rV raV hB' B e0 l0 hB0 hc0 r0 hBB hC hrB (fun a w F arB st hK hX => ?_) a hK
  refine y24 I w0 hI F arB st B e0 l0 hB0 hc0 r0 (fun a w mB r0B hK hM => ?_) a w hK hX
  refine y27 I w0 F arB st B e0 l0 hB0 hc0 r0 mB r0B hF hll (fun a w fB qB hK hQ => ?_) a w hK hM
  refine y31 I w0 F arB st B e0 l0 hB0 hc0 r0 mB r0B fB qB hI hF hll (fun a w wA xV oV hK hQ hO => ?_) a w hK hQ
  refine y36 I w0 F arB st B e0 l0 hB0 hc0 r0 mB r0B fB qB hF hll wA xV oV hQ (fun a w xV hK hQ hown => ?_) a w hK hO
  refine y38 I w0 F arB st B e0 l0 hB0 hc0 r0 mB r0B fB qB xV hfin (fun a w hK hE => ?_) a w hK ⟨hQ, hown⟩
  refine y40 I w0 F arB st B e0 l0 hB0 hc0 r0 mB r0B fB qB xV hfin (fun a w hK hE => ?_) a w hK hE
  refine y41 I w0 F arB st B e0 l0 hB0 hc0 r0 mB r0B fB qB xV hF hll hfin (fun h => fin_no I.D hwf hasp h) (fun h => fin_yes I.D hwf hasp h) (fun a w hK hE => ?_) a w hK hE
  exact y42 I w0 F arB st B e0 l0 hB0 hc0 r0 mB r0B fB qB xV hF hll hfin a w hK hE
end Go.Proofs.Ybulkexuo
