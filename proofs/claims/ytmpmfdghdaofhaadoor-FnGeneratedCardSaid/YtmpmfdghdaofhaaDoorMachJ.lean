/- machineAwake, by hand. -/
import Derived.Test.YtmpmfdghdaofhaaDoorMachI
namespace Go.Proofs.YtmpmfdghdaofhaaDoor.Ma
set_option linter.unusedVariables false
set_option linter.unusedSimpArgs false
open Go Go.RowKit Go.Proofs.YtmpmfdghdaofhaaDoorW.PrintWords Go.Proofs.YtmpmfdghdaofhaaDoorW.PrintLast Go.Proofs.YtmpmfdghdaofhaaDoorW.PrintMore

theorem raw_at {W : World} {g : Nat} {xs : List (List Value)} (h : Kd.C (Kd.raw 6) W (some ⟨g, 0, none⟩) xs.length xs) (i : Int) (x : List Value) (h0 : 0 ≤ i) (h1 : i < xs.length) (hx : xs.getD i.toNat [] = x) (j : Nat) (u : Value) (hu : x[j]? = some u) :
    W.cell? ((⟨g, 0, none⟩ : Addr).add (i.toNat * 6 + j)) = some u := by
  obtain ⟨ad, c, e, _, hK, hc⟩ := Kd.C_get h ([] : List Value) i h0 h1
  cases e
  obtain ⟨rfl, _⟩ := hK
  exact hc j u (by rw [hx]; exact hu)

set_option maxHeartbeats 8000000 in
set_option maxRecDepth 100000 in
theorem awake_ (w : World) : Calls Tryd.prog 9 #[] w fun e w' => e = .returned (.bool true) ∧ Below w.heap.size w w' := by
  have hcv := Lib.run_convert_bytes_const (P := Tryd.prog) w 27 5 #[.int .u8 27, .int .u8 91, .int .u8 49, .int .u8 109, .int .u8 65] 5 5 Tryd.underlying27 Tryd.underlying5
  have HC := Aside0.mk (Go.Proofs.YtmpmfdghdaofhaaDoor.Ext.C_lit w [27, 91, 49, 109, 65] #[.int .u8 27, .int .u8 91, .int .u8 49, .int .u8 109, .int .u8 65] 5 (5, 6) rfl (by decide))
  go_enter Tryd.func9, Tryd.ntmps9
  go_wp2_with fail
  refine (feed _ _ 5 HC.out (by omega)).mono ?_
  rintro e w3 ⟨Ai, ci, v3, rfl, hr3, hb3⟩
  obtain ⟨g9, cap, e9, _, _, _, _⟩ := Kd.R_form hr3 (by simp)
  subst e9
  have hC := (Kd.R_reads' hr3).2.2
  have q0 : w3.cell? ⟨g9, 0, none⟩ = some (.int .i64 2) := raw_at hC 0 _ (by omega) (by simp) rfl 0 _ rfl
  have q3 : w3.cell? ⟨g9, 3, none⟩ = some (.int .i64 109) := by
    have h := raw_at hC 0 _ (by omega) (by simp) rfl 3 _ rfl
    simpa [Addr.add] using h
  have q7 : w3.cell? ⟨g9, 7, none⟩ = some (.int .i64 65) := by
    have h := raw_at hC 1 _ (by omega) (by simp) rfl 1 _ rfl
    simpa [Addr.add] using h
  have HB := Aside0.mk hb3
  clear hC hr3 hb3
  go_wp2
  go_ret
  exact ⟨rfl, (below_alloc (Below.refl _ w) _).trans (HB.out.mono (below_alloc (Below.refl _ w) (.cells #[.int .u8 27, .int .u8 91, .int .u8 49, .int .u8 109, .int .u8 65] 5 (5, 6))).size)⟩

end Go.Proofs.YtmpmfdghdaofhaaDoor.Ma
