/- What the reference's Base64 makes of bytes, by hand: three bytes at a time through a small array. -/
import Derived.Test.YtjjkagjdbjpikaaDoorOr
import Derived.Test.YtjjkagjdbjpikaaDoorExt2
import Derived.KernelRfl
import Derived.Lib.Hide
import Derived.Laws.CopyRow
import Derived.Laws.CopyOwn
import Derived.Deep.LoopGhost
import Derived.Deep.RegionLaw
import Derived.Deep.DeepCutAuto
import Derived.Deep.CutBlock
import Derived.Test.YtjjkagjdbjpikaaDoorWWords
import Derived.Test.YtjjkagjdbjpikaaDoorWLast
import Derived.Test.YtjjkagjdbjpikaaDoorWMore
namespace Go.Proofs.YtjjkagjdbjpikaaDoor.Or
set_option linter.unusedVariables false
set_option linter.unusedSimpArgs false
open Go Go.RowKit Go.Proofs.YtjjkagjdbjpikaaDoorW.PrintWords Go.Proofs.YtjjkagjdbjpikaaDoorW.PrintLast Go.Proofs.YtjjkagjdbjpikaaDoorW.PrintMore

def S64 : ByteArray := (⟨#[65, 66, 67, 68, 69, 70, 71, 72, 73, 74, 75, 76, 77, 78, 79, 80, 81, 82, 83, 84, 85, 86, 87, 88, 89, 90, 97, 98, 99, 100, 101, 102, 103, 104, 105, 106, 107, 108, 109, 110, 111, 112, 113, 114, 115, 116, 117, 118, 119, 120, 121, 122, 48, 49, 50, 51, 52, 53, 54, 55, 56, 57, 43, 47]⟩ : ByteArray)
def v3 (x0 x1 x2 : Int) : Int := Go.bits .or .u32 (Go.bits .or .u32 (x0 % 4294967296 * 65536 % 4294967296) (x1 % 4294967296 * 256 % 4294967296)) (x2 % 4294967296)
def sg (v s : Int) : Int := bt S64 (Go.bits .and .u32 (v / s) 63)
def quad (v : Int) (n : Nat) : List Int := [sg v 262144, sg v 4096, if 2 ≤ n then sg v 64 else 61, if 3 ≤ n then sg v 1 else 61]
def b64 : List Int → List Int
  | [] => []
  | [a] => quad (v3 a 0 0) 1
  | [a, b] => quad (v3 a b 0) 2
  | a :: b :: c :: t => quad (v3 a b c) 3 ++ b64 t

theorem b64_step (l : List Int) (k : Nat) (hk : k < l.length) : b64 (l.drop k) = quad (v3 (l.getD k 0) (l.getD (k + 1) 0) (l.getD (k + 2) 0)) (min (l.length - k) 3) ++ b64 (l.drop (k + 3)) := by
  rcases hd : l.drop k with _ | ⟨a, t⟩
  · have := congrArg List.length hd
    rw [List.length_drop] at this
    simp at this
    omega
  have e0 : l.getD k 0 = a := by
    have := congrArg (fun z => z.getD 0 0) hd
    simpa [List.getD_eq_getElem?_getD, List.getElem?_drop] using this
  have e1 : l.getD (k + 1) 0 = t.getD 0 0 := by
    have := congrArg (fun z => z.getD 1 0) hd
    simpa [List.getD_eq_getElem?_getD, List.getElem?_drop] using this
  have e2 : l.getD (k + 2) 0 = t.getD 1 0 := by
    have := congrArg (fun z => z.getD 2 0) hd
    simpa [List.getD_eq_getElem?_getD, List.getElem?_drop] using this
  have e3 : l.drop (k + 3) = t.drop 2 := by
    have := congrArg (fun z => z.drop 3) hd
    simpa [List.drop_drop, Nat.add_comm] using this
  have hl2 : l.length - k = t.length + 1 := by
    have := congrArg List.length hd
    rw [List.length_drop] at this
    simpa using this
  rw [e0, e1, e2, e3, hl2]
  rcases t with _ | ⟨b, _ | ⟨c, t⟩⟩
  · rfl
  · rfl
  · have hm : min ((b :: c :: t).length + 1) 3 = 3 := by simp only [List.length_cons]; omega
    rw [hm]
    rfl
theorem wraps_u32 (n : Int) (h₀ : 0 ≤ n) (h₁ : n < 2 ^ 32) : IntKind.u32.wrap n = n := by rw [IntKind.wrap_u32]; omega
theorem and63 (x : Int) (h0 : 0 ≤ x) (h1 : x < 4294967296) : Go.bits .and .u32 x 63 = x % 64 := bits_mask .u32 32 (by decide) wraps_u32 6 (by decide) x h0 h1
theorem v3_range (x0 x1 x2 : Int) : 0 ≤ v3 x0 x1 x2 ∧ v3 x0 x1 x2 < 4294967296 := by
  unfold v3
  generalize Go.bits .or .u32 (x0 % 4294967296 * 65536 % 4294967296) (x1 % 4294967296 * 256 % 4294967296) = y
  unfold Go.bits
  simp only [IntKind.wrap_u32]
  omega
theorem infoA8 : (Tryd.prog.info? 5).map (fun i => (i.zero, i.size, i.bytes)) = some (some (.int .u8 0), 1, 1) := by kernel_rfl
theorem infoB8 : (Tryd.prog.info? 5).map (fun i => i.size) = some 1 := by kernel_rfl
theorem three (l : List Int) (k : Nat) (hk : k < l.length) : ((#[Value.int .u8 0, .int .u8 0, .int .u8 0] : Array Value).toList.take 0 ++ ((l.drop k).take 3).map (Value.int .u8) ++ (#[Value.int .u8 0, .int .u8 0, .int .u8 0] : Array Value).toList.drop (0 + (((l.drop k).take 3).map (Value.int .u8)).length)).toArray = #[.int .u8 (l.getD k 0), .int .u8 (l.getD (k + 1) 0), .int .u8 (l.getD (k + 2) 0)] := by
  rcases hd : l.drop k with _ | ⟨a, t⟩
  · have := congrArg List.length hd
    rw [List.length_drop] at this
    simp at this
    omega
  have e0 : l.getD k 0 = a := by
    have := congrArg (fun z => z.getD 0 0) hd
    simpa [List.getD_eq_getElem?_getD, List.getElem?_drop] using this
  have e1 : l.getD (k + 1) 0 = t.getD 0 0 := by
    have := congrArg (fun z => z.getD 1 0) hd
    simpa [List.getD_eq_getElem?_getD, List.getElem?_drop] using this
  have e2 : l.getD (k + 2) 0 = t.getD 1 0 := by
    have := congrArg (fun z => z.getD 2 0) hd
    simpa [List.getD_eq_getElem?_getD, List.getElem?_drop] using this
  rw [e0, e1, e2]
  rcases t with _ | ⟨b, _ | ⟨c, t⟩⟩
  · rfl
  · rfl
  · rfl
theorem step_copy {P : Program} {ops : Array Oper} {o : Oper} {a : Act} {Q : Exit → Act → World → Prop} {Kc : Act → World → Prop} {W W1 : World} {v vs vx : Value} (hw : Region.wanted o (yielded ops a.tmps) = true) (s x : Operand) (t : TypeId)
    (ho : o.op = .call { callee := .builtin .copy, args := #[s, x], argTypes := #[t, t] }) (hs : a.eval s = vs) (hx : a.eval x = vx) (hrun : (Builtin.copy_ #[t, t] o.type #[vs, vx]).run P W = .ok v W1) (h : Kc (a.put o.dst v) W1) :
    if Region.wanted o (yielded ops a.tmps) = true then Oper.wp P o a W Kc Q else Kc (a.put o.dst undef) W :=
  event_step hw (by simp [execOp, ho, resolve, invoke, builtin, hs, hx, hrun, Result.andThen]) h
/-- The next three bytes are copied into an array of noughts. -/
theorem copy3 (W : World) (g : Nat) (ad : Addr) (l : List Int) (k : Nat) (hk : k < l.length) (dc sc ty : Nat) (hg : W.heap[g]? = some (.cells #[.int .u8 0, .int .u8 0, .int .u8 0] 82 (0, 0)))
    (hsrc : ∀ j, j < l.length → W.cell? (ad.add j) = some (.int .u8 (l.getD j 0))) :
    (Builtin.copy_ #[32, 32] ty #[.slice (some ⟨g, 0, none⟩) 3 dc, .slice (some (ad.add k)) (l.length - k) sc]).run Tryd.prog W =
      .ok (goInt (min (l.length - k) 3 : Nat)) (W.setRow g #[.int .u8 (l.getD k 0), .int .u8 (l.getD (k + 1) 0), .int .u8 (l.getD (k + 2) 0)]) := by
  have hlen : (((l.drop k).take 3).map (Value.int .u8)).length = min (l.length - k) 3 := by
    rw [List.length_map, List.length_take, List.length_drop]
    omega
  have h := run_copy_row (P := Tryd.prog) W 32 32 ty 5 g 0 3 dc (ad.add k) (l.length - k) sc #[.int .u8 0, .int .u8 0, .int .u8 0] 82 (((l.drop k).take 3).map (Value.int .u8))
    Tryd.underlying32 infoB8 hg hlen ?_ (by rw [hlen]; show 0 + _ ≤ 3; omega) ?_
  · have harr : ((#[Value.int .u8 0, .int .u8 0, .int .u8 0] : Array Value).toList.take 0 ++ ((l.drop k).take 3).map (Value.int .u8) ++ (#[Value.int .u8 0, .int .u8 0, .int .u8 0] : Array Value).toList.drop (0 + (((l.drop k).take 3).map (Value.int .u8)).length)).toArray = #[.int .u8 (l.getD k 0), .int .u8 (l.getD (k + 1) 0), .int .u8 (l.getD (k + 2) 0)] := by
      exact three l k hk
    rw [h, harr, hlen]
  · intro j v hj
    have hjl : j < l.length - k := by
      rcases Nat.lt_or_ge j (((l.drop k).take 3).map (Value.int .u8)).length with h1 | h1
      · rw [hlen] at h1; omega
      · rw [List.getElem?_eq_none h1] at hj; cases hj
    have hj3 : j < 3 := by
      rcases Nat.lt_or_ge j (((l.drop k).take 3).map (Value.int .u8)).length with h1 | h1
      · rw [hlen] at h1; omega
      · rw [List.getElem?_eq_none h1] at hj; cases hj
    have e : (ad.add k).add j = ad.add (k + j) := Addr.add_add ad k j
    rw [e, hsrc (k + j) (by omega)]
    rw [List.getElem?_map, List.getElem?_take, if_pos hj3, List.getElem?_drop, List.getElem?_eq_getElem (by omega)] at hj
    simp only [Option.map_some, Option.some.injEq] at hj
    rw [List.getD_eq_getElem?_getD, List.getElem?_eq_getElem (by omega)]
    rw [← hj]
    rfl
  · intro v hv
    obtain ⟨x, _, rfl⟩ := List.mem_map.1 hv
    rfl

set_option maxHeartbeats 8000000 in
set_option maxRecDepth 100000 in
theorem b64_walk (w0 : World) (ad : Addr) (c0 : Nat) (l : List Int) (hc : ∀ k, k < l.length → w0.cell? (ad.add k) = some (.int .u8 (l.getD k 0))) (hl : l.length ≤ 100000) (hc0 : l.length ≤ c0) (h0 : 0 < l.length) :
    Calls Tryd.prog 51 #[.slice (some ad) l.length c0] w0 fun e w' => e = .returned (.string (strOfNums (b64 l))) ∧ Below w0.heap.size w0 w' := by
  have HCC := Lib.hid hc
  obtain ⟨R, hR⟩ : ∃ R, R = b64 l := ⟨_, rfl⟩
  rw [← hR]
  have HR := Lib.hid hR
  clear hc hR
  go_enter Tryd.func51, Tryd.ntmps51
  go_wp2_with fail
  go_loopw [3, 4] (fun v i wr => ∃ (k : Nat) (out : List Int), i = .int .i64 k ∧ k ≤ l.length + 2 ∧ Hid (out ++ b64 (l.drop k) = R) ∧ Hid (Kd.R (Kd.int .u8) 5 wr w0.heap.size (fun _ => True) v out) ∧ Hid (Below w0.heap.size w0 wr) ∧ Hid (out.length ≤ 4 * k)) (fun _ i _ => l.length + 3 - (intOf i).toNat)
  case atStart => exact ⟨0, [], rfl, by omega, Lib.hid (by rw [HR.out]; rfl), Lib.hid (Kd.R_nil _ _ _ _ _), Lib.hid (Below.refl _ _), Lib.hid (Nat.zero_le _)⟩
  case round =>
    obtain ⟨k, out, rfl, hk, HA, HO, HB, HL⟩ := hrel
    by_cases hlt : k < l.length
    · have tlt : decide ((k : Int) < (l.length : Int)) = true := decide_eq_true (by omega)
      go_wp2_with fail
      have k0 : (0 : Int) ≤ (k : Int) := by omega
      have k1 : (k : Int) ≤ (l.length : Int) := by omega
      have hsl : ∀ W : World, (Instr.slice 32 (.slice (some ad) l.length c0) (some (.int .i64 k)) none none).run Tryd.prog W = .ok (.slice (some (ad.add k)) (l.length - k) (c0 - k)) W := by
        intro W
        go_simp
        intro e
        omega
      obtain ⟨n, hn⟩ : ∃ n : Nat, n = min (l.length - k) 3 := ⟨_, rfl⟩
      have hcp : ∀ (W : World) (hg : W.heap[wr.heap.size]? = some (.cells #[.int .u8 0, .int .u8 0, .int .u8 0] 82 (0, 0))) (hsrc : ∀ j, j < l.length → W.cell? (ad.add j) = some (.int .u8 (l.getD j 0))), (Builtin.copy_ #[32, 32] 3 #[.slice (some ⟨wr.heap.size, 0, none⟩) 3 3, .slice (some (ad.add k)) (l.length - k) (c0 - k)]).run Tryd.prog W =
          .ok (.int .i64 (n : Int)) (W.setRow wr.heap.size #[.int .u8 (l.getD k 0), .int .u8 (l.getD (k + 1) 0), .int .u8 (l.getD (k + 2) 0)]) := by
        subst hn
        exact fun W hg hsrc => copy3 W wr.heap.size ad l k hlt 3 (c0 - k) 3 hg hsrc
      have HN := Lib.hid hn
      clear hn
      obtain ⟨x0, hx0⟩ : ∃ x, x = l.getD k 0 := ⟨_, rfl⟩
      obtain ⟨x1, hx1⟩ : ∃ x, x = l.getD (k + 1) 0 := ⟨_, rfl⟩
      obtain ⟨x2, hx2⟩ : ∃ x, x = l.getD (k + 2) 0 := ⟨_, rfl⟩
      rw [← hx0, ← hx1, ← hx2] at hcp
      have HX0 := Lib.hid hx0
      have HX1 := Lib.hid hx1
      have HX2 := Lib.hid hx2
      clear hx0 hx1 hx2
      go_region_law (refine step_copy (by rfl) (.tmp 15) (.tmp 18) 32 (by rfl) (by rfl) (by rfl) (hcp _ ?hg ?hsrc) ?_; (case hg => exact blk_new wr _); (case hsrc => exact fun j hj => ((below_drew1 (below_alloc HB.out _)).cell (World.block_lt_of_cell? w0 _ (HCC.out j hj))).trans (HCC.out j hj)))
      all_goals
        have hWb : (((wr.alloc (.cells #[.int .u8 0, .int .u8 0, .int .u8 0] 82)).drew).setRow wr.heap.size #[.int .u8 x0, .int .u8 x1, .int .u8 x2]).heap[wr.heap.size]? = some (.cells #[.int .u8 x0, .int .u8 x1, .int .u8 x2] 82 (0, 0)) := setRow_heap _ _ _ _ _ _ (blk_new wr _)
        have hWw : Below wr.heap.size wr (((wr.alloc (.cells #[.int .u8 0, .int .u8 0, .int .u8 0] 82)).drew).setRow wr.heap.size #[.int .u8 x0, .int .u8 x1, .int .u8 x2]) := below_setRow (below_drew1 (below_alloc (Below.refl _ _) _)) (Nat.le_refl _) _
        obtain ⟨W2, hW2⟩ : ∃ W2, W2 = (((wr.alloc (.cells #[.int .u8 0, .int .u8 0, .int .u8 0] 82)).drew).setRow wr.heap.size #[.int .u8 x0, .int .u8 x1, .int .u8 x2]) := ⟨_, rfl⟩
        rw [← hW2] at hWb hWw ⊢
        have HO2 := Lib.hid (Kd.R_below HO.out hWw)
        have HB2 := Lib.hid (below_step HB.out hWw)
        have hx0c : W2.cell? ⟨wr.heap.size, 0, none⟩ = some (.int .u8 x0) := (blk_cell hWb 0).trans rfl
        have hx1c : W2.cell? ⟨wr.heap.size, 1, none⟩ = some (.int .u8 x1) := (blk_cell hWb 1).trans rfl
        have hx2c : W2.cell? ⟨wr.heap.size, 2, none⟩ = some (.int .u8 x2) := (blk_cell hWb 2).trans rfl
        clear hW2 hWb hWw hcp hsl
        go_wp2_with fail
        generalize hV : Go.bits .or .u32 (Go.bits .or .u32 (x0 % 4294967296 * 65536 % 4294967296) (x1 % 4294967296 * 256 % 4294967296)) (x2 % 4294967296) = V
        have HV : Hid (V = v3 x0 x1 x2) := Lib.hid hV.symm
        have v0 : 0 ≤ V := by rw [HV.out]; exact (v3_range x0 x1 x2).1
        have v1 : V < 4294967296 := by rw [HV.out]; exact (v3_range x0 x1 x2).2
        clear hV hx0c hx1c hx2c
        have n1 : 1 ≤ n := by rw [HN.out]; omega
        have n3 : n ≤ 3 := by rw [HN.out]; omega
        go_loopw [3, 33] (fun v i wr2 => ∃ (q : Nat) (o2 : List Int), i = .int .i64 q ∧ q ≤ 4 ∧ Hid (o2 ++ (quad V n).drop q = out ++ quad V n) ∧ Hid (Kd.R (Kd.int .u8) 5 wr2 w0.heap.size (fun _ => True) v o2) ∧ Hid (Below w0.heap.size w0 wr2) ∧ Hid (o2.length ≤ 4 * k + q)) (fun _ i _ => 4 - (intOf i).toNat)
        case atStart => exact ⟨0, out, rfl, by omega, Lib.hid rfl, HO2, HB2, Lib.hid (by have := HL.out; omega)⟩
        case round =>
          obtain ⟨q, o2, rfl, hq, HA2, HO3, HB3, HL3⟩ := hrel
          have hlo : o2.length ≤ 500000 := by have := HL3.out; omega
          by_cases hq4 : q < 4
          · have tq4 : decide ((q : Int) < 4) = true := decide_eq_true (by omega)
            by_cases hqn : q ≤ n
            · have tqn : decide ((q : Int) ≤ (n : Int)) = true := decide_eq_true (by omega)
              obtain rfl | rfl | rfl | rfl : q = 0 ∨ q = 1 ∨ q = 2 ∨ q = 3 := by omega
              · obtain ⟨J, hJ⟩ : ∃ J, Go.bits .and .u32 (V / 262144) 63 = J := ⟨_, rfl⟩
                have hjr : 0 ≤ J ∧ J < 64 := by rw [← hJ, and63 _ (by omega) (by omega)]; omega
                have hj0 : 0 ≤ J := hjr.1
                have hj1 : J < 64 := hjr.2
                obtain ⟨C, hC⟩ : ∃ C, bt S64 J = C := ⟨_, rfl⟩
                have hbx : ∀ h : J.toNat < ((⟨#[65, 66, 67, 68, 69, 70, 71, 72, 73, 74, 75, 76, 77, 78, 79, 80, 81, 82, 83, 84, 85, 86, 87, 88, 89, 90, 97, 98, 99, 100, 101, 102, 103, 104, 105, 106, 107, 108, 109, 110, 111, 112, 113, 114, 115, 116, 117, 118, 119, 120, 121, 122, 48, 49, 50, 51, 52, 53, 54, 55, 56, 57, 43, 47]⟩ : ByteArray)).size, ((((⟨#[65, 66, 67, 68, 69, 70, 71, 72, 73, 74, 75, 76, 77, 78, 79, 80, 81, 82, 83, 84, 85, 86, 87, 88, 89, 90, 97, 98, 99, 100, 101, 102, 103, 104, 105, 106, 107, 108, 109, 110, 111, 112, 113, 114, 115, 116, 117, 118, 119, 120, 121, 122, 48, 49, 50, 51, 52, 53, 54, 55, 56, 57, 43, 47]⟩ : ByteArray))[J.toNat]'h).toNat : Int) = C := fun h => (bt_at (⟨#[65, 66, 67, 68, 69, 70, 71, 72, 73, 74, 75, 76, 77, 78, 79, 80, 81, 82, 83, 84, 85, 86, 87, 88, 89, 90, 97, 98, 99, 100, 101, 102, 103, 104, 105, 106, 107, 108, 109, 110, 111, 112, 113, 114, 115, 116, 117, 118, 119, 120, 121, 122, 48, 49, 50, 51, 52, 53, 54, 55, 56, 57, 43, 47]⟩ : ByteArray) J h).trans hC
                have HC2 : Hid (sg V 262144 = C) := Lib.hid (by unfold sg; rw [hJ, hC])
                clear hC hjr
                go_wp2_with (first | ((with_reducible refine gate_builtin (b := .append) (xs := #[.tmp 39, .tmp 47]) rfl ?_); (try (refine gate_guard (by rfl) ?_; dsimp only)); at_builtin; refine Kd.R_append (Kd.int .u8) (w0 := w0) w0.heap.size rfl (.tmp 39) (.tmp 47) 32 5 (.int .u8 0) 1 rfl Tryd.underlying32 infoA8 rfl (by decide) (by omega) _ o2 C [.int .u8 C] (fun _ => True) (fun _ => False) rfl rfl rfl (fun _ hk => hk.elim) (fun _ _ => trivial) HO3.out HB3.out HB3.out.size (by omega) ?_; intro v1 w1 ho hb _ _; have HO4 := Lib.hid ho; have HB4 := Lib.hid hb; clear ho hb))
                go_roundw
                case rel =>
                  refine ⟨1, _, by go_num, by omega, Lib.hid ?_, HO4, HB4, Lib.hid (by have := HL3.out; simp; omega)⟩
                  rw [← HA2.out, ← HC2.out]
                  simp [quad]
                case measure => simp [intOf]
              · obtain ⟨J, hJ⟩ : ∃ J, Go.bits .and .u32 (V / 4096) 63 = J := ⟨_, rfl⟩
                have hjr : 0 ≤ J ∧ J < 64 := by rw [← hJ, and63 _ (by omega) (by omega)]; omega
                have hj0 : 0 ≤ J := hjr.1
                have hj1 : J < 64 := hjr.2
                obtain ⟨C, hC⟩ : ∃ C, bt S64 J = C := ⟨_, rfl⟩
                have hbx : ∀ h : J.toNat < ((⟨#[65, 66, 67, 68, 69, 70, 71, 72, 73, 74, 75, 76, 77, 78, 79, 80, 81, 82, 83, 84, 85, 86, 87, 88, 89, 90, 97, 98, 99, 100, 101, 102, 103, 104, 105, 106, 107, 108, 109, 110, 111, 112, 113, 114, 115, 116, 117, 118, 119, 120, 121, 122, 48, 49, 50, 51, 52, 53, 54, 55, 56, 57, 43, 47]⟩ : ByteArray)).size, ((((⟨#[65, 66, 67, 68, 69, 70, 71, 72, 73, 74, 75, 76, 77, 78, 79, 80, 81, 82, 83, 84, 85, 86, 87, 88, 89, 90, 97, 98, 99, 100, 101, 102, 103, 104, 105, 106, 107, 108, 109, 110, 111, 112, 113, 114, 115, 116, 117, 118, 119, 120, 121, 122, 48, 49, 50, 51, 52, 53, 54, 55, 56, 57, 43, 47]⟩ : ByteArray))[J.toNat]'h).toNat : Int) = C := fun h => (bt_at (⟨#[65, 66, 67, 68, 69, 70, 71, 72, 73, 74, 75, 76, 77, 78, 79, 80, 81, 82, 83, 84, 85, 86, 87, 88, 89, 90, 97, 98, 99, 100, 101, 102, 103, 104, 105, 106, 107, 108, 109, 110, 111, 112, 113, 114, 115, 116, 117, 118, 119, 120, 121, 122, 48, 49, 50, 51, 52, 53, 54, 55, 56, 57, 43, 47]⟩ : ByteArray) J h).trans hC
                have HC2 : Hid (sg V 4096 = C) := Lib.hid (by unfold sg; rw [hJ, hC])
                clear hC hjr
                go_wp2_with (first | ((with_reducible refine gate_builtin (b := .append) (xs := #[.tmp 39, .tmp 47]) rfl ?_); (try (refine gate_guard (by rfl) ?_; dsimp only)); at_builtin; refine Kd.R_append (Kd.int .u8) (w0 := w0) w0.heap.size rfl (.tmp 39) (.tmp 47) 32 5 (.int .u8 0) 1 rfl Tryd.underlying32 infoA8 rfl (by decide) (by omega) _ o2 C [.int .u8 C] (fun _ => True) (fun _ => False) rfl rfl rfl (fun _ hk => hk.elim) (fun _ _ => trivial) HO3.out HB3.out HB3.out.size (by omega) ?_; intro v1 w1 ho hb _ _; have HO4 := Lib.hid ho; have HB4 := Lib.hid hb; clear ho hb))
                go_roundw
                case rel =>
                  refine ⟨2, _, by go_num, by omega, Lib.hid ?_, HO4, HB4, Lib.hid (by have := HL3.out; simp; omega)⟩
                  rw [← HA2.out, ← HC2.out]
                  simp [quad]
                case measure => simp [intOf]
              · obtain ⟨J, hJ⟩ : ∃ J, Go.bits .and .u32 (V / 64) 63 = J := ⟨_, rfl⟩
                have hjr : 0 ≤ J ∧ J < 64 := by rw [← hJ, and63 _ (by omega) (by omega)]; omega
                have hj0 : 0 ≤ J := hjr.1
                have hj1 : J < 64 := hjr.2
                obtain ⟨C, hC⟩ : ∃ C, bt S64 J = C := ⟨_, rfl⟩
                have hbx : ∀ h : J.toNat < ((⟨#[65, 66, 67, 68, 69, 70, 71, 72, 73, 74, 75, 76, 77, 78, 79, 80, 81, 82, 83, 84, 85, 86, 87, 88, 89, 90, 97, 98, 99, 100, 101, 102, 103, 104, 105, 106, 107, 108, 109, 110, 111, 112, 113, 114, 115, 116, 117, 118, 119, 120, 121, 122, 48, 49, 50, 51, 52, 53, 54, 55, 56, 57, 43, 47]⟩ : ByteArray)).size, ((((⟨#[65, 66, 67, 68, 69, 70, 71, 72, 73, 74, 75, 76, 77, 78, 79, 80, 81, 82, 83, 84, 85, 86, 87, 88, 89, 90, 97, 98, 99, 100, 101, 102, 103, 104, 105, 106, 107, 108, 109, 110, 111, 112, 113, 114, 115, 116, 117, 118, 119, 120, 121, 122, 48, 49, 50, 51, 52, 53, 54, 55, 56, 57, 43, 47]⟩ : ByteArray))[J.toNat]'h).toNat : Int) = C := fun h => (bt_at (⟨#[65, 66, 67, 68, 69, 70, 71, 72, 73, 74, 75, 76, 77, 78, 79, 80, 81, 82, 83, 84, 85, 86, 87, 88, 89, 90, 97, 98, 99, 100, 101, 102, 103, 104, 105, 106, 107, 108, 109, 110, 111, 112, 113, 114, 115, 116, 117, 118, 119, 120, 121, 122, 48, 49, 50, 51, 52, 53, 54, 55, 56, 57, 43, 47]⟩ : ByteArray) J h).trans hC
                have HC2 : Hid (sg V 64 = C) := Lib.hid (by unfold sg; rw [hJ, hC])
                clear hC hjr
                go_wp2_with (first | ((with_reducible refine gate_builtin (b := .append) (xs := #[.tmp 39, .tmp 47]) rfl ?_); (try (refine gate_guard (by rfl) ?_; dsimp only)); at_builtin; refine Kd.R_append (Kd.int .u8) (w0 := w0) w0.heap.size rfl (.tmp 39) (.tmp 47) 32 5 (.int .u8 0) 1 rfl Tryd.underlying32 infoA8 rfl (by decide) (by omega) _ o2 C [.int .u8 C] (fun _ => True) (fun _ => False) rfl rfl rfl (fun _ hk => hk.elim) (fun _ _ => trivial) HO3.out HB3.out HB3.out.size (by omega) ?_; intro v1 w1 ho hb _ _; have HO4 := Lib.hid ho; have HB4 := Lib.hid hb; clear ho hb))
                go_roundw
                case rel =>
                  refine ⟨3, _, by go_num, by omega, Lib.hid ?_, HO4, HB4, Lib.hid (by have := HL3.out; simp; omega)⟩
                  rw [← HA2.out, ← HC2.out]
                  simp [quad, hqn]
                case measure => simp [intOf]
              · obtain ⟨J, hJ⟩ : ∃ J, Go.bits .and .u32 (V) 63 = J := ⟨_, rfl⟩
                have hjr : 0 ≤ J ∧ J < 64 := by rw [← hJ, and63 _ (by omega) (by omega)]; omega
                have hj0 : 0 ≤ J := hjr.1
                have hj1 : J < 64 := hjr.2
                obtain ⟨C, hC⟩ : ∃ C, bt S64 J = C := ⟨_, rfl⟩
                have hbx : ∀ h : J.toNat < ((⟨#[65, 66, 67, 68, 69, 70, 71, 72, 73, 74, 75, 76, 77, 78, 79, 80, 81, 82, 83, 84, 85, 86, 87, 88, 89, 90, 97, 98, 99, 100, 101, 102, 103, 104, 105, 106, 107, 108, 109, 110, 111, 112, 113, 114, 115, 116, 117, 118, 119, 120, 121, 122, 48, 49, 50, 51, 52, 53, 54, 55, 56, 57, 43, 47]⟩ : ByteArray)).size, ((((⟨#[65, 66, 67, 68, 69, 70, 71, 72, 73, 74, 75, 76, 77, 78, 79, 80, 81, 82, 83, 84, 85, 86, 87, 88, 89, 90, 97, 98, 99, 100, 101, 102, 103, 104, 105, 106, 107, 108, 109, 110, 111, 112, 113, 114, 115, 116, 117, 118, 119, 120, 121, 122, 48, 49, 50, 51, 52, 53, 54, 55, 56, 57, 43, 47]⟩ : ByteArray))[J.toNat]'h).toNat : Int) = C := fun h => (bt_at (⟨#[65, 66, 67, 68, 69, 70, 71, 72, 73, 74, 75, 76, 77, 78, 79, 80, 81, 82, 83, 84, 85, 86, 87, 88, 89, 90, 97, 98, 99, 100, 101, 102, 103, 104, 105, 106, 107, 108, 109, 110, 111, 112, 113, 114, 115, 116, 117, 118, 119, 120, 121, 122, 48, 49, 50, 51, 52, 53, 54, 55, 56, 57, 43, 47]⟩ : ByteArray) J h).trans hC
                have HC2 : Hid (sg V 1 = C) := Lib.hid (by unfold sg; rw [Int.ediv_one]; rw [hJ, hC])
                clear hC hjr
                go_wp2_with (first | ((with_reducible refine gate_builtin (b := .append) (xs := #[.tmp 39, .tmp 47]) rfl ?_); (try (refine gate_guard (by rfl) ?_; dsimp only)); at_builtin; refine Kd.R_append (Kd.int .u8) (w0 := w0) w0.heap.size rfl (.tmp 39) (.tmp 47) 32 5 (.int .u8 0) 1 rfl Tryd.underlying32 infoA8 rfl (by decide) (by omega) _ o2 C [.int .u8 C] (fun _ => True) (fun _ => False) rfl rfl rfl (fun _ hk => hk.elim) (fun _ _ => trivial) HO3.out HB3.out HB3.out.size (by omega) ?_; intro v1 w1 ho hb _ _; have HO4 := Lib.hid ho; have HB4 := Lib.hid hb; clear ho hb))
                go_roundw
                case rel =>
                  refine ⟨4, _, by go_num, by omega, Lib.hid ?_, HO4, HB4, Lib.hid (by have := HL3.out; simp; omega)⟩
                  rw [← HA2.out, ← HC2.out]
                  simp [quad, hqn]
                case measure => simp [intOf]
            · have tqn : decide ((q : Int) ≤ (n : Int)) = false := decide_eq_false (by omega)
              go_wp2_with (first | ((with_reducible refine gate_builtin (b := .append) (xs := #[.tmp 49, .tmp 50]) rfl ?_); (try (refine gate_guard (by rfl) ?_; dsimp only)); at_builtin; refine Kd.R_append (Kd.int .u8) (w0 := w0) w0.heap.size rfl (.tmp 49) (.tmp 50) 32 5 (.int .u8 0) 1 rfl Tryd.underlying32 infoA8 rfl (by decide) (by omega) _ o2 61 [.int .u8 61] (fun _ => True) (fun _ => False) rfl rfl rfl (fun _ hk => hk.elim) (fun _ _ => trivial) HO3.out HB3.out HB3.out.size (by omega) ?_; intro v1 w1 ho hb _ _; have HO4 := Lib.hid ho; have HB4 := Lib.hid hb; clear ho hb))
              go_roundw
              case rel =>
                refine ⟨q + 1, _, by go_num, by omega, Lib.hid ?_, HO4, HB4, Lib.hid (by have := HL3.out; simp; omega)⟩
                rw [← HA2.out]
                obtain ⟨rfl, rfl⟩ | ⟨rfl, rfl⟩ | ⟨rfl, rfl⟩ : (q = 2 ∧ n = 1) ∨ (q = 3 ∧ n = 1) ∨ (q = 3 ∧ n = 2) := by omega
                all_goals simp [quad]
              case measure => simp [intOf]; omega
          · have tq4 : decide ((q : Int) < 4) = false := decide_eq_false (by omega)
            have hq5 : q = 4 := by omega
            subst hq5
            go_wp2
            go_roundw
            case rel =>
              refine ⟨k + 3, o2, by go_num, by omega, Lib.hid ?_, HO3, HB3, Lib.hid (by have := HL3.out; omega)⟩
              have h4 : o2 = out ++ quad V n := by
                rw [← HA2.out]
                simp [quad]
              rw [h4, ← HA.out, b64_step l k hlt, HV.out, HN.out, HX0.out, HX1.out, HX2.out, List.append_assoc]
            case measure => simp [intOf]; omega
    · have tlt : decide ((k : Int) < (l.length : Int)) = false := decide_eq_false (by omega)
      have hcv := own_string (P := Tryd.prog) Tryd.underlying32 Tryd.underlying5 Tryd.underlying9 (Kd.own_of_R HO.out)
      go_wp2
      go_ret
      have he : out = R := by
        rw [← HA.out, List.drop_eq_nil_of_le (by omega)]
        exact (List.append_nil _).symm
      rw [he]
      exact ⟨rfl, HB.out⟩
theorem b64_none (w0 : World) (A0 : Option Addr) (c0 : Nat) :
    Calls Tryd.prog 51 #[.slice A0 0 c0] w0 fun e w' => e = .returned (.string (strOfNums (b64 []))) ∧ Below w0.heap.size w0 w' := by
  have hcv := own_string (P := Tryd.prog) Tryd.underlying32 Tryd.underlying5 Tryd.underlying9 (Kd.own_of_R (Kd.R_nil (Kd.int .u8) 5 w0 w0.heap.size (fun _ => True)))
  go_enter Tryd.func51, Tryd.ntmps51
  go_wp2_with fail
  go_loopw [3, 4] (fun v i wr => v = .slice none 0 0 ∧ i = .int .i64 0 ∧ wr = w0) (fun _ i _ => 0)
  case atStart => exact ⟨rfl, rfl, rfl⟩
  case round =>
    obtain ⟨rfl, rfl, rfl⟩ := hrel
    go_wp2
    go_ret
    exact ⟨rfl, Below.refl _ _⟩

def spec_Base64.f (l0 : List Int) : Option ByteArray := if l0.length ≤ 100000 then some (strOfNums (b64 l0)) else none
theorem spec_Base64.calls (A0 : Option Addr) (c0 : Nat) (l0 : List Int) (r : ByteArray) (w : World) (hr0 : Kd.C (Kd.int .u8) w A0 l0.length l0) (hc0 : l0.length ≤ c0) (h : spec_Base64.f l0 = some r) :
    Calls Tryd.prog 51 #[.slice A0 l0.length c0] w fun e w' => e = .returned (.string r) ∧ Below w.heap.size w w' := by
  unfold spec_Base64.f at h
  split at h
  · rename_i hl
    obtain rfl := Option.some.inj h
    by_cases h0 : 0 < l0.length
    · obtain ⟨ad, rfl, hcell⟩ := (Kd.reads_of_C (enc := Value.int .u8) (d := (0 : Int)) (h1 := fun _ => rfl) hr0).2.2 h0
      exact b64_walk w ad c0 l0 hcell hl hc0 h0
    · obtain rfl : l0 = [] := List.length_eq_zero_iff.1 (by omega)
      exact b64_none w A0 c0
  · cases h
end Go.Proofs.YtjjkagjdbjpikaaDoor.Or
