/- The parser's own table, by hand: parser.Table and FixedTable.Transition: the table is a constant text (zz: taken out of the function itself). -/
import Derived.Test.YtmpmfdghdaofhaaDoorPZx0
import Derived.Laws.BitsLemmas
import Derived.Laws.Tables
namespace Go.Proofs.YtmpmfdghdaofhaaDoor.Ma
set_option linter.unusedVariables false
set_option linter.unusedSimpArgs false
open Go Go.RowKit Go.Proofs.YtmpmfdghdaofhaaDoorW.PrintWords Go.Proofs.YtmpmfdghdaofhaaDoorW.PrintLast Go.Proofs.YtmpmfdghdaofhaaDoorW.PrintMore

def opLit (o : Oper) : Option ByteArray := match o.op with
  | .index _ (.const (.string s)) _ => some s
  | _ => none
def codeLit : Code → Option ByteArray
  | .seq a b => (codeLit a).or (codeLit b)
  | .region _ ops _ => ops.toList.findSome? opLit
  | _ => none
/-- The table's text. -/
noncomputable def zz : ByteArray := ((Tryd.f19.body.bind codeLit).getD ⟨#[]⟩)
theorem zz_size : zz.size = 4096 := by decide +kernel
/-- The entry of a state and a byte; the next state, the action. -/
noncomputable def ent (st c : Int) : Int := ((zz.data.toList.getD (st * 256 + c).toNat 0).toNat : Int)
noncomputable def nx (st c : Int) : Int := Go.bits .and .u8 (ent st c) 15
noncomputable def ac (st c : Int) : Int := ent st c / 16

theorem or_code (st c : Int) (h0 : 0 ≤ st) (h1 : st < 16) (h2 : 0 ≤ c) (h3 : c < 256) : Go.bits .or .i64 (st * 256) c = st * 256 + c := by
  obtain ⟨a, rfl⟩ := Int.eq_ofNat_of_zero_le h0
  obtain ⟨b, rfl⟩ := Int.eq_ofNat_of_zero_le h2
  have ha : a < 16 := by omega
  have hb : b < 256 := by omega
  have key : ∀ (x : Fin 16) (y : Fin 256), Go.bits .or .i64 (((x.val : Nat) : Int) * 256) ((y.val : Nat) : Int) = ((x.val : Nat) : Int) * 256 + ((y.val : Nat) : Int) := by decide +kernel
  exact key ⟨a, ha⟩ ⟨b, hb⟩

set_option maxHeartbeats 8000000 in
set_option maxRecDepth 100000 in
theorem table (w : World) : Calls Tryd.prog 18 #[] w fun e w' => e = .returned (.agg #[]) ∧ Below w.heap.size w w' := by
  go_enter Tryd.func18, Tryd.ntmps18
  go_wp2
  refine bodyPost_ret (results_cell_row rfl _ _ w.heap.size 45 #[] (0, 0) _ rfl (blk_new w _) Tryd.underlying45 rfl (by kernel_rfl)) rfl ?_
  exact ⟨rfl, below_alloc (Below.refl _ _) _⟩

set_option maxHeartbeats 8000000 in
set_option maxRecDepth 100000 in
theorem trans (st c : Int) (h0 : 0 ≤ st) (h1 : st < 16) (h2 : 0 ≤ c) (h3 : c < 256) (w : World) :
    Calls Tryd.prog 19 #[.agg #[], .int .u8 st, .int .u8 c] w fun e w' => e = .returned (.tuple #[.int .u8 (nx st c), .int .u8 (ac st c)]) ∧ Below w.heap.size w w' := by
  have hor := or_code st c h0 h1 h2 h3
  have b0 : 0 ≤ st * 256 + c := by omega
  have b1 : st * 256 + c < 4096 := by omega
  have hlt : (st * 256 + c).toNat < zz.data.toList.length := by
    rw [Array.length_toList]
    show _ < zz.size
    rw [zz_size]
    omega
  have hn : nx st c = Go.bits .and .u8 (((zz.data.toList[(st * 256 + c).toNat]'hlt).toNat : Nat) : Int) 15 := by
    unfold nx ent
    rw [List.getD_eq_getElem?_getD, List.getElem?_eq_getElem hlt]
    rfl
  have ha : ac st c = (((zz.data.toList[(st * 256 + c).toNat]'hlt).toNat : Nat) : Int) / 16 := by
    unfold ac ent
    rw [List.getD_eq_getElem?_getD, List.getElem?_eq_getElem hlt]
    rfl
  have HF := Aside0.mk (show ∀ (s : ByteArray), s = zz → ∀ (h : (st * 256 + c).toNat < s.size), Ending.returned (Value.tuple #[.int .u8 (Go.bits .and .u8 (((s[(st * 256 + c).toNat]'h).toNat : Nat) : Int) 15), .int .u8 ((((s[(st * 256 + c).toNat]'h).toNat : Nat) : Int) / 16)]) = Ending.returned (Value.tuple #[.int .u8 (nx st c), .int .u8 (ac st c)]) from by
    intro s hs h
    rw [hn, ha]
    subst hs
    rfl)
  clear hn ha
  go_enter Tryd.func19, Tryd.ntmps19
  go_wp2
  go_ret2
  exact ⟨HF.out _ (by kernel_rfl) _, below_alloc (Below.refl _ _) _⟩

end Go.Proofs.YtmpmfdghdaofhaaDoor.Ma
