/-
  net.ParseIP.
-/
import Derived.Test.YtnehofekgnbelaaPIP2
import Derived.Laws.Bits64b
namespace Go.Proofs.Ytnehofekgnbelaa
open Go.RowKit
set_option linter.unusedVariables false
set_option maxRecDepth 100000
set_option maxHeartbeats 1000000

def IPPost (w : World) (L : List UInt8) (e : Ending) (w' : World) : Prop := ∃ v, e = .returned v ∧ IPAt w' v L ∧ Below w.heap.size w w'

theorem ParseIP_any (s : ByteArray) (hi lo : Nat) (six : Bool) (L : List UInt8) (w : World) (h1 : hi < 18446744073709551616) (h2 : lo < 18446744073709551616)
    (hl : L.length = 16) (hL : as16L hi lo = (L.map u8v).toArray)
    (hp : ∀ w, Calls Try.prog 83 #[.string s] w (ParsedPost w (naddr hi lo six))) :
    Calls Try.prog 47 #[.string s] w (IPPost w L) := by
  have HP := Lib.hid (fun w => parseIP_any s hi lo six w h1 h2 hp)
  obtain ⟨n0, e0⟩ := bt_nat hi 0
  obtain ⟨n1, e1⟩ := bt_nat hi 1
  obtain ⟨n2, e2⟩ := bt_nat hi 2
  obtain ⟨n3, e3⟩ := bt_nat hi 3
  obtain ⟨n4, e4⟩ := bt_nat hi 4
  obtain ⟨n5, e5⟩ := bt_nat hi 5
  obtain ⟨n6, e6⟩ := bt_nat hi 6
  obtain ⟨n7, e7⟩ := bt_nat hi 7
  obtain ⟨n8, e8⟩ := bt_nat lo 0
  obtain ⟨n9, e9⟩ := bt_nat lo 1
  obtain ⟨n10, e10⟩ := bt_nat lo 2
  obtain ⟨n11, e11⟩ := bt_nat lo 3
  obtain ⟨n12, e12⟩ := bt_nat lo 4
  obtain ⟨n13, e13⟩ := bt_nat lo 5
  obtain ⟨n14, e14⟩ := bt_nat lo 6
  obtain ⟨n15, e15⟩ := bt_nat lo 7
  have hv : as16L hi lo = #[(.int .u8 n0), (.int .u8 n1), (.int .u8 n2), (.int .u8 n3), (.int .u8 n4), (.int .u8 n5), (.int .u8 n6), (.int .u8 n7), (.int .u8 n8), (.int .u8 n9), (.int .u8 n10), (.int .u8 n11), (.int .u8 n12), (.int .u8 n13), (.int .u8 n14), (.int .u8 n15)] := by
    unfold as16L
    rw [e0, e1, e2, e3, e4, e5, e6, e7, e8, e9, e10, e11, e12, e13, e14, e15]
  rw [hv] at HP hL
  have HL := Lib.hid hL
  have HN := Lib.hid hl
  clear hv hp h1 h2 hL hl e0 e1 e2 e3 e4 e5 e6 e7 e8 e9 e10 e11 e12 e13 e14 e15
  go_enter Try.func47, Try.ntmps47
  go_wp2_with fail
  refine (HP.out _).mono ?_
  rintro e w2 ⟨rfl, hb⟩
  have HB := Lib.hid hb
  clear hb
  go_wp2_with fail
  go_ret
  refine ⟨_, rfl, ip_of_row (heap_alloc_new w2 _) 0 16 16 L HN.out (by omega) (by omega) (by omega) fun i hi => ?_, HB.out.alloc HB.out.size _⟩
  rw [HL.out, Nat.zero_add]
  have h := HN.out
  simp [u8v, h, hi, List.getD_eq_getElem?_getD]

end Go.Proofs.Ytnehofekgnbelaa
