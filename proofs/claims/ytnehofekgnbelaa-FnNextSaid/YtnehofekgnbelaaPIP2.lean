/-
  net.parseIP.
-/
import Derived.Test.YtnehofekgnbelaaPIP
import Derived.Laws.Bits64b
namespace Go.Proofs.Ytnehofekgnbelaa
open Go.RowKit
set_option linter.unusedVariables false
set_option maxRecDepth 100000
set_option maxHeartbeats 1000000

theorem parseIP_any (s : ByteArray) (hi lo : Nat) (six : Bool) (w : World) (h1 : hi < 18446744073709551616) (h2 : lo < 18446744073709551616)
    (hp : ∀ w, Calls Try.prog 83 #[.string s] w (ParsedPost w (naddr hi lo six))) :
    Calls Try.prog 67 #[.string s] w (BelowPost w (.tuple #[.agg (as16L hi lo), .bool true])) := by
  obtain ⟨n0, e0⟩ := bt_nat hi 0
  obtain ⟨n1, e1⟩ := bt_nat hi 1
  obtain ⟨n2, e2⟩ := bt_nat hi 2
  obtain ⟨n3, e3⟩ := bt_nat hi 3
  obtain ⟨n4, e4⟩ := bt_nat hi 4
  obtain ⟨n5, e5⟩ := bt_nat hi 5
  obtain ⟨n6, e6⟩ := bt_nat hi 6
  obtain ⟨n7, e7⟩ := bt_nat hi 7
  obtain ⟨n8, e8⟩ := bt_nat lo 0
  obtain ⟨n9, e9⟩ := bt_nat lo 1
  obtain ⟨n10, e10⟩ := bt_nat lo 2
  obtain ⟨n11, e11⟩ := bt_nat lo 3
  obtain ⟨n12, e12⟩ := bt_nat lo 4
  obtain ⟨n13, e13⟩ := bt_nat lo 5
  obtain ⟨n14, e14⟩ := bt_nat lo 6
  obtain ⟨n15, e15⟩ := bt_nat lo 7
  have hv : as16L hi lo = #[(.int .u8 n0), (.int .u8 n1), (.int .u8 n2), (.int .u8 n3), (.int .u8 n4), (.int .u8 n5), (.int .u8 n6), (.int .u8 n7), (.int .u8 n8), (.int .u8 n9), (.int .u8 n10), (.int .u8 n11), (.int .u8 n12), (.int .u8 n13), (.int .u8 n14), (.int .u8 n15)] := by
    unfold as16L
    rw [e0, e1, e2, e3, e4, e5, e6, e7, e8, e9, e10, e11, e12, e13, e14, e15]
  have HP := Lib.hid hp
  have HZ := Lib.hid (fun w => zone_any hi lo six w)
  have HA := Lib.hid (fun w => as16_any hi lo six w h1 h2)
  rw [hv] at HA ⊢
  clear hv hp h1 h2 e0 e1 e2 e3 e4 e5 e6 e7 e8 e9 e10 e11 e12 e13 e14 e15
  unfold naddr at HZ HA
  go_enter Try.func67, Try.ntmps67
  go_wp2_with fail
  refine (HP.out _).mono ?_
  rintro e w2 ⟨rfl, hb⟩
  unfold naddr
  have hr2 := row_on hb (heap_alloc_new w _)
  have HR2 := Lib.hid hr2
  have HB2 := Lib.hid (below_tr ((Below.refl w.heap.size w).alloc (Nat.le_refl _) _) hb)
  clear hr2 hb
  go_wp2_with fail
  refine (HZ.out _).mono ?_
  rintro e w3 ⟨rfl, hb⟩
  have hbox := row_on hb (heap_alloc_new w2 _)
  have hres := row_on hb (show (w2.alloc _).heap[w.heap.size]? = _ from (heap_alloc_old w2 _ (Array.getElem?_eq_some_iff.1 HR2.out).1).trans HR2.out)
  obtain ⟨b0, b1, b2, b3, b4⟩ := row5_facts hbox
  have HR3 := Lib.hid hres
  have HB3 := Lib.hid (below_tr (HB2.out.alloc HB2.out.size _) hb)
  clear hbox hres hb
  go_wp2_with fail
  refine (HA.out _).mono ?_
  rintro e w4 ⟨rfl, hb⟩
  have hrow := row_on hb HR3.out
  obtain ⟨c0, c1, c2, c3, c4, c5, c6, c7, c8, c9, c10, c11, c12, c13, c14, c15, f0, f1, f2, f3, f4, f5, f6, f7, f8, f9, f10, f11, f12, f13, f14, f15⟩ := row16_facts hrow
  have HB4 := Lib.hid (below_tr HB3.out hb)
  clear hrow hb b0 b1 b2 b3 b4
  go_wp2_with fail
  refine bodyPost_ret (v := .tuple #[.agg #[(.int .u8 n0), (.int .u8 n1), (.int .u8 n2), (.int .u8 n3), (.int .u8 n4), (.int .u8 n5), (.int .u8 n6), (.int .u8 n7), (.int .u8 n8), (.int .u8 n9), (.int .u8 n10), (.int .u8 n11), (.int .u8 n12), (.int .u8 n13), (.int .u8 n14), (.int .u8 n15)], .bool true]) (by simp [results, Try.results67, go_sem, c0, c1, c2, c3, c4, c5, c6, c7, c8, c9, c10, c11, c12, c13, c14, c15]) rfl ⟨rfl, ?_⟩
  repeat refine Below.setCell ?_ (by simp) _
  exact HB4.out

end Go.Proofs.Ytnehofekgnbelaa
