/-
  laws.FnCanonical returns true.
-/
import Derived.Test.YtnehofekgnbelaaGreatDoorCanSpec
import Derived.Test.YtnehofekgnbelaaGreatDoorRgEq
import Derived.Test.YtnehofekgnbelaaGreatDoorM25
namespace Go.Proofs.YtnehofekgnbelaaGreatDoor
open Go.RowKit
set_option linter.unusedVariables false
set_option maxRecDepth 100000
set_option maxHeartbeats 2000000

theorem lawCanon (s0 s1 s2 s3 : ByteArray) (w : World) (ht : Tab w) :
    Calls Tryz.prog 3 #[.agg #[.string s0, .string s1, .string s2, .string s3]] w (LawPost w) := by
  have HTAB := Lib.hid ht
  clear ht
  go_enter Tryz.func3, Tryz.ntmps3
  go_wp2_with fail
  refine (fits1_any s0 s1 s2 s3 _).mono ?_
  rintro e w1 ⟨ok, rfl, hf, hb1⟩
  have HB1 := Lib.hid (below_tr (Below.refl (w.alloc (.cells #[.string s0, .string s1, .string s2, .string s3] 23)).heap.size (w.alloc (.cells #[.string s0, .string s1, .string s2, .string s3] 23))) hb1)
  have hr := nz5_old' HB1.out
  obtain ⟨c0, c1, c2, c3⟩ := row4_facts hr.1
  have cz : w.heap.size < w1.heap.size := (Array.getElem?_eq_some_iff.1 hr.1).1
  clear hr hb1
  cases ok with
  | false =>
    clear hf
    go_wp2_with fail
    go_ret
    exact ⟨rfl, (nz5_old' HB1.out).2⟩
  | true =>
    obtain ⟨z0, z1, z2, z3⟩ := hf rfl
    clear hf
    go_wp2_with fail
    refine (isRange_any s0 s1 s2 s3 _ z0 z1 z2 z3).mono ?_
    rintro e w2 ⟨ok, rfl, hR, hb2⟩
    clear c0 c1 c2 c3 cz z0 z1 z2 z3
    have HB2 := Lib.hid (below_tr HB1.out hb2)
    have hr := nz5_old' HB2.out
    obtain ⟨c0, c1, c2, c3⟩ := row4_facts hr.1
    have cz : w.heap.size < w2.heap.size := (Array.getElem?_eq_some_iff.1 hr.1).1
    clear hr hb2
    cases ok with
    | false =>
      clear hR
      go_wp2_with fail
      go_ret
      exact ⟨rfl, (nz5_old' HB2.out).2⟩
    | true =>
      obtain ⟨R, h1, h2, h3, h4⟩ := hR rfl
      clear hR
      have HS := Lib.hid (fun W => specCanonical_any s0 s1 s2 s3 R W h1 h2 h3 h4)
      have HI := Lib.hid (fun W (hb : Below w.heap.size w W) => implCanonical_any s0 s1 s2 s3 R W h1 h2 (HTAB.out.on hb))
      have HP := Lib.hid (show ∀ W, Below w.heap.size w W → ∃ A B C D : ByteArray, Calls Tryz.prog 11 #[.agg #[.string ⟨#[49, 48, 46, 48, 46, 48, 46, 48, 47, 51, 48]⟩, .string ⟨#[]⟩, .string ⟨#[]⟩, .string ⟨#[]⟩]] W (BelowPost W (.tuple #[.agg #[.string A, .string B, .string C, .string D], .bool true])) from fun W hb => by
        have := implCanonical_any ⟨#[49, 48, 46, 48, 46, 48, 46, 48, 47, 51, 48]⟩ ⟨#[]⟩ ⟨#[]⟩ ⟨#[]⟩ plainR W plain_texts plain_rok (HTAB.out.on hb)
        rw [plain_ok] at this
        exact ⟨_, _, _, _, this⟩)
      unfold canV at HS HI
      generalize (⟨(canA R).toArray⟩ : ByteArray) = x0 at HS HI
      generalize (⟨(canB R).toArray⟩ : ByteArray) = x1 at HS HI
      generalize (⟨(canC R).toArray⟩ : ByteArray) = x2 at HS HI
      generalize (⟨(canD R).toArray⟩ : ByteArray) = x3 at HS HI
      generalize okR R = k at HS HI
      have heq := fun w => run_eql_rg w x0 x1 x2 x3
      have hgd := guard_rg
      clear h1 h2 h3 h4
      go_wp2_with fail
      refine (HS.out _).mono ?_
      rintro e w3 ⟨rfl, hb3⟩
      clear c0 c1 c2 c3 cz
      have HB3 := Lib.hid (below_tr HB2.out hb3)
      have hr := nz5_old' HB3.out
      obtain ⟨c0, c1, c2, c3⟩ := row4_facts hr.1
      have cz : w.heap.size < w3.heap.size := (Array.getElem?_eq_some_iff.1 hr.1).1
      have HW3 := Lib.hid hr.2
      clear hr hb3
      go_wp2_with fail
      refine (HI.out _ (HW3.out.alloc HW3.out.size _)).mono ?_
      rintro e w4 ⟨rfl, hb4⟩
      clear c0 c1 c2 c3 cz
      have hr := nz5_old' hb4
      have HR4 := Lib.hid hr.1
      have HW4 := Lib.hid (below_tr HW3.out hr.2)
      clear hr hb4
      go_wp2_with fail
      refine (lawPlain_any _).mono ?_
      rintro e w5 ⟨rfl, hb5⟩
      unfold plainV
      have HW5 := Lib.hid (below_tr (HW4.out.alloc HW4.out.size _) hb5)
      have HB5 := Lib.hid hb5
      clear hb5
      go_wp2_with fail
      obtain ⟨A, B, C, D, hcall⟩ := HP.out w5 HW5.out
      refine hcall.mono ?_
      rintro e w6 ⟨rfl, hb6⟩
      have hr := nz5_old' (below_tr HB5.out hb6)
      obtain ⟨c0, c1, c2, c3⟩ := row4_facts hr.1
      obtain ⟨d0, d1, d2, d3⟩ := row4_facts (row_on hr.2 HR4.out)
      have e4 : w4.heap.size < w6.heap.size := (Array.getElem?_eq_some_iff.1 hr.1).1
      have e3 : w3.heap.size < w6.heap.size := (Array.getElem?_eq_some_iff.1 (row_on hr.2 HR4.out)).1
      have HW6 := Lib.hid (below_tr HW5.out hb6)
      clear hr hb6 hcall HP HI HS HB5 HR4
      cases k <;>
      · go_wp2_with fail
        go_ret
        exact ⟨rfl, HW6.out.alloc HW6.out.size _⟩

end Go.Proofs.YtnehofekgnbelaaGreatDoor
