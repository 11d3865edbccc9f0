/-
  Texts put together: FromSl.
-/
import Derived.Test.YtnehofekgnbelaaGreatDoorM16
import Derived.Laws.Cover3

/-
  netip.AddrFromSlice.
-/
namespace Go.Proofs.YtnehofekgnbelaaGreatDoor
open Go.RowKit
set_option linter.unusedVariables false
set_option maxRecDepth 100000
set_option maxHeartbeats 1000000

theorem foldF_four (n : Nat) (h : n < 4294967296) : foldF [n / 16777216 % 256, n / 65536 % 256, n / 256 % 256, n % 256] = n := by
  simp only [foldF, List.foldl]
  omega

theorem addrFromSlice_any (v : Value) (a : Ad) (w : World) (h : BriefAt w v a) (ok : a.ok) :
    Calls Tryz.prog 88 #[v] w (BelowPost w (.tuple #[naddr a.hi a.lo a.six, .bool true])) := by
  obtain ⟨six, n⟩ := a
  obtain ⟨b, off, cap, rfl, hb, hl, hm, hc⟩ := BriefAt.out h
  cases six with
  | false =>
    have ok' : n < 4294967296 := by simpa [Ad.ok] using ok
    have c0 : w.cell? ⟨b, off, none⟩ = some (.int .u8 ((n / 16777216 % 256 : Nat) : Int)) := by have := hc 0 (show 0 < 4 by omega); rw [Nat.add_zero] at this; rw [this]; show some (Value.int .u8 ((UInt8.ofNat _).toNat : Int)) = _; rw [toNat_ofNat]
    have c1 : w.cell? ⟨b, off + 1, none⟩ = some (.int .u8 ((n / 65536 % 256 : Nat) : Int)) := by rw [hc 1 (show 1 < 4 by omega)]; show some (Value.int .u8 ((UInt8.ofNat _).toNat : Int)) = _; rw [toNat_ofNat]
    have c2 : w.cell? ⟨b, off + 2, none⟩ = some (.int .u8 ((n / 256 % 256 : Nat) : Int)) := by rw [hc 2 (show 2 < 4 by omega)]; show some (Value.int .u8 ((UInt8.ofNat _).toNat : Int)) = _; rw [toNat_ofNat]
    have c3 : w.cell? ⟨b, off + 3, none⟩ = some (.int .u8 ((n % 256 : Nat) : Int)) := by rw [hc 3 (show 3 < 4 by omega)]; show some (Value.int .u8 ((UInt8.ofNat _).toNat : Int)) = _; rw [toNat_ofNat]
    have HA := Lib.hid (fun w => addrFrom4_any (n / 16777216 % 256) (n / 65536 % 256) (n / 256 % 256) (n % 256) w (by omega) (by omega) (by omega) (by omega))
    rw [foldF_four n ok'] at HA
    generalize n / 16777216 % 256 = x0 at c0 HA
    generalize n / 65536 % 256 = x1 at c1 HA
    generalize n / 256 % 256 = x2 at c2 HA
    generalize n % 256 = x3 at c3 HA
    have hw : (⟨false, n⟩ : Ad).width = 4 := rfl
    rw [hw] at hl ⊢
    show Calls _ _ _ _ (BelowPost w (.tuple #[naddr 0 (281470681743360 + n) false, .bool true]))
    generalize 281470681743360 + n = lo at HA ⊢
    have ha := fun w => run_arrayAt (P := Tryz.prog) (w := w) 214 5 4 (some ⟨b, off, none⟩) 4 cap Tryz.underlying214 (Nat.le_refl _)
    clear hc h ok ok' hw
    go_enter Tryz.func88, Tryz.ntmps88
    go_wp2_with fail
    refine (HA.out _).mono ?_
    rintro e w2 ⟨rfl, hb2⟩
    obtain ⟨hres, hbw⟩ := nz5_old hb2
    obtain ⟨q0, q1, q2, q3, q4, f0, f1, f2, f3, f4⟩ := nz5_facts hres
    have HB := Lib.hid hbw
    clear hb2 hres hbw
    unfold naddr
    go_wp2_with fail
    exact bodyPost_ret (v := .tuple #[naddr 0 lo false, .bool true]) (by simp [results, Tryz.results88, go_sem, naddr, q0, q1, q2, q3, q4]) rfl ⟨rfl, below_set5 HB.out (Nat.le_refl _) _ _ _ _ _⟩
  | true =>
    have ok' : n < 65536 := by simpa [Ad.ok] using ok
    have hw : (⟨true, n⟩ : Ad).width = 16 := rfl
    rw [hw] at hl hc ⊢
    have c0 : w.cell? ⟨b, off, none⟩ = some (.int .u8 32) := hc 0 (by decide)
    have c1 : w.cell? ⟨b, off + 1, none⟩ = some (.int .u8 1) := hc 1 (by decide)
    have c2 : w.cell? ⟨b, off + 2, none⟩ = some (.int .u8 13) := hc 2 (by decide)
    have c3 : w.cell? ⟨b, off + 3, none⟩ = some (.int .u8 184) := hc 3 (by decide)
    have c4 : w.cell? ⟨b, off + 4, none⟩ = some (.int .u8 0) := hc 4 (by decide)
    have c5 : w.cell? ⟨b, off + 5, none⟩ = some (.int .u8 0) := hc 5 (by decide)
    have c6 : w.cell? ⟨b, off + 6, none⟩ = some (.int .u8 0) := hc 6 (by decide)
    have c7 : w.cell? ⟨b, off + 7, none⟩ = some (.int .u8 0) := hc 7 (by decide)
    have c8 : w.cell? ⟨b, off + 8, none⟩ = some (.int .u8 0) := hc 8 (by decide)
    have c9 : w.cell? ⟨b, off + 9, none⟩ = some (.int .u8 0) := hc 9 (by decide)
    have c10 : w.cell? ⟨b, off + 10, none⟩ = some (.int .u8 0) := hc 10 (by decide)
    have c11 : w.cell? ⟨b, off + 11, none⟩ = some (.int .u8 0) := hc 11 (by decide)
    have c12 : w.cell? ⟨b, off + 12, none⟩ = some (.int .u8 0) := hc 12 (by decide)
    have c13 : w.cell? ⟨b, off + 13, none⟩ = some (.int .u8 0) := hc 13 (by decide)
    have c14 : w.cell? ⟨b, off + 14, none⟩ = some (.int .u8 ((n / 256 % 256 : Nat) : Int)) := by rw [hc 14 (by decide)]; show some (Value.int .u8 ((UInt8.ofNat _).toNat : Int)) = _; rw [toNat_ofNat]
    have c15 : w.cell? ⟨b, off + 15, none⟩ = some (.int .u8 ((n % 256 : Nat) : Int)) := by rw [hc 15 (by decide)]; show some (Value.int .u8 ((UInt8.ofNat _).toNat : Int)) = _; rw [toNat_ofNat]
    have HA := Lib.hid (fun w => addrFrom16_any (n / 256 % 256) (n % 256) w (by omega) (by omega))
    rw [show n / 256 % 256 * 256 + n % 256 = n by omega] at HA
    generalize n / 256 % 256 = x0 at c14 HA
    generalize n % 256 = x1 at c15 HA
    show Calls _ _ _ _ (BelowPost w (.tuple #[naddr 2306139568115548160 n true, .bool true]))
    have ha := fun w => run_arrayAt (P := Tryz.prog) (w := w) 171 5 16 (some ⟨b, off, none⟩) 16 cap Tryz.underlying171 (Nat.le_refl _)
    clear hc h ok ok' hw
    unfold c16 at HA
    go_enter Tryz.func88, Tryz.ntmps88
    go_wp2_with fail
    refine (HA.out _).mono ?_
    rintro e w2 ⟨rfl, hb2⟩
    obtain ⟨hres, hbw⟩ := nz5_old hb2
    obtain ⟨q0, q1, q2, q3, q4, f0, f1, f2, f3, f4⟩ := nz5_facts hres
    have HB := Lib.hid hbw
    clear hb2 hres hbw
    unfold naddr
    go_wp2_with fail
    exact bodyPost_ret (v := .tuple #[naddr 2306139568115548160 n true, .bool true]) (by simp [results, Tryz.results88, go_sem, naddr, q0, q1, q2, q3, q4]) rfl ⟨rfl, below_set5 HB.out (Nat.le_refl _) _ _ _ _ _⟩

end Go.Proofs.YtnehofekgnbelaaGreatDoor
