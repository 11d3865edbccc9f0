/-
  ParseAddr, ParseIP, plain and addressOf of any address.
-/
import Derived.Test.YtnehofekgnbelaaP6
import Derived.Test.YtnehofekgnbelaaPlain
import Derived.Laws.Bits64b
namespace Go.Proofs.Ytnehofekgnbelaa
open Go.RowKit
set_option linter.unusedVariables false
set_option maxRecDepth 100000
set_option maxHeartbeats 1000000

theorem parseAddr_six (s : ByteArray) (n : Nat) (w : World) (hs : bl s = preL ++ hexL n) (hl : (hexL n).length ≤ 4) :
    Calls Try.prog 83 #[.string s] w (ParsedPost w (naddr 2306139568115548160 n true)) := by
  have HP := Lib.hid (fun w => parseIPv6_any s n w hs hl)
  have hsz2 : 10 ≤ s.size := by
    rw [← bl_length, hs, List.length_append, show preL.length = 10 from rfl]
    omega
  have hsz : s.size ≤ 14 := by
    rw [← bl_length, hs, List.length_append, show preL.length = 10 from rfl]
    omega
  have hg : ∀ k, (h : k < s.size) → s[k] = (preL ++ hexL n).getD k 0 := fun k h => by rw [← bl_getD s k h, hs]
  have v0 : (s[0].toNat : Int) = 50 := by rw [hg 0 (by omega)]; rfl
  have v1 : (s[1].toNat : Int) = 48 := by rw [hg 1 (by omega)]; rfl
  have v2 : (s[2].toNat : Int) = 48 := by rw [hg 2 (by omega)]; rfl
  have v3 : (s[3].toNat : Int) = 49 := by rw [hg 3 (by omega)]; rfl
  have v4 : (s[4].toNat : Int) = 58 := by rw [hg 4 (by omega)]; rfl
  clear hg hs hl
  go_enter Try.func83, Try.ntmps83
  go_wp2_with fail
  refine wp_loop_rounds 5 ?_
  rw [rounds_succ]
  go_wp2_with fail
  rw [rounds_succ]
  go_wp2_with fail
  rw [rounds_succ]
  go_wp2_with fail
  rw [rounds_succ]
  go_wp2_with fail
  rw [rounds_succ]
  go_wp2_with fail
  refine (HP.out _).mono ?_
  rintro e w2 ⟨rfl, hb⟩
  obtain ⟨hres, hbw⟩ := nz5_old hb
  obtain ⟨q0, q1, q2, q3, q4, f0, f1, f2, f3, f4⟩ := nz5_facts hres
  have HB := Lib.hid hbw
  clear hb hres hbw
  unfold naddr
  go_wp2_with fail
  exact bodyPost_ret (v := .tuple #[naddr 2306139568115548160 n true, .nilIface]) (by simp [results, Try.results83, go_sem, naddr, q0, q1, q2, q3, q4]) rfl ⟨rfl, below_set5 HB.out (Nat.le_refl _) _ _ _ _ _⟩

/-- The two halves of an address, as netip has them. -/
def Ad.hi (a : Ad) : Nat := if a.six then 2306139568115548160 else 0
def Ad.lo (a : Ad) : Nat := if a.six then a.n else 281470681743360 + a.n
theorem parseAddr_any (s : ByteArray) (a : Ad) (w : World) (h : readL (bl s) = some a) (hs : s.size ≤ 1000) :
    Calls Try.prog 83 #[.string s] w (ParsedPost w (naddr a.hi a.lo a.six)) := by
  obtain ⟨six, n⟩ := a
  cases six with
  | true =>
    have h1 := readL_true h rfl
    exact parseAddr_six s n w h1.1 h1.2
  | false => exact parseAddr_four s n w (readL_false h rfl) hs
theorem lo_lt (a : Ad) (h : a.ok) : a.hi < 18446744073709551616 ∧ a.lo < 18446744073709551616 := by
  unfold Ad.ok at h
  unfold Ad.hi Ad.lo
  cases hs : a.six <;> rw [hs] at h <;> simp at h ⊢ <;> omega
theorem as16_long (a : Ad) (h : a.ok) : as16L a.hi a.lo = (a.long.map u8v).toArray := by
  obtain ⟨six, n⟩ := a
  cases six with
  | true => exact long_six n (by simpa [Ad.ok] using h)
  | false => exact long_four n (by simpa [Ad.ok] using h)

theorem ParseIP_ad (s : ByteArray) (a : Ad) (w : World) (h : readL (bl s) = some a) (hs : s.size ≤ 1000) :
    Calls Try.prog 47 #[.string s] w (IPPost w a.long) :=
  have ok := readL_ok h
  ParseIP_any s a.hi a.lo a.six a.long w (lo_lt a ok).1 (lo_lt a ok).2 a.long_length (as16_long a ok) (fun w => parseAddr_any s a w h hs)

theorem plain1_any (x : UInt8) (w : World) (b : Bool) (hb : ((x.toNat : Int) != 0) = b) :
    Calls Try.prog 70 #[.int .u8 x.toNat] w (fun e w' => e = .returned (.bool b) ∧ w = w') := by
  go_enter Try.func70, Try.ntmps70
  go_wp2
  go_ret
  exact ⟨rfl, rfl⟩

/-- The first byte is not nought: the search ends at once. -/
theorem index1_any (b off n cap : Nat) (x : UInt8) (w : World) (hn : 0 < n) (hm : n ≤ 1000) (hx : ((x.toNat : Int) != 0) = true) (hc : w.cell? ⟨b, off, none⟩ = some (.int .u8 x.toNat)) :
    Calls Try.prog 87 #[.slice (some ⟨b, off, none⟩) n cap, .func (.func 70) #[] #[]] w (fun e w' => e = .returned (.int .i64 0) ∧ w = w') := by
  go_enter Try.func87, Try.ntmps87
  go_wp2_with fail
  refine wp_loop_rounds 1 ?_
  rw [rounds_succ]
  go_wp2_with fail
  refine (plain1_any x _ true hx).mono ?_
  rintro e w' ⟨rfl, rfl⟩
  go_wp2_with fail
  go_ret
  exact ⟨rfl, rfl⟩
theorem contains1_any (b off n cap : Nat) (x : UInt8) (w : World) (hn : 0 < n) (hm : n ≤ 1000) (hx : ((x.toNat : Int) != 0) = true) (hc : w.cell? ⟨b, off, none⟩ = some (.int .u8 x.toNat)) :
    Calls Try.prog 69 #[.slice (some ⟨b, off, none⟩) n cap, .func (.func 70) #[] #[]] w (fun e w' => e = .returned (.bool true) ∧ w = w') := by
  have H := Lib.hid (index1_any b off n cap x w hn hm hx hc)
  clear hx hc hn hm
  go_enter Try.func69, Try.ntmps69
  go_wp2_with fail
  refine H.out.mono ?_
  rintro e w' ⟨rfl, rfl⟩
  go_wp2_with fail
  go_ret
  exact ⟨rfl, rfl⟩

theorem plain_six (v : Value) (n : Nat) (w : World) (h : LongAt w v ⟨true, n⟩) :
    Calls Try.prog 48 #[v] w (fun e w' => e = .returned (.bool true) ∧ w = w') := by
  have hnil := fun w a n c => run_neq_slice_nil_any (P := Try.prog) w 46 5 a n c 0 0 Try.underlying46
  have HT := Lib.hid (to4_any v ⟨true, n⟩ w (.inl h))
  obtain ⟨b, off, cap, rfl, hb, hl, hm, hc⟩ := IPAt.out h
  rw [Ad.long_length] at hl hc HT ⊢
  have c0 := hc 0 (by omega)
  have HC := Lib.hid (contains1_any b off 10 cap 32 w (by omega) (by omega) rfl c0)
  clear h hc c0
  go_enter Try.func48, Try.ntmps48
  go_wp2_with fail
  refine HT.out.mono ?_
  rintro e w' ⟨v', rfl, hv, rfl⟩
  obtain rfl : v' = .slice none 0 0 := hv
  go_wp2_with fail
  refine HC.out.mono ?_
  rintro e w' ⟨rfl, rfl⟩
  go_wp2_with fail
  go_ret
  exact ⟨rfl, rfl⟩
theorem plain_any (v : Value) (a : Ad) (w : World) (h : LongAt w v a) :
    Calls Try.prog 48 #[v] w (fun e w' => e = .returned (.bool true) ∧ w = w') := by
  obtain ⟨six, n⟩ := a
  cases six with
  | true => exact plain_six v n w h
  | false => exact plain_four v n w h

theorem addressOf_any (s : ByteArray) (a : Ad) (w : World) (h : readL (bl s) = some a) (hs : s.size ≤ 1000) :
    Calls Try.prog 26 #[.string s] w (IPPost w a.long) := by
  have hnil := fun w a n c => Lib.run_eql_slice_nil (P := Try.prog) w 46 5 a n c 0 0 Try.underlying46
  have HP := Lib.hid (ParseIP_ad s a w h hs)
  clear h
  go_enter Try.func26, Try.ntmps26
  go_wp2_with fail
  refine HP.out.mono ?_
  rintro e w' ⟨v, rfl, hv, hb⟩
  have HV := Lib.hid hv
  have HB := Lib.hid hb
  have ho := IPAt.out hv
  rw [Ad.long_length] at ho
  obtain ⟨b, off, cap, rfl, _⟩ := ho
  clear hv hb
  go_wp2_with fail
  refine (plain_any _ a _ HV.out).mono ?_
  rintro e w2 ⟨rfl, rfl⟩
  go_wp2_with fail
  go_ret
  exact ⟨_, rfl, HV.out, HB.out⟩

end Go.Proofs.Ytnehofekgnbelaa
