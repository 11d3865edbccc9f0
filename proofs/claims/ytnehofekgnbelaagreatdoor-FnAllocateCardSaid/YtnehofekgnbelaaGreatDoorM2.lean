/-
  Texts put together: IP, Cmp.
-/
import Derived.Test.YtnehofekgnbelaaGreatDoorM1
import Derived.Deep.QuietTactic
import Derived.BigQuiet

/-
  net.IP: how an address lies in memory; isZeros, To4, To16, normalizeIP, equal.
-/
namespace Go.Proofs.YtnehofekgnbelaaGreatDoor
open Go.RowKit
set_option linter.unusedVariables false
set_option maxRecDepth 100000
set_option maxHeartbeats 1000000

def u8v (b : UInt8) : Value := .int .u8 b.toNat
def ipv (bs : List UInt8) : List Value := bs.map u8v
theorem ipv_length (bs : List UInt8) : (ipv bs).length = bs.length := by simp [ipv]
theorem ipv_getD (bs : List UInt8) (i : Nat) (h : i < bs.length) : (ipv bs).getD i undef = .int .u8 (bs.getD i 0).toNat := by
  simp [ipv, u8v, List.getD_eq_getElem?_getD, List.getElem?_eq_getElem h]
theorem ipv_one (bs : List UInt8) : ∀ u ∈ ipv bs, u.oneCell' = true := by
  intro u hu
  simp only [ipv, List.mem_map] at hu
  obtain ⟨s, _, rfl⟩ := hu
  rfl

/-- The slice reads as these bytes (one at least). -/
def IPAt (w : World) (v : Value) (bs : List UInt8) : Prop := SlAt w v (ipv bs) ∧ 0 < bs.length

theorem IPAt.keep {w w' : World} {v : Value} {bs : List UInt8} (h : IPAt w v bs) (hb : Below w.heap.size w w') : IPAt w' v bs := ⟨h.1.keep hb, h.2⟩

theorem IPAt.out {w : World} {v : Value} {bs : List UInt8} (h : IPAt w v bs) :
    ∃ b off cap, v = .slice (some ⟨b, off, none⟩) bs.length cap ∧ b < w.heap.size ∧ bs.length ≤ cap ∧ cap ≤ 9223372036854775807 ∧
      ∀ i, i < bs.length → w.cell? ⟨b, off + i, none⟩ = some (.int .u8 (bs.getD i 0).toNat) := by
  rcases h.1.out with ⟨h0, _⟩ | ⟨b, off, cap, hv, hb, hl, hm, _, hc⟩
  · exfalso
    have := h.2
    have e : bs.length = 0 := by rw [← ipv_length, h0]; rfl
    omega
  · rw [ipv_length] at hv hl hc
    exact ⟨b, off, cap, hv, hb, hl, by unfold maxLen at hm; omega, fun i hi => by rw [hc i hi, ipv_getD bs i hi]⟩

theorem IPAt.mk {w : World} {b off cap : Nat} {bs : List UInt8} (h0 : 0 < bs.length) (hl : bs.length ≤ cap) (hm : cap ≤ 9223372036854775807)
    (hc : ∀ i, i < bs.length → w.cell? ⟨b, off + i, none⟩ = some (.int .u8 (bs.getD i 0).toNat)) : IPAt w (.slice (some ⟨b, off, none⟩) bs.length cap) bs := by
  refine ⟨?_, h0⟩
  have := SlAt.mk (w := w) (b := b) (off := off) (cap := cap) (xs := ipv bs) (by rw [ipv_length]; exact hl) (by unfold maxLen; omega) (fun i hi => by
    rw [ipv_length] at hi
    rw [hc i hi, ipv_getD bs i hi])
  rw [ipv_length] at this
  exact this

theorem IPAt.facts {w : World} {b off n cap : Nat} {bs : List UInt8} (h : IPAt w (.slice (some ⟨b, off, none⟩) n cap) bs) :
    bs.length = n ∧ b < w.heap.size ∧ n ≤ cap ∧ cap ≤ 9223372036854775807 ∧ ∀ i, i < n → w.cell? ⟨b, off + i, none⟩ = some (.int .u8 (bs.getD i 0).toNat) := by
  obtain ⟨b', off', cap', hv, hb, hl, hm, hc⟩ := h.out
  simp only [Value.slice.injEq, Option.some.injEq, Addr.mk.injEq, and_true] at hv
  obtain ⟨⟨rfl, rfl⟩, rfl, rfl⟩ := hv
  exact ⟨rfl, hb, hl, hm, hc⟩

/-- A part of an address, in the same memory. -/
theorem IPAt.part {w : World} {b off n cap : Nat} {bs : List UInt8} (h : IPAt w (.slice (some ⟨b, off, none⟩) n cap) bs) (lo hi : Nat) (hlo : lo < hi) (hhi : hi ≤ bs.length) :
    IPAt w (.slice (some ⟨b, off + lo, none⟩) (hi - lo) (cap - lo)) ((bs.drop lo).take (hi - lo)) := by
  obtain ⟨b', off', cap', hv, hb, hl, hm, hc⟩ := h.out
  simp only [Value.slice.injEq, Option.some.injEq, Addr.mk.injEq, and_true] at hv
  obtain ⟨⟨rfl, rfl⟩, rfl, rfl⟩ := hv
  have hlen : ((bs.drop lo).take (hi - lo)).length = hi - lo := by rw [List.length_take, List.length_drop]; omega
  have := IPAt.mk (w := w) (b := b) (off := off + lo) (cap := cap - lo) (bs := (bs.drop lo).take (hi - lo)) (by omega) (by omega) (by omega) (fun i hi' => by
    rw [hlen] at hi'
    have hcc := hc (lo + i) (by omega)
    rw [Nat.add_assoc, hcc]
    congr 3
    rw [List.getD_eq_getElem?_getD, List.getD_eq_getElem?_getD, List.getElem?_take, if_pos hi', List.getElem?_drop])
  rw [hlen] at this
  exact this

theorem isZeros_at (b off n cap : Nat) (bs : List UInt8) (w : World) (hn : bs.length = n) (hm : n ≤ 9223372036854775807)
    (hc : ∀ i, i < n → w.cell? ⟨b, off + i, none⟩ = some (.int .u8 (bs.getD i 0).toNat)) :
    Calls Tryz.prog 127 #[.slice (some ⟨b, off, none⟩) n cap] w fun e w' => e = .returned (.bool (bs.all (· == 0))) ∧ w = w' := by
  have HN := Lib.hid hn
  have HC := Lib.hid hc
  clear hn hc
  go_enter Tryz.func127, Tryz.ntmps127
  go_wp2
  go_loop [3] (fun i => ∃ k : Nat, k ≤ n ∧ i = .int .i64 k ∧ Hid (∀ j, j < k → bs.getD j 0 = 0)) (fun i => n - (intOf i).toNat)
  case atStart => exact ⟨0, Nat.zero_le _, rfl, fun j hj => by omega⟩
  case round =>
    obtain ⟨k, hk, rfl, hall⟩ := hrel
    by_cases hlt : k < n
    · have hcell := HC.out k hlt
      generalize hx : bs.getD k 0 = x at hcell
      have HX := Lib.hid hx
      clear hx
      by_cases hq : x = 0
      · have t1 : ((x.toNat : Int) != 0) = false := by rw [hq]; rfl
        have HQ := Lib.hid hq
        clear hq
        go_wp2
        go_round
        case rel => exact ⟨k + 1, by omega, by go_num, fun j hj => by
          by_cases hjk : j = k
          · rw [hjk, HX.out]; exact HQ.out
          · exact hall.out j (by omega)⟩
        case measure => simp [intOf]; omega
      · have t1 : ((x.toNat : Int) != 0) = true := by
          rw [bne_iff_ne]
          intro h
          exact hq (UInt8.toNat_inj.1 (by show x.toNat = 0; omega))
        have HQ := Lib.hid hq
        clear hq
        go_wp2
        go_ret
        refine ⟨ret_bool ?_, rfl⟩
        rw [eq_comm, List.all_eq_false]
        have hk' : k < bs.length := by rw [HN.out]; exact hlt
        refine ⟨bs.getD k 0, ?_, by rw [HX.out]; simpa using HQ.out⟩
        rw [List.getD_eq_getElem?_getD, List.getElem?_eq_getElem hk']
        exact List.getElem_mem hk'
    · obtain rfl : k = n := by omega
      go_wp2
      go_ret
      refine ⟨ret_bool ?_, rfl⟩
      rw [eq_comm, List.all_eq_true]
      intro x hx
      obtain ⟨j, hj, rfl⟩ := List.getElem_of_mem hx
      have := hall.out j (by rw [← HN.out]; exact hj)
      rw [List.getD_eq_getElem?_getD, List.getElem?_eq_getElem hj] at this
      simpa using this

theorem to4_four (v : Value) (a b c d : UInt8) (w : World) (h : IPAt w v [a, b, c, d]) :
    Calls Tryz.prog 86 #[v] w fun e w' => e = .returned v ∧ w = w' := by
  obtain ⟨b, off, cap, rfl, _⟩ := h.out
  clear h
  go_enter Tryz.func86, Tryz.ntmps86
  go_wp2_with fail
  go_ret
  exact ⟨rfl, rfl⟩

theorem to4_six (b off cap : Nat) (x y : UInt8) (w : World) (h : IPAt w (.slice (some ⟨b, off, none⟩) 16 cap) (pre6 ++ [x, y])) :
    Calls Tryz.prog 86 #[.slice (some ⟨b, off, none⟩) 16 cap] w fun e w' => e = .returned (.slice none 0 0) ∧ w = w' := by
  obtain ⟨_, _, hcap, hcm, hc⟩ := h.facts
  have hz := isZeros_at b off 10 cap (pre6.take 10) w rfl (by omega) (fun i hi => by
    rw [hc i (by omega)]
    congr 3
    rw [List.getD_eq_getElem?_getD, List.getD_eq_getElem?_getD, List.getElem?_take, if_pos hi, List.getElem?_append_left (by simp [pre6]; omega)])
  have hz' : Calls Tryz.prog 127 #[.slice (some ⟨b, off, none⟩) 10 cap] w fun e w' => e = .returned (.bool false) ∧ w = w' := hz
  have HZ := Lib.hid hz'
  clear hc h hz hz'
  go_enter Tryz.func86, Tryz.ntmps86
  go_wp2_with fail
  refine HZ.out.mono ?_
  rintro e w' ⟨rfl, rfl⟩
  go_wp2_with fail
  go_ret
  exact ⟨rfl, rfl⟩

theorem to4_mapped (b off cap : Nat) (b0 b1 b2 b3 : UInt8) (w : World) (h : IPAt w (.slice (some ⟨b, off, none⟩) 16 cap) (pre4 ++ [b0, b1, b2, b3])) :
    Calls Tryz.prog 86 #[.slice (some ⟨b, off, none⟩) 16 cap] w fun e w' => e = .returned (.slice (some ⟨b, off + 12, none⟩) 4 (cap - 12)) ∧ w = w' := by
  obtain ⟨_, _, hcap, hcm, hc⟩ := h.facts
  have hz := isZeros_at b off 10 cap (pre4.take 10) w rfl (by omega) (fun i hi => by
    rw [hc i (by omega)]
    congr 3
    rw [List.getD_eq_getElem?_getD, List.getD_eq_getElem?_getD, List.getElem?_take, if_pos hi, List.getElem?_append_left (by simp [pre4]; omega)])
  have hz' : Calls Tryz.prog 127 #[.slice (some ⟨b, off, none⟩) 10 cap] w fun e w' => e = .returned (.bool true) ∧ w = w' := hz
  have c10 : w.cell? ⟨b, off + 10, none⟩ = some (.int .u8 255) := hc 10 (by omega)
  have c11 : w.cell? ⟨b, off + 11, none⟩ = some (.int .u8 255) := hc 11 (by omega)
  have HZ := Lib.hid hz'
  clear hc h hz hz'
  go_enter Tryz.func86, Tryz.ntmps86
  go_wp2_with fail
  refine HZ.out.mono ?_
  rintro e w' ⟨rfl, rfl⟩
  go_wp2_with fail
  go_ret
  exact ⟨rfl, rfl⟩

end Go.Proofs.YtnehofekgnbelaaGreatDoor

/-
  cniip: normalizeIP, setBytes, cmp, Cmp.
-/
namespace Go.Proofs.YtnehofekgnbelaaGreatDoor
open Go.RowKit
set_option linter.unusedVariables false
set_option maxRecDepth 100000
set_option maxHeartbeats 1000000

/-- An address in memory: its sixteen bytes, or its standard ones. -/
def LongAt (w : World) (v : Value) (a : Ad) : Prop := IPAt w v a.long
def BriefAt (w : World) (v : Value) (a : Ad) : Prop := IPAt w v a.brief
def AdAt (w : World) (v : Value) (a : Ad) : Prop := LongAt w v a ∨ BriefAt w v a
theorem AdAt.keep {w w' : World} {v : Value} {a : Ad} (h : AdAt w v a) (hb : Below w.heap.size w w') : AdAt w' v a := h.elim (fun h => .inl (h.keep hb)) (fun h => .inr (h.keep hb))
theorem BriefAt.keep {w w' : World} {v : Value} {a : Ad} (h : BriefAt w v a) (hb : Below w.heap.size w w') : BriefAt w' v a := IPAt.keep h hb

/-- Of an address: its four bytes; of one of sixteen: nothing. -/
theorem to4_any (v : Value) (a : Ad) (w : World) (h : AdAt w v a) :
    Calls Tryz.prog 86 #[v] w fun e w' => ∃ v', e = .returned v' ∧ (if a.six then v' = .slice none 0 0 else BriefAt w v' a) ∧ w = w' := by
  obtain ⟨six, n⟩ := a
  cases six with
  | true =>
    have h6 : IPAt w v (pre6 ++ [UInt8.ofNat (n / 256), UInt8.ofNat n]) := h.elim (fun h => h) (fun h => h)
    obtain ⟨b, off, cap, hv, _⟩ := h6.out
    subst hv
    exact (to4_six b off cap _ _ w h6).mono fun e w' ⟨he, hw⟩ => ⟨_, he, rfl, hw⟩
  | false =>
    rcases h with h | h
    · have h4 : IPAt w v (pre4 ++ [UInt8.ofNat (n / 16777216), UInt8.ofNat (n / 65536), UInt8.ofNat (n / 256), UInt8.ofNat n]) := h
      obtain ⟨b, off, cap, hv, _⟩ := h4.out
      subst hv
      refine (to4_mapped b off cap _ _ _ _ w h4).mono fun e w' ⟨he, hw⟩ => ⟨_, he, ?_, hw⟩
      exact h4.part 12 16 (by omega) (by simp [pre4])
    · have h4 : IPAt w v [UInt8.ofNat (n / 16777216), UInt8.ofNat (n / 65536), UInt8.ofNat (n / 256), UInt8.ofNat n] := h
      exact (to4_four v _ _ _ _ w h4).mono fun e w' ⟨he, hw⟩ => ⟨_, he, h, hw⟩

theorem BriefAt.out {w : World} {v : Value} {a : Ad} (h : BriefAt w v a) :
    ∃ b off cap, v = .slice (some ⟨b, off, none⟩) a.width cap ∧ b < w.heap.size ∧ a.width ≤ cap ∧ cap ≤ 9223372036854775807 ∧ ∀ i, i < a.width → w.cell? ⟨b, off + i, none⟩ = some (.int .u8 (a.brief.getD i 0).toNat) := by
  have := IPAt.out h
  rw [Ad.brief_length] at this
  exact this

theorem to16_sixteen (b off cap : Nat) (w : World) :
    Calls Tryz.prog 119 #[.slice (some ⟨b, off, none⟩) 16 cap] w fun e w' => e = .returned (.slice (some ⟨b, off, none⟩) 16 cap) ∧ w = w' := by
  go_enter Tryz.func119, Tryz.ntmps119
  go_wp2_with fail
  go_ret
  exact ⟨rfl, rfl⟩

theorem normalize_any (v : Value) (a : Ad) (w : World) (h : AdAt w v a) :
    Calls Tryz.prog 121 #[v] w fun e w' => ∃ v', e = .returned v' ∧ BriefAt w v' a ∧ w = w' := by
  have hnil := fun w a n c => run_neq_slice_nil_any (P := Tryz.prog) w 67 5 a n c 0 0 Tryz.underlying67
  have ht := to4_any v a w h
  cases hs : a.six with
  | true =>
    have hb : BriefAt w v a := by
      rcases h with h | h
      · unfold LongAt Ad.long at h
        unfold BriefAt Ad.brief
        rw [hs] at h ⊢
        exact h
      · exact h
    have hb' := BriefAt.out hb
    have hw : a.width = 16 := by unfold Ad.width; rw [hs]; rfl
    rw [hw] at hb'
    obtain ⟨b, off, cap, rfl, _⟩ := hb'
    rw [hs] at ht
    have HT := Lib.hid ht
    have HB := Lib.hid hb
    clear ht hb h hs hw
    go_enter Tryz.func121, Tryz.ntmps121
    go_wp2_with fail
    refine HT.out.mono ?_
    rintro e w' ⟨v', rfl, hv, rfl⟩
    obtain rfl : v' = .slice none 0 0 := hv
    go_wp2_with fail
    refine (to16_sixteen _ _ _ _).mono ?_
    rintro e w' ⟨rfl, rfl⟩
    go_wp2_with fail
    go_ret
    exact ⟨_, rfl, HB.out, rfl⟩
  | false =>
    rw [hs] at ht
    have HT := Lib.hid ht
    clear ht h hs
    go_enter Tryz.func121, Tryz.ntmps121
    go_wp2_with fail
    refine HT.out.mono ?_
    rintro e w' ⟨v', rfl, hv, rfl⟩
    have hv2 : BriefAt w v' a := hv
    obtain ⟨b, off, cap, rfl, _⟩ := BriefAt.out hv2
    have HV := Lib.hid hv2
    clear hv hv2
    go_wp2_with fail
    go_ret
    exact ⟨_, rfl, HV.out, rfl⟩

/- setBytes -/
theorem info5 : (Tryz.prog.info? 5).map (fun i => (i.zero, i.size, i.bytes)) = some (some (.int .u8 0), 1, 1) := by kernel_rfl
def WholePost (w : World) (bs : List UInt8) (e : Ending) (w' : World) : Prop := ∃ v, e = .returned v ∧ SlAt w' v (ipv bs) ∧ Below w.heap.size w w'

theorem strip_self {x : UInt8} {r : List UInt8} (h : x ≠ 0) : strip (x :: r) = x :: r := by
  unfold strip
  rw [List.dropWhile_cons, if_neg (by simpa using h)]
theorem whole_done (w : World) (i0 : TypeInfo) (bs r : List UInt8) (n : Nat) (o : Obj) (v' : Value) (w' : World) (h : strip bs = strip r) (hr : strip r = r)
    (hown : w'.ownsRow w.heap.size 5 1 v' n ([] ++ ipv r)) (hg : (w.alloc o).grownBy w' (some w.heap.size)) : WholePost w (strip bs) (.returned v') w' := by
  refine ⟨v', rfl, ?_, ?_⟩
  · rw [h, hr]
    exact SlAt.of_owns hown
  · refine ((Below.refl _ _).alloc (Nat.le_refl _) o).grown hg (by simp) fun b hb => ?_
    cases hb
    exact Nat.le_refl _
theorem setBytes_any (v : Value) (bs : List UInt8) (w : World) (h : SlAt w v (ipv bs)) (hn : bs.length ≤ 1000000) :
    Calls Tryz.prog 155 #[v] w (WholePost w (strip bs)) := by
  obtain ⟨i0, hi, hz0, hz1, hz2⟩ := info_parts info5
  have HI := Lib.hid hi
  have hown := World.ownsRow_made (base := w.heap.size) (e := 5) (size := 1) w #[] 0 (Nat.le_refl _) (Nat.zero_le _) rfl
  have HO := Lib.hid hown
  have H := Lib.hid h
  obtain ⟨ao, cap, hv, _⟩ := h.len
  rw [ipv_length] at hv
  subst hv
  clear hi hown h
  go_enter Tryz.func155, Tryz.ntmps155
  go_wp2_with fail
  go_loop [0] (fun v => ∃ (r : List UInt8) (ao : Option Addr) (cap : Nat), v = .slice ao r.length cap ∧ r.length ≤ bs.length ∧ Hid (strip bs = strip r ∧ SlAt w v (ipv r))) (fun v => match v with | .slice _ n _ => n | _ => 0)
  case atStart => exact ⟨bs, ao, cap, rfl, Nat.le_refl _, rfl, H.out⟩
  case round =>
    obtain ⟨r, ao', cap', rfl, hle, hr⟩ := hrel
    cases r with
    | nil =>
      go_wp2_with (focus (at_builtin; go_must (refine wpList_append_slx _ rfl _ _ 207 43 rfl w.heap.size 5 5 i0 (.int .u8 0) 1 Tryz.underlying207 Tryz.underlying43 HI.out hz0 hz1 hz2 (by rfl) _ 0 [] rfl HO.out _ [] rfl (hr.out.2.keep ((Below.refl _ _).alloc (Nat.le_refl _) _)) (fun _ h => by cases h) (by unfold maxLen; omega) (by omega) (by simp) ?_)))
      intro v' w' hown' hg hb'
      go_wp2_with fail
      go_ret
      exact whole_done w i0 bs [] _ _ v' w' hr.out.1 rfl hown' hg
    | cons x r =>
      obtain ⟨b, off, cap'', hv, hbs, hlc, hcm, hc⟩ := IPAt.out (bs := x :: r) ⟨hr.out.2, by simp⟩
      obtain ⟨rfl, rfl⟩ : ao' = some ⟨b, off, none⟩ ∧ cap' = cap'' := by simpa using hv
      have c0 : w.cell? ⟨b, off, none⟩ = some (.int .u8 x.toNat) := hc 0 (by simp)
      have hle2 : r.length + 1 ≤ bs.length := hle
      have hlen : r.length + 1 ≤ cap' := hlc
      have HC := Lib.hid hc
      clear hv hc hlc
      have hw : SlAt w (.slice (some ⟨b, off, none⟩) (r.length + 1) cap') (ipv (x :: r)) := hr.out.2
      have HW := Lib.hid hw
      clear hw
      by_cases hq : x = 0
      · have t1 : ((x.toNat : Int) == 0) = true := by rw [hq]; rfl
        have HQ := Lib.hid hq
        clear hq
        by_cases he : cap' = 1
        · obtain rfl : r = [] := List.eq_nil_of_length_eq_zero (by omega)
          have t2 : (cap' - 1) = 0 := by omega
          subst he
          go_wp2_with fail
          go_round
          case rel => exact ⟨[], _, _, rfl, Nat.zero_le _, by rw [hr.out.1, HQ.out]; rfl, SlAt.mk (xs := []) (Nat.zero_le _) (Nat.zero_le _) (fun i hi => by simp at hi)⟩
          case measure => simp
        · go_wp2_with fail
          go_round
          case rel =>
            refine ⟨r, _, _, rfl, by omega, by rw [hr.out.1, HQ.out]; rfl, ?_⟩
            have := SlAt.mk (w := w) (b := b) (off := off + 1) (cap := cap' - 1) (xs := ipv r) (by rw [ipv_length]; omega) (by unfold maxLen; omega) (fun i hi => by
              rw [ipv_length] at hi
              rw [Nat.add_assoc, Nat.add_comm 1, HC.out (i + 1) (by simp; omega), ipv_getD r i hi]
              rfl)
            rw [ipv_length] at this
            exact this
          case measure => simp
      · have t1 : ((x.toNat : Int) == 0) = false := by
          rw [beq_eq_false_iff_ne]
          intro h
          exact hq (UInt8.toNat_inj.1 (by show x.toNat = 0; omega))
        have HQ := Lib.hid hq
        clear hq
        go_wp2_with (focus (at_builtin; go_must (refine wpList_append_slx _ rfl _ _ 207 43 rfl w.heap.size 5 5 i0 (.int .u8 0) 1 Tryz.underlying207 Tryz.underlying43 HI.out hz0 hz1 hz2 (by rfl) _ 0 [] rfl HO.out _ (ipv (x :: r)) rfl (HW.out.keep ((Below.refl _ _).alloc (Nat.le_refl _) _)) (ipv_one _) (by unfold maxLen; simp [ipv]; omega) (by simp [ipv]; omega) (by simp) ?_)))
        intro v' w' hown' hg hb'
        go_wp2_with fail
        go_ret
        exact whole_done w i0 bs (x :: r) _ _ v' w' hr.out.1 (strip_self HQ.out) hown' hg

theorem drop_getD (p : List UInt8) (k : Nat) (h : k < p.length) : p.drop k = p.getD k 0 :: p.drop (k + 1) := by
  rw [List.drop_eq_getElem_cons h, List.getD_eq_getElem?_getD, List.getElem?_eq_getElem h]
  rfl
theorem lex_step (p q : List UInt8) (k : Nat) (hp : k < p.length) (hq : k < q.length) :
    lexL (p.drop k) (q.drop k) = if p.getD k 0 = q.getD k 0 then lexL (p.drop (k + 1)) (q.drop (k + 1)) else if p.getD k 0 < q.getD k 0 then -1 else 1 := by
  rw [drop_getD p k hp, drop_getD q k hq]
  rfl

def CmpPost (w : World) (n : Int) (e : Ending) (w' : World) : Prop := e = .returned (.int .i64 n) ∧ Below w.heap.size w w'

theorem cmp_any (vp vq : Value) (p q : List UInt8) (w : World) (hp : SlAt w vp (ipv p)) (hq : SlAt w vq (ipv q)) (hnp : p.length ≤ 1000000) (hnq : q.length ≤ 1000000) :
    Calls Tryz.prog 157 #[vp, vq] w (CmpPost w (cmpW p q)) := by
  obtain ⟨ap, cp, rfl, _⟩ := hp.len
  obtain ⟨aq, cq, rfl, _⟩ := hq.len
  rw [ipv_length] at hp hq
  rw [ipv_length, ipv_length]
  by_cases hl : p.length = q.length
  · rw [cmpW, if_pos hl]
    generalize hn : q.length = n
    rw [hn] at hl hq
    rw [hl] at hp ⊢
    have hcells : 0 < n → ∃ bp op bq oq, ap = some ⟨bp, op, none⟩ ∧ aq = some ⟨bq, oq, none⟩ ∧ n ≤ cp ∧ n ≤ cq ∧ (∀ i, i < n → w.cell? ⟨bp, op + i, none⟩ = some (.int .u8 (p.getD i 0).toNat)) ∧ (∀ i, i < n → w.cell? ⟨bq, oq + i, none⟩ = some (.int .u8 (q.getD i 0).toNat)) ∧ bp < w.heap.size ∧ bq < w.heap.size := by
      intro h0
      obtain ⟨bp, op, cp', h1, h2, h3, h4, h5⟩ := IPAt.out ⟨hp, by omega⟩
      obtain ⟨bq, oq, cq', g1, g2, g3, g4, g5⟩ := IPAt.out ⟨hq, by omega⟩
      simp only [Value.slice.injEq] at h1 g1
      obtain ⟨rfl, _, rfl⟩ := h1
      obtain ⟨rfl, _, rfl⟩ := g1
      rw [hl] at h3 h5
      rw [hn] at g3 g5
      exact ⟨bp, op, bq, oq, rfl, rfl, h3, g3, h5, g5, h2, g2⟩
    have HL := Lib.hid hl
    have HN := Lib.hid hn
    have HC := Lib.hid hcells
    have hn6 : n ≤ 1000000 := by omega
    clear hl hn hcells hp hq hnp hnq
    go_enter Tryz.func157, Tryz.ntmps157
    go_wp2
    go_loopw [18] (fun i wr => ∃ k : Nat, k ≤ n ∧ i = .int .i64 k ∧ Hid (lexL (p.drop k) (q.drop k) = lexL p q ∧ Below w.heap.size w wr)) (fun i _ => n - (intOf i).toNat)
    case atStart => exact ⟨0, Nat.zero_le _, rfl, rfl, Below.refl _ _⟩
    case round =>
      obtain ⟨k, hk, rfl, hr⟩ := hrel
      by_cases hlt : k < n
      · obtain ⟨bp, op, bq, oq, rfl, rfl, hcp, hcq, hxp, hxq, hbp, hbq⟩ := HC.out (by omega)
        have h1 := (hr.out.2.cell hbp).trans (hxp k hlt)
        have h2 := (hr.out.2.cell hbq).trans (hxq k hlt)
        have hst := lex_step p q k (by rw [HL.out]; exact hlt) (by rw [HN.out]; exact hlt)
        generalize p.getD k 0 = x at h1 hst
        generalize q.getD k 0 = y at h2 hst
        have HS := Lib.hid hst
        clear hxp hxq hst
        by_cases hxy : x = y
        · have t1 : ((x.toNat : Int) != y.toNat) = false := by rw [hxy]; simp
          have HE := Lib.hid hxy
          clear hxy
          go_wp2
          go_quiet (fail)
          go_wp2
          go_roundw
          case rel => exact ⟨k + 1, by omega, by go_num, by rw [← hr.out.1, HS.out, if_pos HE.out], below_drewN hr.out.2 _⟩
          case measure => simp [intOf]; omega
        · have t1 : ((x.toNat : Int) != y.toNat) = true := by
            rw [bne_iff_ne]
            intro h
            exact hxy (UInt8.toNat_inj.1 (by omega))
          by_cases hlt2 : x < y
          · have t2 : decide ((x.toNat : Int) < y.toNat) = true := by
              have := UInt8.lt_iff_toNat_lt.1 hlt2
              exact decide_eq_true (by omega)
            have HE := Lib.hid hxy
            have HF := Lib.hid hlt2
            clear hxy hlt2
            go_wp2
            go_quiet (fail)
            go_wp2
            go_quiet (fail)
            go_wp2
            go_ret
            exact ⟨ret_int (by rw [← hr.out.1, HS.out, if_neg HE.out, if_pos HF.out]), below_drewN (below_drewN hr.out.2 _) _⟩
          · have t2 : decide ((x.toNat : Int) < y.toNat) = false := by
              have : ¬ x.toNat < y.toNat := fun e => hlt2 (UInt8.lt_iff_toNat_lt.2 e)
              exact decide_eq_false (by omega)
            have HE := Lib.hid hxy
            have HF := Lib.hid hlt2
            clear hxy hlt2
            go_wp2
            go_quiet (fail)
            go_wp2
            go_quiet (fail)
            go_wp2
            go_ret
            exact ⟨ret_int (by rw [← hr.out.1, HS.out, if_neg HE.out, if_neg HF.out]), below_drewN (below_drewN hr.out.2 _) _⟩
      · obtain rfl : k = n := by omega
        go_wp2
        go_ret
        refine ⟨ret_int ?_, hr.out.2⟩
        rw [← hr.out.1, List.drop_of_length_le (by rw [HL.out]; exact Nat.le_refl _)]
        rfl
  · rw [cmpW, if_neg hl]
    generalize p.length = n at hl hnp hp ⊢
    generalize q.length = m at hl hnq hq ⊢
    have t1 : ((n : Int) != m) = true := by rw [bne_iff_ne]; omega
    clear hp hq
    by_cases hlt : n < m
    · rw [if_pos hlt]
      go_enter Tryz.func157, Tryz.ntmps157
      go_wp2
      go_ret
      exact ⟨rfl, Below.refl _ _⟩
    · rw [if_neg hlt]
      go_enter Tryz.func157, Tryz.ntmps157
      go_wp2
      go_ret
      exact ⟨rfl, Below.refl _ _⟩

theorem ipToInt_any (v : Value) (a : Ad) (w : World) (h : BriefAt w v a) :
    Calls Tryz.prog 122 #[v] w (WholePost w (strip a.brief)) := by
  have hs := setBytes_any v a.brief w h.1 (by rw [Ad.brief_length]; unfold Ad.width; split <;> omega)
  have H := Lib.hid hs
  clear hs h
  go_enter Tryz.func122, Tryz.ntmps122
  go_wp2_with fail
  refine H.out.mono ?_
  rintro e w' ⟨v', rfl, h1, h2⟩
  go_wp2_with fail
  go_ret
  exact ⟨v', rfl, h1, h2⟩

theorem width_eq {a b : Ad} (h : a.six = b.six) : a.width = b.width := by unfold Ad.width; rw [h]
theorem width_ne {a b : Ad} (h : a.six ≠ b.six) : a.width ≠ b.width := by
  unfold Ad.width
  cases ha : a.six <;> cases hb : b.six <;> simp_all
theorem width_cases (a : Ad) : 0 < a.width ∧ a.width ≤ 16 := by unfold Ad.width; split <;> omega

theorem strip_brief_le (a : Ad) : (strip a.brief).length ≤ 1000000 := by
  have h1 := strip_length a.brief
  have h2 := a.brief_length
  have := (width_cases a).2
  omega

theorem Cmp_any (u v : Value) (a b : Ad) (w : World) (ha : AdAt w u a) (hb : AdAt w v b) (oa : a.ok) (ob : b.ok) :
    Calls Tryz.prog 126 #[u, v] w (CmpPost w (a.cmp b)) := by
  have h1 := normalize_any u a w ha
  have h2 := normalize_any v b w hb
  have H1 := Lib.hid h1
  have H2 := Lib.hid h2
  have hc := cmp_brief a b oa ob
  have HC := Lib.hid hc
  clear h1 h2 ha hb oa ob hc
  have hwa := width_cases a
  have hwb := width_cases b
  by_cases hs : a.six = b.six
  · have hw := width_eq hs
    generalize hn : a.width = n at hwa hw
    have HS := Lib.hid hs
    have HN := Lib.hid hn
    have HM := Lib.hid hw.symm
    clear hs hn hw hwb
    go_enter Tryz.func126, Tryz.ntmps126
    go_wp2_with fail
    refine H1.out.mono ?_
    rintro e w' ⟨u', rfl, hu, rfl⟩
    go_wp2_with fail
    refine H2.out.mono ?_
    rintro e w' ⟨v', rfl, hv, rfl⟩
    obtain ⟨b1, o1, c1, e1, _⟩ := BriefAt.out hu
    obtain ⟨b2, o2, c2, e2, _⟩ := BriefAt.out hv
    rw [HN.out] at e1
    rw [HM.out] at e2
    subst e1 e2
    have HU := Lib.hid hu
    have HV := Lib.hid hv
    clear hu hv
    go_wp2_with fail
    refine (ipToInt_any _ a _ HU.out).mono ?_
    rintro e w1 ⟨x1, rfl, hx1, hb1⟩
    have HX1 := Lib.hid hx1
    have HB1 := Lib.hid hb1
    clear hx1 hb1
    go_wp2_with fail
    refine (ipToInt_any _ b _ (HV.out.keep HB1.out)).mono ?_
    rintro e w2 ⟨x2, rfl, hx2, hb2⟩
    have HX2 := Lib.hid hx2
    have HB2 := Lib.hid hb2
    clear hx2 hb2
    go_wp2_with fail
    refine (cmp_any x1 x2 _ _ _ (HX1.out.keep HB2.out) HX2.out (strip_brief_le a) (strip_brief_le b)).mono ?_
    rintro e w3 ⟨rfl, hb3⟩
    have HB3 := Lib.hid hb3
    clear hb3
    go_wp2_with fail
    go_ret
    refine ⟨ret_int ?_, below_tr (below_tr HB1.out HB2.out) HB3.out⟩
    rw [HC.out HS.out]
    unfold Ad.cmp
    rw [if_pos HS.out]
  · have hw := width_ne hs
    generalize hn : a.width = n at hwa hw
    generalize hm : b.width = m at hwb hw
    have t1 : ((n : Int) == m) = false := by rw [beq_eq_false_iff_ne]; omega
    have HS := Lib.hid hs
    have HN := Lib.hid hn
    have HM := Lib.hid hm
    clear hs hn hm hw
    go_enter Tryz.func126, Tryz.ntmps126
    go_wp2_with fail
    refine H1.out.mono ?_
    rintro e w' ⟨u', rfl, hu, rfl⟩
    go_wp2_with fail
    refine H2.out.mono ?_
    rintro e w' ⟨v', rfl, hv, rfl⟩
    obtain ⟨b1, o1, c1, e1, _⟩ := BriefAt.out hu
    obtain ⟨b2, o2, c2, e2, _⟩ := BriefAt.out hv
    rw [HN.out] at e1
    rw [HM.out] at e2
    subst e1 e2
    clear hu hv
    go_wp2_with fail
    go_ret
    refine ⟨ret_int ?_, Below.refl _ _⟩
    unfold Ad.cmp
    rw [if_neg HS.out]

end Go.Proofs.YtnehofekgnbelaaGreatDoor
