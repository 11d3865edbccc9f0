/-
  Texts put together: Canz, Ov.
-/
import Derived.Test.YtnehofekgnbelaaGreatDoorM21
import Derived.Deep.RegionHeld3

/-
  allocator's (*Range).Canonicalize.
-/
namespace Go.Proofs.YtnehofekgnbelaaGreatDoor
open Go.RowKit
set_option linter.unusedVariables false
set_option maxRecDepth 100000
set_option maxHeartbeats 4000000

/-- Five slices. -/
def Five (v0 v1 vi vm v4 : Value) : Prop := (∃ b n c, v0 = .slice b n c) ∧ (∃ b n c, v1 = .slice b n c) ∧ (∃ b n c, vi = .slice b n c) ∧ (∃ b n c, vm = .slice b n c) ∧ ∃ b n c, v4 = .slice b n c

def CanonPost (w0 : World) (B o : Nat) (a : Ad) (free : Nat) (o1 o2 o3 : Option Ad) (e : Ending) (w' : World) : Prop :=
  (canonP a free o1 o2 = true ∧ e = .returned .nilIface ∧ ∃ v0 v1 vi vm v4, Canon w0 B o v0 v1 vi vm v4 a free true true true (some (o1.getD a.up)) (some (o2.getD (a.endOf free))) (some (o3.getD a.up)) w') ∨
  (canonP a free o1 o2 = false ∧ (∃ b, e = .returned (.iface 203 (.pointer (some ⟨b, 0, none⟩)))) ∧ ∃ v0 v1 vi vm v4, RgW w0 B o v0 v1 vi vm v4 w' ∧ Five v0 v1 vi vm v4)

theorem canonicalize_any (B o : Nat) (v0 v1 vi vm v4 : Value) (a : Ad) (free : Nat) (o1 o2 o3 : Option Ad) (w : World) (h : RgW w B o v0 v1 vi vm v4 w) (hs : OptAt w v0 o1) (he : OptAt w v1 o2) (hg : OptAt w v4 o3) (hi : LongAt w vi a) (hm : IPAt w vm (a.mask free))
    (oa : a.ok) (hf : free ≤ a.room) (k1 : ∀ s, o1 = some s → s.ok) (k2 : ∀ s, o2 = some s → s.ok) (k3 : ∀ s, o3 = some s → s.ok) :
    Calls Tryz.prog 52 #[.pointer (some ⟨B, o, none⟩)] w (CanonPost w B o a free o1 o2 o3) := by
  have hnil := fun w a n c => run_neq_slice_nil_any (P := Tryz.prog) w 67 5 a n c 0 0 Tryz.underlying67
  have hnil2 := fun w a n c => Lib.run_eql_slice_nil (P := Tryz.prog) w 67 5 a n c 0 0 Tryz.underlying67
  have HOA := Lib.hid oa
  have HF := Lib.hid hf
  have HK := Lib.hid (And.intro k1 (And.intro k2 k3))
  have hroom := (room_le a).1
  have HR := Lib.hid hroom
  have HBEG := Lib.hid (fun v hv => Canon.begin (b0 := false) (b1 := false) (b4 := false) h (show OptIn false w v0 o1 by cases o1 <;> exact hs) (show OptIn false w v1 o2 by cases o2 <;> exact he) (show OptIn false w v4 o3 by cases o3 <;> exact hg) (.inl hi) hm (v := v) hv)
  obtain ⟨bs, ns, ks, rfl⟩ := hs.slice
  obtain ⟨be, ne, ke, rfl⟩ := he.slice
  obtain ⟨bg, ng, kg, rfl⟩ := hg.slice
  have HCI := Lib.hid (canonIP_any B (o + 2) vi a w h.at_.c2 h.f2 (.inl hi))
  obtain ⟨bm, om, km, rfl, _⟩ := IPAt.out hm
  rw [Ad.mask_length] at HBEG
  have k8 : 8 * a.width ≤ 128 := (room_le a).2
  clear h hs he hg hi hm oa hf k1 k2 k3 hroom
  go_enter Tryz.func52, Tryz.ntmps52
  go_wp2_with fail
  refine HCI.out.mono ?_
  rintro e w1 ⟨vi', rfl, hvi, rfl⟩
  have HC1 := Lib.hid (HBEG.out vi' hvi)
  obtain ⟨bi, oi, ki, rfl, _⟩ := BriefAt.out hvi
  generalize w.setCell _ _ = w1 at HC1 ⊢
  clear HBEG HCI hvi
  obtain ⟨c0, c1, c2, c3, c4⟩ := HC1.out.rg.at_
  have f0 := HC1.out.rg.f0
  have f1 := HC1.out.rg.f1
  have f2 := HC1.out.rg.f2
  have f4 := HC1.out.rg.f4
  go_wp2_with fail
  refine (size_any _ a free _ HC1.out.mask (by have := HF.out; have := HR.out; omega)).mono ?_
  rintro e w2 ⟨rfl, rfl⟩
  obtain ⟨M, hM⟩ : ∃ M : Nat, M = 8 * a.width := ⟨_, rfl⟩
  obtain ⟨k, hk⟩ : ∃ k : Nat, k = 8 * a.width - free := ⟨_, rfl⟩
  rw [← hk, ← hM]
  have HMK := Lib.hid (And.intro hM hk)
  have hk128 : k ≤ 128 := by omega
  have hM128 : M ≤ 128 := by omega
  by_cases h2 : 2 ≤ free
  rotate_left
  · have t1 : decide ((M : Int) - 2 < (k : Int)) = true := decide_eq_true (by have := HF.out; have := HR.out; have := HMK.out.1; have := HMK.out.2; omega)
    have HP := Lib.hid (show canonP a free o1 o2 = false by unfold canonP; rw [decide_eq_false h2]; rfl)
    clear h2 hM hk
    go_wp2_with fail
    refine (newError_any _ _).mono ?_
    rintro e wz ⟨rfl, hbz⟩
    have HZ := Lib.hid (HC1.out.rg.on hbz)
    clear hbz
    go_wp2_with fail
    go_ret
    exact .inr ⟨HP.out, ⟨_, rfl⟩, _, _, _, _, _, HZ.out, ⟨_, _, _, rfl⟩, ⟨_, _, _, rfl⟩, ⟨_, _, _, rfl⟩, ⟨_, _, _, rfl⟩, ⟨_, _, _, rfl⟩⟩
  have t1 : decide ((M : Int) - 2 < (k : Int)) = false := decide_eq_false (by have := HF.out; have := HR.out; have := HMK.out.1; have := HMK.out.2; omega)
  have H2 := Lib.hid h2
  clear h2 hM hk
  go_wp2_with fail
  go_quiet (fail)
  have HC2 := Lib.hid (HC1.out.on (below_drewN (Below.refl _ _) nq))
  go_wp2_with fail
  go_region_held3 (fun w' => w'.cell? ⟨B, o + 2, none⟩ = some (.slice (some ⟨bi, oi, none⟩) a.width ki) ∧ w'.cell? ⟨B, o + 2 + 1, none⟩ = some (.slice (some ⟨bm, om, none⟩) a.width km)) (go_keep) (first | (go_at_call 82; refine (mask_brief_any _ _ a free _ HOA.out HF.out (HC2.out.on (below_drewN (Below.refl _ _) 1)).net (HC2.out.on (below_drewN (Below.refl _ _) 1)).mask).mono ?_; rintro e w3 ⟨v6, rfl, hv6, hb⟩; obtain ⟨b6, o6, k6, rfl, _⟩ := IPAt.out hv6; have HC3 := Lib.hid (HC2.out.on (below_tr (below_drewN (Below.refl _ _) 1) hb)); have HV6 := Lib.hid hv6; clear c0 c1 c2 c3 c4 f0 f1 f2 f4 hb hv6; obtain ⟨c0, c1, c2, c3, c4⟩ := HC3.out.rg.at_; have f0 := HC3.out.rg.f0; have f1 := HC3.out.rg.f1; have f2 := HC3.out.rg.f2; have f4 := HC3.out.rg.f4))
  go_wp2_with fail
  refine (Equal_same _ _ _ _ _ HC3.out.net HV6.out (by rw [Ad.brief_length, Ad.brief_length]; rfl) (by rw [Ad.brief_length]; exact (width_cases a).2)).mono ?_
  rintro e w4 ⟨rfl, hb4⟩
  have HC4 := Lib.hid (HC3.out.on hb4)
  clear c0 c1 c2 c3 c4 f0 f1 f2 f4
  clear hb4
  obtain ⟨c0, c1, c2, c3, c4⟩ := HC4.out.rg.at_
  have f0 := HC4.out.rg.f0
  have f1 := HC4.out.rg.f1
  have f2 := HC4.out.rg.f2
  have f4 := HC4.out.rg.f4
  by_cases hn : a.net free = a
  rotate_left
  · rw [decide_eq_false (fun h => hn (brief_inj HOA.out (net_ok free HOA.out) rfl h).symm)]
    have HP := Lib.hid (show canonP a free o1 o2 = false by unfold canonP; rw [decide_eq_true H2.out, decide_eq_false hn]; rfl)
    clear hn
    go_wp2_with fail
    refine (newError_any _ _).mono ?_
    rintro e wz ⟨rfl, hbz⟩
    have HZ := Lib.hid (HC4.out.rg.on hbz)
    clear hbz
    go_wp2_with fail
    go_ret
    exact .inr ⟨HP.out, ⟨_, rfl⟩, _, _, _, _, _, HZ.out, ⟨_, _, _, rfl⟩, ⟨_, _, _, rfl⟩, ⟨_, _, _, rfl⟩, ⟨_, _, _, rfl⟩, ⟨_, _, _, rfl⟩⟩
  rw [decide_eq_true (show a.brief = (a.net free).brief by rw [hn])]
  have HN := Lib.hid hn
  have HUP := Lib.hid (up_ok HOA.out HF.out H2.out hn)
  clear hn
  cases o3 with
  | none =>
    have hnil5 := HC4.out.g
    obtain ⟨rfl, rfl, rfl⟩ : bg = none ∧ ng = 0 ∧ kg = 0 := by simpa [OptIn] using hnil5
    clear hnil5
    go_wp2_with fail
    refine (NextIP_any _ a _ (.inr HC4.out.net) HOA.out HUP.out).mono ?_
    rintro e w5 ⟨v5, rfl, hv5, hb5⟩
    obtain ⟨b5, o5, k5, rfl, _⟩ := IPAt.out hv5
    have HC4b := Lib.hid (HC4.out.on hb5)
    have HC5 := Lib.hid (HC4b.out.set4 (b := true) (x := some a.up) (show OptIn true _ _ _ from hv5))
    clear hb5 hv5
    clear c0 c1 c2 c3 c4 f0 f1 f2 f4
    obtain ⟨c0, c1, c2, c3, c4⟩ := HC4b.out.rg.at_
    have f0 := HC4b.out.rg.f0
    have f1 := HC4b.out.rg.f1
    have f2 := HC4b.out.rg.f2
    have f4 := HC4b.out.rg.f4
    cases o1 with
    | none =>
      have hnil4 := HC5.out.s
      obtain ⟨rfl, rfl, rfl⟩ : bs = none ∧ ns = 0 ∧ ks = 0 := by simpa [OptIn] using hnil4
      clear hnil4
      go_wp2_with fail
      generalize World.setCell _ _ _ = w5s at HC5 ⊢
      refine (NextIP_any _ a _ (.inr HC5.out.net) HOA.out HUP.out).mono ?_
      rintro e w6 ⟨v6, rfl, hv6, hb6⟩
      obtain ⟨b7, o7, k7, rfl, _⟩ := IPAt.out hv6
      have HC5b := Lib.hid (HC5.out.on hb6)
      have HC6 := Lib.hid (HC5b.out.set0 (b := true) (x := some a.up) (show OptIn true _ _ _ from hv6))
      clear hb6 hv6
      clear c0 c1 c2 c3 c4 f0 f1 f2 f4
      obtain ⟨c0, c1, c2, c3, c4⟩ := HC5b.out.rg.at_
      have f0 := HC5b.out.rg.f0
      have f1 := HC5b.out.rg.f1
      have f2 := HC5b.out.rg.f2
      have f4 := HC5b.out.rg.f4
      cases o2 with
      | none =>
        have hnil3 := HC6.out.e
        obtain ⟨rfl, rfl, rfl⟩ : be = none ∧ ne = 0 ∧ ke = 0 := by simpa [OptIn] using hnil3
        clear hnil3
        go_wp2_with fail
        generalize World.setCell _ _ _ = w6s at HC6 ⊢
        refine (lastIP_loop _ _ a free _ HC6.out.net HC6.out.mask HOA.out HF.out (by have := H2.out; omega)).mono ?_
        rintro e w8 ⟨v8, rfl, hv8, hb8⟩
        obtain ⟨b8, o8, k8', rfl, _⟩ := IPAt.out hv8
        have HC7 := Lib.hid (HC6.out.on hb8)
        have HC8 := Lib.hid (HC7.out.set1 (b := true) (x := some (a.endOf free)) (show OptIn true _ _ _ from hv8))
        clear hb8 hv8
        clear c0 c1 c2 c3 c4 f0 f1 f2 f4
        obtain ⟨c0, c1, c2, c3, c4⟩ := HC7.out.rg.at_
        have f0 := HC7.out.rg.f0
        have f1 := HC7.out.rg.f1
        have f2 := HC7.out.rg.f2
        have f4 := HC7.out.rg.f4
        go_wp2_with fail
        go_ret
        exact .inl ⟨by simp [canonP, H2.out, HN.out], rfl, _, _, _, _, _, HC8.out⟩
      | some ed =>
        obtain ⟨xbe, ybe, zbe, ube, hebe⟩ := AdAt.slice (show AdAt _ _ ed from HC6.out.e)
        obtain ⟨rfl, rfl, rfl⟩ : be = some ⟨xbe, ybe, none⟩ ∧ ne = zbe ∧ ke = ube := by simpa using hebe
        clear hebe
        go_wp2_with fail
        generalize World.setCell _ _ _ = w6s at HC6 ⊢
        refine (canonIP_any B (o + 1) _ ed _ HC6.out.rg.at_.c1 HC6.out.rg.f1 HC6.out.e).mono ?_
        rintro e w8 ⟨v8, rfl, hv8, rfl⟩
        obtain ⟨b8, o8, k8', rfl, _⟩ := BriefAt.out hv8
        have HV8 := Lib.hid (HC6.out.set1 (b := true) (x := some ed) (show OptIn true _ _ _ from hv8))
        clear hv8
        clear c0 c1 c2 c3 c4 f0 f1 f2 f4
        generalize World.setCell _ _ _ = w8 at HV8 ⊢
        obtain ⟨c0, c1, c2, c3, c4⟩ := HV8.out.rg.at_
        have f0 := HV8.out.rg.f0
        have f1 := HV8.out.rg.f1
        have f2 := HV8.out.rg.f2
        have f4 := HV8.out.rg.f4
        go_wp2_with fail
        refine (contains_any B o _ _ _ _ _ _ a free _ _ ed _ (HV8.out.cont (.inr HV8.out.e) HOA.out (HK.out.2.1 ed rfl) (by intro s hs; cases hs; exact HUP.out) (by intro s hs; cases hs; exact HK.out.2.1 _ rfl) HF.out)).mono ?_
        rintro e w9 ⟨rfl, hb9⟩
        have HC9 := Lib.hid (HV8.out.on hb9)
        clear hb9
        clear c0 c1 c2 c3 c4 f0 f1 f2 f4
        obtain ⟨c0, c1, c2, c3, c4⟩ := HC9.out.rg.at_
        have f0 := HC9.out.rg.f0
        have f1 := HC9.out.rg.f1
        have f2 := HC9.out.rg.f2
        have f4 := HC9.out.rg.f4
        cases hce : cont a free (some a.up) (some ed) ed with
        | true =>
          have HCE := Lib.hid hce
          clear hce
          go_wp2_with fail
          go_ret
          exact .inl ⟨by simp [canonP, H2.out, HN.out, HCE.out], rfl, _, _, _, _, _, HC9.out⟩
        | false =>
          have HP := Lib.hid (show canonP a free none (some ed) = false by simp [canonP, hce])
          clear hce
          go_wp2_with fail
          refine (newError_any _ _).mono ?_
          rintro e wz ⟨rfl, hbz⟩
          have HZ := Lib.hid (HC9.out.rg.on hbz)
          clear hbz
          go_wp2_with fail
          go_ret
          exact .inr ⟨HP.out, ⟨_, rfl⟩, _, _, _, _, _, HZ.out, ⟨_, _, _, rfl⟩, ⟨_, _, _, rfl⟩, ⟨_, _, _, rfl⟩, ⟨_, _, _, rfl⟩, ⟨_, _, _, rfl⟩⟩
    | some st =>
      obtain ⟨xbs, ybs, zbs, ubs, hebs⟩ := AdAt.slice (show AdAt _ _ st from HC5.out.s)
      obtain ⟨rfl, rfl, rfl⟩ : bs = some ⟨xbs, ybs, none⟩ ∧ ns = zbs ∧ ks = ubs := by simpa using hebs
      clear hebs
      go_wp2_with fail
      generalize World.setCell _ _ _ = w5s at HC5 ⊢
      refine (canonIP_any B o _ st _ HC5.out.rg.at_.c0 HC5.out.rg.f0 HC5.out.s).mono ?_
      rintro e w6 ⟨v6, rfl, hv6, rfl⟩
      obtain ⟨b7, o7, k7, rfl, _⟩ := BriefAt.out hv6
      have HV7 := Lib.hid (HC5.out.set0 (b := true) (x := some st) (show OptIn true _ _ _ from hv6))
      clear hv6
      clear c0 c1 c2 c3 c4 f0 f1 f2 f4
      generalize World.setCell _ _ _ = w6 at HV7 ⊢
      obtain ⟨c0, c1, c2, c3, c4⟩ := HV7.out.rg.at_
      have f0 := HV7.out.rg.f0
      have f1 := HV7.out.rg.f1
      have f2 := HV7.out.rg.f2
      have f4 := HV7.out.rg.f4
      go_wp2_with fail
      refine (contains_any B o _ _ _ _ _ _ a free _ _ st _ (HV7.out.cont (.inr HV7.out.s) HOA.out (HK.out.1 st rfl) (by intro s hs; cases hs; exact HK.out.1 _ rfl) HK.out.2.1 HF.out)).mono ?_
      rintro e w7 ⟨rfl, hb7⟩
      have HC6 := Lib.hid (HV7.out.on hb7)
      clear hb7
      clear c0 c1 c2 c3 c4 f0 f1 f2 f4
      obtain ⟨c0, c1, c2, c3, c4⟩ := HC6.out.rg.at_
      have f0 := HC6.out.rg.f0
      have f1 := HC6.out.rg.f1
      have f2 := HC6.out.rg.f2
      have f4 := HC6.out.rg.f4
      cases hcs : cont a free (some st) o2 st with
      | false =>
        have HP := Lib.hid (show canonP a free (some st) o2 = false by simp [canonP, hcs])
        clear hcs
        go_wp2_with fail
        refine (newError_any _ _).mono ?_
        rintro e wz ⟨rfl, hbz⟩
        have HZ := Lib.hid (HC6.out.rg.on hbz)
        clear hbz
        go_wp2_with fail
        go_ret
        exact .inr ⟨HP.out, ⟨_, rfl⟩, _, _, _, _, _, HZ.out, ⟨_, _, _, rfl⟩, ⟨_, _, _, rfl⟩, ⟨_, _, _, rfl⟩, ⟨_, _, _, rfl⟩, ⟨_, _, _, rfl⟩⟩
      | true =>
        have HCS := Lib.hid hcs
        clear hcs
        cases o2 with
        | none =>
          have hnil3 := HC6.out.e
          obtain ⟨rfl, rfl, rfl⟩ : be = none ∧ ne = 0 ∧ ke = 0 := by simpa [OptIn] using hnil3
          clear hnil3
          go_wp2_with fail
          refine (lastIP_loop _ _ a free _ HC6.out.net HC6.out.mask HOA.out HF.out (by have := H2.out; omega)).mono ?_
          rintro e w8 ⟨v8, rfl, hv8, hb8⟩
          obtain ⟨b8, o8, k8', rfl, _⟩ := IPAt.out hv8
          have HC7 := Lib.hid (HC6.out.on hb8)
          have HC8 := Lib.hid (HC7.out.set1 (b := true) (x := some (a.endOf free)) (show OptIn true _ _ _ from hv8))
          clear hb8 hv8
          clear c0 c1 c2 c3 c4 f0 f1 f2 f4
          obtain ⟨c0, c1, c2, c3, c4⟩ := HC7.out.rg.at_
          have f0 := HC7.out.rg.f0
          have f1 := HC7.out.rg.f1
          have f2 := HC7.out.rg.f2
          have f4 := HC7.out.rg.f4
          go_wp2_with fail
          go_ret
          exact .inl ⟨by simp [canonP, H2.out, HN.out, HCS.out], rfl, _, _, _, _, _, HC8.out⟩
        | some ed =>
          obtain ⟨xbe, ybe, zbe, ube, hebe⟩ := AdAt.slice (show AdAt _ _ ed from HC6.out.e)
          obtain ⟨rfl, rfl, rfl⟩ : be = some ⟨xbe, ybe, none⟩ ∧ ne = zbe ∧ ke = ube := by simpa using hebe
          clear hebe
          go_wp2_with fail
          refine (canonIP_any B (o + 1) _ ed _ HC6.out.rg.at_.c1 HC6.out.rg.f1 HC6.out.e).mono ?_
          rintro e w8 ⟨v8, rfl, hv8, rfl⟩
          obtain ⟨b8, o8, k8', rfl, _⟩ := BriefAt.out hv8
          have HV8 := Lib.hid (HC6.out.set1 (b := true) (x := some ed) (show OptIn true _ _ _ from hv8))
          clear hv8
          clear c0 c1 c2 c3 c4 f0 f1 f2 f4
          generalize World.setCell _ _ _ = w8 at HV8 ⊢
          obtain ⟨c0, c1, c2, c3, c4⟩ := HV8.out.rg.at_
          have f0 := HV8.out.rg.f0
          have f1 := HV8.out.rg.f1
          have f2 := HV8.out.rg.f2
          have f4 := HV8.out.rg.f4
          go_wp2_with fail
          refine (contains_any B o _ _ _ _ _ _ a free _ _ ed _ (HV8.out.cont (.inr HV8.out.e) HOA.out (HK.out.2.1 ed rfl) (by intro s hs; cases hs; exact HK.out.1 _ rfl) (by intro s hs; cases hs; exact HK.out.2.1 _ rfl) HF.out)).mono ?_
          rintro e w9 ⟨rfl, hb9⟩
          have HC9 := Lib.hid (HV8.out.on hb9)
          clear hb9
          clear c0 c1 c2 c3 c4 f0 f1 f2 f4
          obtain ⟨c0, c1, c2, c3, c4⟩ := HC9.out.rg.at_
          have f0 := HC9.out.rg.f0
          have f1 := HC9.out.rg.f1
          have f2 := HC9.out.rg.f2
          have f4 := HC9.out.rg.f4
          cases hce : cont a free (some st) (some ed) ed with
          | true =>
            have HCE := Lib.hid hce
            clear hce
            go_wp2_with fail
            go_ret
            exact .inl ⟨by simp [canonP, H2.out, HN.out, HCS.out, HCE.out], rfl, _, _, _, _, _, HC9.out⟩
          | false =>
            have HP := Lib.hid (show canonP a free (some st) (some ed) = false by simp [canonP, HCS.out, hce])
            clear hce
            go_wp2_with fail
            refine (newError_any _ _).mono ?_
            rintro e wz ⟨rfl, hbz⟩
            have HZ := Lib.hid (HC9.out.rg.on hbz)
            clear hbz
            go_wp2_with fail
            go_ret
            exact .inr ⟨HP.out, ⟨_, rfl⟩, _, _, _, _, _, HZ.out, ⟨_, _, _, rfl⟩, ⟨_, _, _, rfl⟩, ⟨_, _, _, rfl⟩, ⟨_, _, _, rfl⟩, ⟨_, _, _, rfl⟩⟩
  | some gw =>
    obtain ⟨xbg, ybg, zbg, ubg, hebg⟩ := AdAt.slice (show AdAt _ _ gw from HC4.out.g)
    obtain ⟨rfl, rfl, rfl⟩ : bg = some ⟨xbg, ybg, none⟩ ∧ ng = zbg ∧ kg = ubg := by simpa using hebg
    clear hebg
    go_wp2_with fail
    refine (canonIP_any B (o + 4) _ gw _ HC4.out.rg.at_.c4 HC4.out.rg.f4 HC4.out.g).mono ?_
    rintro e w5 ⟨v5, rfl, hv5, rfl⟩
    obtain ⟨b5, o5, k5, rfl, _⟩ := BriefAt.out hv5
    have HC5 := Lib.hid (HC4.out.set4 (b := true) (x := some gw) (show OptIn true _ _ _ from hv5))
    clear hv5
    clear c0 c1 c2 c3 c4 f0 f1 f2 f4
    generalize World.setCell _ _ _ = w5 at HC5 ⊢
    obtain ⟨c0, c1, c2, c3, c4⟩ := HC5.out.rg.at_
    have f0 := HC5.out.rg.f0
    have f1 := HC5.out.rg.f1
    have f2 := HC5.out.rg.f2
    have f4 := HC5.out.rg.f4
    cases o1 with
    | none =>
      have hnil4 := HC5.out.s
      obtain ⟨rfl, rfl, rfl⟩ : bs = none ∧ ns = 0 ∧ ks = 0 := by simpa [OptIn] using hnil4
      clear hnil4
      go_wp2_with fail
      refine (NextIP_any _ a _ (.inr HC5.out.net) HOA.out HUP.out).mono ?_
      rintro e w6 ⟨v6, rfl, hv6, hb6⟩
      obtain ⟨b7, o7, k7, rfl, _⟩ := IPAt.out hv6
      have HC5b := Lib.hid (HC5.out.on hb6)
      have HC6 := Lib.hid (HC5b.out.set0 (b := true) (x := some a.up) (show OptIn true _ _ _ from hv6))
      clear hb6 hv6
      clear c0 c1 c2 c3 c4 f0 f1 f2 f4
      obtain ⟨c0, c1, c2, c3, c4⟩ := HC5b.out.rg.at_
      have f0 := HC5b.out.rg.f0
      have f1 := HC5b.out.rg.f1
      have f2 := HC5b.out.rg.f2
      have f4 := HC5b.out.rg.f4
      cases o2 with
      | none =>
        have hnil3 := HC6.out.e
        obtain ⟨rfl, rfl, rfl⟩ : be = none ∧ ne = 0 ∧ ke = 0 := by simpa [OptIn] using hnil3
        clear hnil3
        go_wp2_with fail
        generalize World.setCell _ _ _ = w6s at HC6 ⊢
        refine (lastIP_loop _ _ a free _ HC6.out.net HC6.out.mask HOA.out HF.out (by have := H2.out; omega)).mono ?_
        rintro e w8 ⟨v8, rfl, hv8, hb8⟩
        obtain ⟨b8, o8, k8', rfl, _⟩ := IPAt.out hv8
        have HC7 := Lib.hid (HC6.out.on hb8)
        have HC8 := Lib.hid (HC7.out.set1 (b := true) (x := some (a.endOf free)) (show OptIn true _ _ _ from hv8))
        clear hb8 hv8
        clear c0 c1 c2 c3 c4 f0 f1 f2 f4
        obtain ⟨c0, c1, c2, c3, c4⟩ := HC7.out.rg.at_
        have f0 := HC7.out.rg.f0
        have f1 := HC7.out.rg.f1
        have f2 := HC7.out.rg.f2
        have f4 := HC7.out.rg.f4
        go_wp2_with fail
        go_ret
        exact .inl ⟨by simp [canonP, H2.out, HN.out], rfl, _, _, _, _, _, HC8.out⟩
      | some ed =>
        obtain ⟨xbe, ybe, zbe, ube, hebe⟩ := AdAt.slice (show AdAt _ _ ed from HC6.out.e)
        obtain ⟨rfl, rfl, rfl⟩ : be = some ⟨xbe, ybe, none⟩ ∧ ne = zbe ∧ ke = ube := by simpa using hebe
        clear hebe
        go_wp2_with fail
        generalize World.setCell _ _ _ = w6s at HC6 ⊢
        refine (canonIP_any B (o + 1) _ ed _ HC6.out.rg.at_.c1 HC6.out.rg.f1 HC6.out.e).mono ?_
        rintro e w8 ⟨v8, rfl, hv8, rfl⟩
        obtain ⟨b8, o8, k8', rfl, _⟩ := BriefAt.out hv8
        have HV8 := Lib.hid (HC6.out.set1 (b := true) (x := some ed) (show OptIn true _ _ _ from hv8))
        clear hv8
        clear c0 c1 c2 c3 c4 f0 f1 f2 f4
        generalize World.setCell _ _ _ = w8 at HV8 ⊢
        obtain ⟨c0, c1, c2, c3, c4⟩ := HV8.out.rg.at_
        have f0 := HV8.out.rg.f0
        have f1 := HV8.out.rg.f1
        have f2 := HV8.out.rg.f2
        have f4 := HV8.out.rg.f4
        go_wp2_with fail
        refine (contains_any B o _ _ _ _ _ _ a free _ _ ed _ (HV8.out.cont (.inr HV8.out.e) HOA.out (HK.out.2.1 ed rfl) (by intro s hs; cases hs; exact HUP.out) (by intro s hs; cases hs; exact HK.out.2.1 _ rfl) HF.out)).mono ?_
        rintro e w9 ⟨rfl, hb9⟩
        have HC9 := Lib.hid (HV8.out.on hb9)
        clear hb9
        clear c0 c1 c2 c3 c4 f0 f1 f2 f4
        obtain ⟨c0, c1, c2, c3, c4⟩ := HC9.out.rg.at_
        have f0 := HC9.out.rg.f0
        have f1 := HC9.out.rg.f1
        have f2 := HC9.out.rg.f2
        have f4 := HC9.out.rg.f4
        cases hce : cont a free (some a.up) (some ed) ed with
        | true =>
          have HCE := Lib.hid hce
          clear hce
          go_wp2_with fail
          go_ret
          exact .inl ⟨by simp [canonP, H2.out, HN.out, HCE.out], rfl, _, _, _, _, _, HC9.out⟩
        | false =>
          have HP := Lib.hid (show canonP a free none (some ed) = false by simp [canonP, hce])
          clear hce
          go_wp2_with fail
          refine (newError_any _ _).mono ?_
          rintro e wz ⟨rfl, hbz⟩
          have HZ := Lib.hid (HC9.out.rg.on hbz)
          clear hbz
          go_wp2_with fail
          go_ret
          exact .inr ⟨HP.out, ⟨_, rfl⟩, _, _, _, _, _, HZ.out, ⟨_, _, _, rfl⟩, ⟨_, _, _, rfl⟩, ⟨_, _, _, rfl⟩, ⟨_, _, _, rfl⟩, ⟨_, _, _, rfl⟩⟩
    | some st =>
      obtain ⟨xbs, ybs, zbs, ubs, hebs⟩ := AdAt.slice (show AdAt _ _ st from HC5.out.s)
      obtain ⟨rfl, rfl, rfl⟩ : bs = some ⟨xbs, ybs, none⟩ ∧ ns = zbs ∧ ks = ubs := by simpa using hebs
      clear hebs
      go_wp2_with fail
      refine (canonIP_any B o _ st _ HC5.out.rg.at_.c0 HC5.out.rg.f0 HC5.out.s).mono ?_
      rintro e w6 ⟨v6, rfl, hv6, rfl⟩
      obtain ⟨b7, o7, k7, rfl, _⟩ := BriefAt.out hv6
      have HV7 := Lib.hid (HC5.out.set0 (b := true) (x := some st) (show OptIn true _ _ _ from hv6))
      clear hv6
      clear c0 c1 c2 c3 c4 f0 f1 f2 f4
      generalize World.setCell _ _ _ = w6 at HV7 ⊢
      obtain ⟨c0, c1, c2, c3, c4⟩ := HV7.out.rg.at_
      have f0 := HV7.out.rg.f0
      have f1 := HV7.out.rg.f1
      have f2 := HV7.out.rg.f2
      have f4 := HV7.out.rg.f4
      go_wp2_with fail
      refine (contains_any B o _ _ _ _ _ _ a free _ _ st _ (HV7.out.cont (.inr HV7.out.s) HOA.out (HK.out.1 st rfl) (by intro s hs; cases hs; exact HK.out.1 _ rfl) HK.out.2.1 HF.out)).mono ?_
      rintro e w7 ⟨rfl, hb7⟩
      have HC6 := Lib.hid (HV7.out.on hb7)
      clear hb7
      clear c0 c1 c2 c3 c4 f0 f1 f2 f4
      obtain ⟨c0, c1, c2, c3, c4⟩ := HC6.out.rg.at_
      have f0 := HC6.out.rg.f0
      have f1 := HC6.out.rg.f1
      have f2 := HC6.out.rg.f2
      have f4 := HC6.out.rg.f4
      cases hcs : cont a free (some st) o2 st with
      | false =>
        have HP := Lib.hid (show canonP a free (some st) o2 = false by simp [canonP, hcs])
        clear hcs
        go_wp2_with fail
        refine (newError_any _ _).mono ?_
        rintro e wz ⟨rfl, hbz⟩
        have HZ := Lib.hid (HC6.out.rg.on hbz)
        clear hbz
        go_wp2_with fail
        go_ret
        exact .inr ⟨HP.out, ⟨_, rfl⟩, _, _, _, _, _, HZ.out, ⟨_, _, _, rfl⟩, ⟨_, _, _, rfl⟩, ⟨_, _, _, rfl⟩, ⟨_, _, _, rfl⟩, ⟨_, _, _, rfl⟩⟩
      | true =>
        have HCS := Lib.hid hcs
        clear hcs
        cases o2 with
        | none =>
          have hnil3 := HC6.out.e
          obtain ⟨rfl, rfl, rfl⟩ : be = none ∧ ne = 0 ∧ ke = 0 := by simpa [OptIn] using hnil3
          clear hnil3
          go_wp2_with fail
          refine (lastIP_loop _ _ a free _ HC6.out.net HC6.out.mask HOA.out HF.out (by have := H2.out; omega)).mono ?_
          rintro e w8 ⟨v8, rfl, hv8, hb8⟩
          obtain ⟨b8, o8, k8', rfl, _⟩ := IPAt.out hv8
          have HC7 := Lib.hid (HC6.out.on hb8)
          have HC8 := Lib.hid (HC7.out.set1 (b := true) (x := some (a.endOf free)) (show OptIn true _ _ _ from hv8))
          clear hb8 hv8
          clear c0 c1 c2 c3 c4 f0 f1 f2 f4
          obtain ⟨c0, c1, c2, c3, c4⟩ := HC7.out.rg.at_
          have f0 := HC7.out.rg.f0
          have f1 := HC7.out.rg.f1
          have f2 := HC7.out.rg.f2
          have f4 := HC7.out.rg.f4
          go_wp2_with fail
          go_ret
          exact .inl ⟨by simp [canonP, H2.out, HN.out, HCS.out], rfl, _, _, _, _, _, HC8.out⟩
        | some ed =>
          obtain ⟨xbe, ybe, zbe, ube, hebe⟩ := AdAt.slice (show AdAt _ _ ed from HC6.out.e)
          obtain ⟨rfl, rfl, rfl⟩ : be = some ⟨xbe, ybe, none⟩ ∧ ne = zbe ∧ ke = ube := by simpa using hebe
          clear hebe
          go_wp2_with fail
          refine (canonIP_any B (o + 1) _ ed _ HC6.out.rg.at_.c1 HC6.out.rg.f1 HC6.out.e).mono ?_
          rintro e w8 ⟨v8, rfl, hv8, rfl⟩
          obtain ⟨b8, o8, k8', rfl, _⟩ := BriefAt.out hv8
          have HV8 := Lib.hid (HC6.out.set1 (b := true) (x := some ed) (show OptIn true _ _ _ from hv8))
          clear hv8
          clear c0 c1 c2 c3 c4 f0 f1 f2 f4
          generalize World.setCell _ _ _ = w8 at HV8 ⊢
          obtain ⟨c0, c1, c2, c3, c4⟩ := HV8.out.rg.at_
          have f0 := HV8.out.rg.f0
          have f1 := HV8.out.rg.f1
          have f2 := HV8.out.rg.f2
          have f4 := HV8.out.rg.f4
          go_wp2_with fail
          refine (contains_any B o _ _ _ _ _ _ a free _ _ ed _ (HV8.out.cont (.inr HV8.out.e) HOA.out (HK.out.2.1 ed rfl) (by intro s hs; cases hs; exact HK.out.1 _ rfl) (by intro s hs; cases hs; exact HK.out.2.1 _ rfl) HF.out)).mono ?_
          rintro e w9 ⟨rfl, hb9⟩
          have HC9 := Lib.hid (HV8.out.on hb9)
          clear hb9
          clear c0 c1 c2 c3 c4 f0 f1 f2 f4
          obtain ⟨c0, c1, c2, c3, c4⟩ := HC9.out.rg.at_
          have f0 := HC9.out.rg.f0
          have f1 := HC9.out.rg.f1
          have f2 := HC9.out.rg.f2
          have f4 := HC9.out.rg.f4
          cases hce : cont a free (some st) (some ed) ed with
          | true =>
            have HCE := Lib.hid hce
            clear hce
            go_wp2_with fail
            go_ret
            exact .inl ⟨by simp [canonP, H2.out, HN.out, HCS.out, HCE.out], rfl, _, _, _, _, _, HC9.out⟩
          | false =>
            have HP := Lib.hid (show canonP a free (some st) (some ed) = false by simp [canonP, HCS.out, hce])
            clear hce
            go_wp2_with fail
            refine (newError_any _ _).mono ?_
            rintro e wz ⟨rfl, hbz⟩
            have HZ := Lib.hid (HC9.out.rg.on hbz)
            clear hbz
            go_wp2_with fail
            go_ret
            exact .inr ⟨HP.out, ⟨_, rfl⟩, _, _, _, _, _, HZ.out, ⟨_, _, _, rfl⟩, ⟨_, _, _, rfl⟩, ⟨_, _, _, rfl⟩, ⟨_, _, _, rfl⟩, ⟨_, _, _, rfl⟩⟩

end Go.Proofs.YtnehofekgnbelaaGreatDoor

/-
  allocator's (*Range).Overlaps.
-/
namespace Go.Proofs.YtnehofekgnbelaaGreatDoor
open Go.RowKit
set_option linter.unusedVariables false
set_option maxRecDepth 100000
set_option maxHeartbeats 1000000

/-- A range in its standard form. -/
structure Held (w : World) (B o : Nat) (v0 v1 vi vm v4 : Value) (a : Ad) (free : Nat) (s e : Ad) : Prop where
  at_ : RgAt w B o v0 v1 vi vm v4
  hs : BriefAt w v0 s
  he : BriefAt w v1 e
  net : BriefAt w vi a
  mask : IPAt w vm (a.mask free)
  oa : a.ok
  os : s.ok
  oe : e.ok
  room : free ≤ a.room
theorem Held.on {w w' : World} {B o : Nat} {v0 v1 vi vm v4 : Value} {a : Ad} {free : Nat} {s e : Ad} (h : Held w B o v0 v1 vi vm v4 a free s e) (hb : Below w.heap.size w w') : Held w' B o v0 v1 vi vm v4 a free s e :=
  ⟨h.at_.keep hb, BriefAt.keep h.hs hb, BriefAt.keep h.he hb, BriefAt.keep h.net hb, IPAt.keep h.mask hb, h.oa, h.os, h.oe, h.room⟩
theorem Held.cont {w : World} {B o : Nat} {v0 v1 vi vm v4 u : Value} {a : Ad} {free : Nat} {s e b : Ad} (h : Held w B o v0 v1 vi vm v4 a free s e) (hu : BriefAt w u b) (ob : b.ok) :
    ContIn w B o v0 v1 vi vm v4 u a free (some s) (some e) b :=
  ⟨h.at_, .inr h.hs, .inr h.he, h.net, h.mask, .inr hu, h.oa, ob, fun x hx => by cases hx; exact h.os, fun x hx => by cases hx; exact h.oe, h.room⟩

def ovr (a : Ad) (free : Nat) (s e : Ad) (a' : Ad) (free' : Nat) (s' e' : Ad) : Bool :=
  decide (s.width = s'.width) && (cont a free (some s) (some e) s' || cont a free (some s) (some e) e' || cont a' free' (some s') (some e') s || cont a' free' (some s') (some e') e)

theorem overlaps_any (B o B' o' : Nat) (v0 v1 vi vm v4 u0 u1 ui um u4 : Value) (a a' : Ad) (free free' : Nat) (s e s' e' : Ad) (w : World) (h : Held w B o v0 v1 vi vm v4 a free s e) (h' : Held w B' o' u0 u1 ui um u4 a' free' s' e') :
    Calls Tryz.prog 93 #[.pointer (some ⟨B, o, none⟩), .pointer (some ⟨B', o', none⟩)] w (BelowPost w (.bool (ovr a free s e a' free' s' e'))) := by
  have H0 := Lib.hid h
  have G0 := Lib.hid h'
  obtain ⟨bs, os, ks, rfl, _⟩ := BriefAt.out h.hs
  obtain ⟨be, oe, ke, rfl, _⟩ := BriefAt.out h.he
  obtain ⟨cs, ps, ls, rfl, _⟩ := BriefAt.out h'.hs
  obtain ⟨ce, pe, le, rfl, _⟩ := BriefAt.out h'.he
  obtain ⟨c0, c1, _, _, _⟩ := h.at_
  obtain ⟨d0, d1, _, _, _⟩ := h'.at_
  by_cases hk : s.width = s'.width
  rotate_left
  · have HP := Lib.hid (show ovr a free s e a' free' s' e' = false by unfold ovr; rw [decide_eq_false hk]; rfl)
    have t1 : ((s.width : Int) != (s'.width : Int)) = true := by rw [bne_iff_ne]; omega
    clear h h' hk
    generalize s.width = x at t1 c0 H0 G0
    generalize s'.width = y at t1 d0 H0 G0
    go_enter Tryz.func93, Tryz.ntmps93
    go_wp2_with fail
    go_quiet (fail)
    go_wp2_with fail
    go_ret
    exact ⟨by rw [HP.out]; rfl, below_drewN (Below.refl _ _) _⟩
  have t1 : ((s.width : Int) != (s'.width : Int)) = false := by rw [hk]; simp
  have hk' := decide_eq_true hk
  have HK := Lib.hid hk'
  clear h h' hk hk'
  generalize hx : s.width = x at t1 c0 H0 G0
  generalize hy : s'.width = y at t1 d0 H0 G0
  rw [hx, hy] at HK
  go_enter Tryz.func93, Tryz.ntmps93
  go_wp2_with fail
  go_quiet (fail)
  have H1 := Lib.hid (H0.out.on (below_drewN (Below.refl _ _) nq))
  have G1 := Lib.hid (G0.out.on (below_drewN (Below.refl _ _) nq))
  have HB1 := Lib.hid (below_drewN (Below.refl w.heap.size w) nq)
  go_wp2_with fail
  refine (contains_any B o _ _ _ _ _ _ a free _ _ s' _ (H1.out.cont G1.out.hs G1.out.os)).mono ?_
  rintro e1 w2 ⟨rfl, hb1⟩
  have H2 := Lib.hid (H1.out.on hb1)
  have G2 := Lib.hid (G1.out.on hb1)
  have HB2 := Lib.hid (below_tr HB1.out hb1)
  clear c0 c1 d0 d1 hb1
  obtain ⟨c0, c1, _, _, _⟩ := H2.out.at_
  obtain ⟨d0, d1, _, _, _⟩ := G2.out.at_
  cases hf1 : cont a free (some s) (some e) s' with
  | true =>
    have HP := Lib.hid (show ovr a free s e a' free' s' e' = true by unfold ovr; simp [hx, hy, HK.out, hf1])
    clear hf1
    go_wp2_with fail
    go_ret
    exact ⟨by rw [HP.out]; rfl, HB2.out⟩
  | false =>
    have F1 := Lib.hid hf1
    clear hf1
    go_wp2_with fail
    refine (contains_any B o _ _ _ _ _ _ a free _ _ e' _ (H2.out.cont G2.out.he G2.out.oe)).mono ?_
    rintro e2 w3 ⟨rfl, hb2⟩
    have H3 := Lib.hid (H2.out.on hb2)
    have G3 := Lib.hid (G2.out.on hb2)
    have HB3 := Lib.hid (below_tr HB2.out hb2)
    clear c0 c1 d0 d1 hb2
    obtain ⟨c0, c1, _, _, _⟩ := H3.out.at_
    obtain ⟨d0, d1, _, _, _⟩ := G3.out.at_
    cases hf2 : cont a free (some s) (some e) e' with
    | true =>
      have HP := Lib.hid (show ovr a free s e a' free' s' e' = true by unfold ovr; simp [hx, hy, HK.out, F1.out, hf2])
      clear hf2
      go_wp2_with fail
      go_ret
      exact ⟨by rw [HP.out]; rfl, HB3.out⟩
    | false =>
      have F2 := Lib.hid hf2
      clear hf2
      go_wp2_with fail
      refine (contains_any B' o' _ _ _ _ _ _ a' free' _ _ s _ (G3.out.cont H3.out.hs H3.out.os)).mono ?_
      rintro e3 w4 ⟨rfl, hb3⟩
      have H4 := Lib.hid (H3.out.on hb3)
      have G4 := Lib.hid (G3.out.on hb3)
      have HB4 := Lib.hid (below_tr HB3.out hb3)
      clear c0 c1 d0 d1 hb3
      obtain ⟨c0, c1, _, _, _⟩ := H4.out.at_
      obtain ⟨d0, d1, _, _, _⟩ := G4.out.at_
      cases hf3 : cont a' free' (some s') (some e') s with
      | true =>
        have HP := Lib.hid (show ovr a free s e a' free' s' e' = true by unfold ovr; simp [hx, hy, HK.out, F1.out, F2.out, hf3])
        clear hf3
        go_wp2_with fail
        go_ret
        exact ⟨by rw [HP.out]; rfl, HB4.out⟩
      | false =>
        have F3 := Lib.hid hf3
        clear hf3
        go_wp2_with fail
        refine (contains_any B' o' _ _ _ _ _ _ a' free' _ _ e _ (G4.out.cont H4.out.he H4.out.oe)).mono ?_
        rintro e4 w5 ⟨rfl, hb4⟩
        have H5 := Lib.hid (H4.out.on hb4)
        have G5 := Lib.hid (G4.out.on hb4)
        have HB5 := Lib.hid (below_tr HB4.out hb4)
        clear c0 c1 d0 d1 hb4
        obtain ⟨c0, c1, _, _, _⟩ := H5.out.at_
        obtain ⟨d0, d1, _, _, _⟩ := G5.out.at_
        cases hf4 : cont a' free' (some s') (some e') e with
        | true =>
          have HP := Lib.hid (show ovr a free s e a' free' s' e' = true by unfold ovr; simp [hx, hy, HK.out, F1.out, F2.out, F3.out, hf4])
          clear hf4
          go_wp2_with fail
          go_ret
          exact ⟨by rw [HP.out]; rfl, HB5.out⟩
        | false =>
          have F4 := Lib.hid hf4
          clear hf4
          have HP := Lib.hid (show ovr a free s e a' free' s' e' = false by unfold ovr; simp [hx, hy, HK.out, F1.out, F2.out, F3.out, F4.out])
          go_wp2_with fail
          go_ret
          exact ⟨by rw [HP.out]; rfl, HB5.out⟩

end Go.Proofs.YtnehofekgnbelaaGreatDoor
