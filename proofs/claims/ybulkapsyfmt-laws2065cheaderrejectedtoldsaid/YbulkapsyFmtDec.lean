/-
  The decoder's methods: bytes, uint32, string, close: none panics, and nothing below the decoder's own block turns.
-/
import Derived.Test.YbulkapsyFmtOpen
import Derived.Deep.QuietTactic
import Derived.BigQuiet
import Derived.WalkSmall
import Derived.WalkSpells
import Derived.OpenShut
namespace Go.Proofs.YbulkapsyFmt
open Go.RowKit
set_option linter.unusedVariables false

/-- An error value: nil, or something in an interface. -/
def IsErr (er : Value) : Prop := er = .nilIface ∨ ∃ T v, er = .iface T v

/-- The decoder in block D: its rest lies in block b below D, its bytes can be read. -/
structure Dec (D b : Nat) (errS : Value) (w : World) (off m c : Nat) (er : Value) : Prop where
  c0 : w.cell? ⟨D, 0, none⟩ = some (.slice (some ⟨b, off, none⟩) m c)
  c1 : w.cell? ⟨D, 1, none⟩ = some er
  f0 : w.frozen? ⟨D, 0, none⟩ = false
  f1 : w.frozen? ⟨D, 1, none⟩ = false
  bD : b < D
  mc : m ≤ c
  cm : c ≤ 2000
  bytes : ∃ zs : List Int, zs.length = m ∧ (∀ i, i < m → w.cell? ⟨b, off + i, none⟩ = some (.int .u8 (zs.getD i 0))) ∧ ∀ z ∈ zs, (Lit.int .u8 z).wf = true
  g : w.cell? ⟨0, 0, none⟩ = some errS
  isErr : IsErr er

/-- What holds of the decoder between two calls. -/
def DecAt (D b : Nat) (errS : Value) (w : World) : Prop := ∃ off m c er, Dec D b errS w off m c er

theorem Dec.lt {D b : Nat} {errS : Value} {w : World} {off m c : Nat} {er : Value} (h : Dec D b errS w off m c er) : D < w.heap.size := World.block_lt_of_cell? _ _ h.c0

/-- A store into the decoder's own block keeps it a decoder. -/
theorem Dec.setErr {D b : Nat} {errS : Value} {w : World} {off m c : Nat} {er : Value} (h : Dec D b errS w off m c er) (er' : Value) (he : IsErr er') : Dec D b errS (w.setCell ⟨D, 1, none⟩ er') off m c er' := by
  have hD : 0 < D := by have := h.bD; omega
  refine { c0 := ?_, c1 := ?_, f0 := ?_, f1 := ?_, bD := h.bD, mc := h.mc, cm := h.cm, bytes := ?_, g := ?_, isErr := he }
  · rw [World.cell?_setCell_other _ _ _ _ (by simp)]; exact h.c0
  · exact World.cell?_setCell_same _ _ _ h.c1
  · simp [h.f0]
  · simp [h.f1]
  · obtain ⟨zs, hl, hc, hz⟩ := h.bytes
    refine ⟨zs, hl, fun i hi => ?_, hz⟩
    rw [World.cell?_setCell_other _ _ _ _ (by have := h.bD; simp <;> omega)]
    exact hc i hi
  · rw [World.cell?_setCell_other _ _ _ _ (by simp <;> omega)]; exact h.g

theorem Dec.setRest {D b : Nat} {errS : Value} {w : World} {off m c : Nat} {er : Value} (h : Dec D b errS w off m c er) (off' k : Nat) (hk : k ≤ m) (ho : ¬ c = k → off' = off + k) :
    Dec D b errS (w.setCell ⟨D, 0, none⟩ (.slice (some ⟨b, off', none⟩) (m - k) (c - k))) off' (m - k) (c - k) er := by
  have hD : 0 < D := by have := h.bD; omega
  have hmc := h.mc
  have hcm := h.cm
  refine { c0 := ?_, c1 := ?_, f0 := ?_, f1 := ?_, bD := h.bD, mc := ?_, cm := ?_, bytes := ?_, g := ?_, isErr := h.isErr }
  · exact World.cell?_setCell_same _ _ _ h.c0
  · rw [World.cell?_setCell_other _ _ _ _ (by simp)]; exact h.c1
  · simp [h.f0]
  · simp [h.f1]
  · omega
  · omega
  · obtain ⟨zs, hl, hc, hz⟩ := h.bytes
    refine ⟨zs.drop k, by simp [hl], fun i hi => ?_, fun z hz' => hz z (List.mem_of_mem_drop hz')⟩
    rw [World.cell?_setCell_other _ _ _ _ (by have := h.bD; simp <;> omega), ho (by omega), Nat.add_assoc, hc (k + i) (by omega)]
    simp [List.getD]
  · rw [World.cell?_setCell_other _ _ _ _ (by simp <;> omega)]; exact h.g

/-- What 'bytes' hands back. -/
def Cut (b off m : Nat) (n : Int) (v : Value) : Prop := v = .slice none 0 0 ∨ ∃ k c : Nat, v = .slice (some ⟨b, off, none⟩) k c ∧ (k : Int) = n ∧ k ≤ m ∧ k ≤ c ∧ c ≤ 2000

set_option maxHeartbeats 800000 in
theorem bytes_any (D b : Nat) (T : TypeId) (v : Value) (off m c : Nat) (er : Value) (n : Int) (w : World) (h : Dec D b (.iface T v) w off m c er) (hn0 : 0 ≤ n) (hn1 : n ≤ 4294967295) :
    Calls Ybaf.prog 16 #[.pointer (some ⟨D, 0, none⟩), .int .i64 n] w fun e w' => ∃ r, e = .returned r ∧ Cut b off m n r ∧ DecAt D b (.iface T v) w' ∧ Below D w w' := by
  have H : Hid (Dec D b (.iface T v) w off m c er) := h
  have c0 := h.c0
  have c1 := h.c1
  have f0 := h.f0
  have f1 := h.f1
  have g := h.g
  have mc := h.mc
  have cm := h.cm
  have he := h.isErr
  clear h
  rcases he with rfl | ⟨T', v', rfl⟩
  · by_cases hm : (m : Int) < n
    · go_enter Ybaf.func16, Ybaf.ntmps16
      go_wp2
      go_ret
      exact ⟨_, rfl, .inl rfl, ⟨_, _, _, _, H.out.setErr _ (.inr ⟨_, _, rfl⟩)⟩, (Below.refl D w).setCell (p := ⟨D, 1, none⟩) (Nat.le_refl D) _⟩
    · obtain ⟨k, rfl⟩ := Int.eq_ofNat_of_zero_le hn0
      have hkm : k ≤ m := by omega
      have hkn : ¬ (k : Int) < 0 := by omega
      by_cases hck : c = k
      · subst hck
        obtain rfl : m = c := by omega
        have H2 : Hid (Dec D b (.iface T v) (w.setCell ⟨D, 0, none⟩ (.slice (some ⟨b, off, none⟩) 0 0)) off 0 0 .nilIface) := by
          have := H.out.setRest off m (Nat.le_refl _) (fun h => absurd rfl h)
          rw [Nat.sub_self] at this
          exact this
        go_enter Ybaf.func16, Ybaf.ntmps16
        go_wp2
        go_ret
        exact ⟨_, rfl, .inr ⟨_, _, rfl, rfl, Nat.le_refl _, Nat.le_refl _, cm⟩, ⟨_, _, _, _, H2.out⟩, (Below.refl D w).setCell (p := ⟨D, 0, none⟩) (Nat.le_refl D) _⟩
      · have H2 : Hid (Dec D b (.iface T v) (w.setCell ⟨D, 0, none⟩ (.slice (some ⟨b, off + k, none⟩) (m - k) (c - k))) (off + k) (m - k) (c - k) .nilIface) := H.out.setRest (off + k) k hkm (fun _ => rfl)
        go_enter Ybaf.func16, Ybaf.ntmps16
        go_wp2
        go_ret
        exact ⟨_, rfl, .inr ⟨_, _, rfl, rfl, hkm, by omega, cm⟩, ⟨_, _, _, _, H2.out⟩, (Below.refl D w).setCell (p := ⟨D, 0, none⟩) (Nat.le_refl D) _⟩
  · go_enter Ybaf.func16, Ybaf.ntmps16
    go_wp2
    go_ret
    exact ⟨_, rfl, .inl rfl, ⟨_, _, _, _, H.out⟩, Below.refl _ _⟩

set_option maxHeartbeats 1600000 in
theorem Uint32_any (b off c : Nat) (z0 z1 z2 z3 : Int) (w : World) (h0 : w.cell? ⟨b, off, none⟩ = some (.int .u8 z0)) (h1 : w.cell? ⟨b, off + 1, none⟩ = some (.int .u8 z1))
    (h2 : w.cell? ⟨b, off + 2, none⟩ = some (.int .u8 z2)) (h3 : w.cell? ⟨b, off + 3, none⟩ = some (.int .u8 z3)) :
    Calls Ybaf.prog 19 #[.agg #[], .slice (some ⟨b, off, none⟩) 4 c] w fun e w' => (∃ x, e = .returned (.int .u32 x) ∧ (Lit.int .u32 x).wf = true) ∧ Below w.heap.size w w' := by
  have hb : b < w.heap.size := World.block_lt_of_cell? _ _ h0
  go_enter Ybaf.func19, Ybaf.ntmps19
  go_wp2
  go_quiet (fail)
  go_wp2
  go_ret
  exact ⟨⟨_, rfl, wf_bits _ _ _ _⟩, below_drewN ((Below.refl _ w).alloc (Nat.le_refl _) _) _⟩

/-- The decoder behind new blocks. -/
theorem Dec.below {D b : Nat} {errS : Value} {w w' : World} {off m c : Nat} {er : Value} (h : Dec D b errS w off m c er) (hb : Below w.heap.size w w') : Dec D b errS w' off m c er := by
  have hl := h.lt
  have hbD := h.bD
  refine { c0 := ?_, c1 := ?_, f0 := ?_, f1 := ?_, bD := h.bD, mc := h.mc, cm := h.cm, bytes := ?_, g := ?_, isErr := h.isErr }
  · rw [hb.cell hl]; exact h.c0
  · rw [hb.cell hl]; exact h.c1
  · rw [hb.frozen hl]; exact h.f0
  · rw [hb.frozen hl]; exact h.f1
  · obtain ⟨zs, hz, hc, hw⟩ := h.bytes
    exact ⟨zs, hz, fun i hi => by rw [hb.cell (p := ⟨b, off + i, none⟩) (by show b < _; omega)]; exact hc i hi, hw⟩
  · rw [hb.cell (p := ⟨0, 0, none⟩) (by show 0 < _; omega)]; exact h.g
theorem DecAt.below {D b : Nat} {errS : Value} {w w' : World} (h : DecAt D b errS w) (hb : Below w.heap.size w w') : DecAt D b errS w' := by
  obtain ⟨off, m, c, er, hd⟩ := h
  exact ⟨off, m, c, er, hd.below hb⟩
theorem DecAt.lt {D b : Nat} {errS : Value} {w : World} (h : DecAt D b errS w) : D < w.heap.size := by
  obtain ⟨off, m, c, er, hd⟩ := h
  exact hd.lt

set_option maxHeartbeats 800000 in
theorem uint32_any (D b : Nat) (T : TypeId) (v : Value) (w : World) (h : DecAt D b (.iface T v) w) :
    Calls Ybaf.prog 17 #[.pointer (some ⟨D, 0, none⟩)] w fun e w' => (∃ x, e = .returned (.int .u32 x) ∧ (Lit.int .u32 x).wf = true) ∧ DecAt D b (.iface T v) w' ∧ Below D w w' := by
  obtain ⟨off, m, c, er, hd⟩ := h
  have H : Hid (Dec D b (.iface T v) w off m c er) := hd
  clear hd
  have hnn : ∀ (a : Option Addr) (n c : Nat) (w : World), (binOp .neq 22 (.slice a n c) (.slice none 0 0)).run Ybaf.prog w = .ok (.bool (!a.isNone)) w := fun a n c w => run_neq_slice_nil_any w 22 5 a n c 0 0 Ybaf.underlying22
  go_enter Ybaf.func17, Ybaf.ntmps17
  go_wp2_with fail
  refine (bytes_any D b T v off m c er 4 _ H.out (by omega) (by omega)).mono ?_
  rintro e w1 ⟨r, rfl, hcut, hdec, hb⟩
  have HD : Hid (DecAt D b (.iface T v) w1) := hdec
  have HB : Hid (Below D w w1) := hb
  clear hdec hb
  rcases hcut with rfl | ⟨k, c', rfl, hk, hkm, hkc, hc'⟩
  · go_wp2
    go_ret
    exact ⟨⟨_, rfl, by decide⟩, HD.out, HB.out⟩
  · obtain rfl : k = 4 := by omega
    obtain ⟨zs, hzl, hzc, hzw⟩ := H.out.bytes
    have hbD := H.out.bD
    have k0 : w1.cell? ⟨b, off, none⟩ = some (.int .u8 (zs.getD 0 0)) := by rw [HB.out.cell (p := ⟨b, off, none⟩) hbD]; exact hzc 0 (by omega)
    have k1 : w1.cell? ⟨b, off + 1, none⟩ = some (.int .u8 (zs.getD 1 0)) := by rw [HB.out.cell (p := ⟨b, off + 1, none⟩) hbD]; exact hzc 1 (by omega)
    have k2 : w1.cell? ⟨b, off + 2, none⟩ = some (.int .u8 (zs.getD 2 0)) := by rw [HB.out.cell (p := ⟨b, off + 2, none⟩) hbD]; exact hzc 2 (by omega)
    have k3 : w1.cell? ⟨b, off + 3, none⟩ = some (.int .u8 (zs.getD 3 0)) := by rw [HB.out.cell (p := ⟨b, off + 3, none⟩) hbD]; exact hzc 3 (by omega)
    have HU := Uint32_any b off c' _ _ _ _ w1 k0 k1 k2 k3
    have HU' : Hid _ := HU
    clear k0 k1 k2 k3 hzc hzw HU hzl
    go_wp2_with fail
    refine Calls.mono HU'.out ?_
    rintro e w2 ⟨⟨x, rfl, hx⟩, hb2⟩
    have HD2 : Hid (DecAt D b (.iface T v) w2) := HD.out.below hb2
    have HB2 : Hid (Below D w w2) := HB.out.trans (hb2.mono (Nat.le_of_lt HD.out.lt))
    clear hb2
    go_wp2
    go_ret
    exact ⟨⟨_, rfl, hx⟩, HD2.out, HB2.out⟩

/-- The conversion of what 'bytes' cut off into a string. -/
theorem conv_cut (D b : Nat) (errS : Value) (off m c : Nat) (er : Value) (n : Int) (r : Value) (w w1 : World) (h : Dec D b errS w off m c er) (hr : Cut b off m n r) (hb : Below D w w1) :
    ∃ s, (convert 22 9 r).run Ybaf.prog w1 = .ok (.string s) w1 := by
  rcases hr with rfl | ⟨k, c', rfl, hk, hkm, hkc, hc'⟩
  · exact ⟨_, run_convert_bytes_nil w1 22 5 Ybaf.underlying22 Ybaf.underlying5 0 0 9 Ybaf.underlying9⟩
  · obtain ⟨zs, hzl, hzc, hzw⟩ := h.bytes
    refine ⟨strOfNums (zs.take k), run_convert_bytes_arg w1 22 5 Ybaf.underlying22 Ybaf.underlying5 b off k c' (zs.take k) (by rw [List.length_take]; omega) (fun i hi => ?_) 9 Ybaf.underlying9⟩
    rw [hb.cell (p := ⟨b, off + i, none⟩) h.bD, hzc i (by omega)]
    simp [List.getD, hi]

set_option maxHeartbeats 800000 in
theorem string_any (D b : Nat) (T : TypeId) (v : Value) (w : World) (h : DecAt D b (.iface T v) w) :
    Calls Ybaf.prog 10 #[.pointer (some ⟨D, 0, none⟩)] w fun e w' => (∃ s, e = .returned (.string s)) ∧ DecAt D b (.iface T v) w' ∧ Below D w w' := by
  have H : Hid (DecAt D b (.iface T v) w) := h
  clear h
  go_enter Ybaf.func10, Ybaf.ntmps10
  go_wp2_with fail
  refine (uint32_any D b T v _ H.out).mono ?_
  rintro e w1 ⟨⟨x, rfl, hx⟩, hd, hb⟩
  have hx' := bounds_u32 hx
  have hx0 := hx'.1
  have hx1 := hx'.2
  clear hx' hx
  obtain ⟨off, m, c, er, hd⟩ := hd
  have HD : Hid (Dec D b (.iface T v) w1 off m c er) := hd
  have HB : Hid (Below D w w1) := hb
  clear hd hb
  go_wp2_with fail
  refine (bytes_any D b T v off m c er _ _ HD.out hx0 hx1).mono ?_
  rintro e w2 ⟨r, rfl, hcut, hdec, hb2⟩
  obtain ⟨s, hs⟩ := conv_cut D b _ off m c er _ r w1 w2 HD.out hcut hb2
  have HD2 : Hid (DecAt D b (.iface T v) w2) := hdec
  have HB2 : Hid (Below D w w2) := HB.out.trans hb2
  clear hdec hb2 hcut
  go_wp2
  go_ret
  exact ⟨⟨_, rfl⟩, HD2.out, HB2.out⟩

set_option maxHeartbeats 800000 in
theorem close_any (D b : Nat) (T : TypeId) (v : Value) (w : World) (h : DecAt D b (.iface T v) w) :
    Calls Ybaf.prog 11 #[.pointer (some ⟨D, 0, none⟩)] w fun e w' => (∃ er, e = .returned er ∧ IsErr er) ∧ Below D w w' := by
  obtain ⟨off, m, c, er, hd⟩ := h
  have H : Hid (Dec D b (.iface T v) w off m c er) := hd
  have c0 := hd.c0
  have c1 := hd.c1
  have f1 := hd.f1
  have cm := hd.cm
  have mc := hd.mc
  have he := hd.isErr
  have hlt := hd.lt
  clear hd
  rcases he with rfl | ⟨T', v', rfl⟩
  · by_cases hm : (0 : Int) < m
    · go_enter Ybaf.func11, Ybaf.ntmps11
      go_wp2_with fail
      refine (errorfB m w.heap.size _ (by go_simp)).mono ?_
      rintro e w1 ⟨⟨a, rfl⟩, hb⟩
      have hDl : D < w.heap.size + 1 := by omega
      have c1' : w1.cell? ⟨D, 1, none⟩ = some .nilIface := by rw [hb.cell (by simpa using hDl), World.cell?_alloc_lt _ _ _ hlt]; exact c1
      have f1' : w1.frozen? ⟨D, 1, none⟩ = false := by rw [hb.frozen (by simpa using hDl), World.frozen?_alloc_past _ _ _ hlt]; exact f1
      have HB : Hid (Below D w w1) := ((Below.refl D w).alloc (Nat.le_of_lt hlt) _).trans (hb.mono (by simp; omega))
      clear hb c1 f1 c0
      go_wp2
      go_ret
      exact ⟨⟨_, rfl, .inr ⟨_, _, rfl⟩⟩, HB.out.setCell (p := ⟨D, 1, none⟩) (Nat.le_refl D) _⟩
    · go_enter Ybaf.func11, Ybaf.ntmps11
      go_wp2
      go_ret
      exact ⟨⟨_, rfl, .inl rfl⟩, Below.refl _ _⟩
  · go_enter Ybaf.func11, Ybaf.ntmps11
    go_wp2
    go_ret
    exact ⟨⟨_, rfl, .inr ⟨_, _, rfl⟩⟩, Below.refl _ _⟩
end Go.Proofs.YbulkapsyFmt
