/-
  (f8) bytes.Equal and the walk of (f3) LawS2066BEncodes.
-/
import Derived.Test.YbulkaptmGroup
import Derived.Test.YbulkaptmOwnAny
import Derived.Laws.BytesArg
import Derived.Deep.DeepCutAuto
namespace Go.Proofs.Ybulkaptm
open Go.RowKit
set_option linter.unusedVariables false

theorem conv_own (B n : Nat) (sv : Value) (zs : List Int) (w : World) (h : w.ownsRow B 5 1 sv n (zs.map (Value.int .u8))) : (convert 28 9 sv).run Yba.prog w = .ok (.string (strOfNums zs)) w := by
  have hl : zs.length = n := by simpa using h.1
  rcases h.2 with ⟨rfl, rfl⟩ | ⟨g, cap, cur, rfl, _, _, _⟩
  · rw [List.eq_nil_of_length_eq_zero hl]
    exact run_convert_bytes_nil w 28 5 Yba.underlying28 Yba.underlying5 0 0 9 Yba.underlying9
  · refine run_convert_bytes_arg w 28 5 Yba.underlying28 Yba.underlying5 g 0 n cap zs hl (fun i hi => ?_) 9 Yba.underlying9
    rw [Nat.zero_add, h.cellAt i (by omega)]
    simp [List.getD, List.getElem?_eq_getElem (show i < zs.length by omega)]

/-- (f8) bytes.Equal of two rows that hold the same bytes. -/
theorem equal_same (B B' n n' : Nat) (sv sv' : Value) (zs : List Int) (w : World) (h : w.ownsRow B 5 1 sv n (zs.map (Value.int .u8))) (h' : w.ownsRow B' 5 1 sv' n' (zs.map (Value.int .u8))) :
    Calls Yba.prog 8 #[sv, sv'] w fun e w' => e = .returned (.bool true) ∧ w' = w := by
  have c1 := conv_own B n sv zs w h
  have c2 := conv_own B' n' sv' zs w h'
  clear h h'
  go_enter Yba.func8, Yba.ntmps8
  go_wp2
  go_ret
  exact ⟨rfl, rfl⟩

theorem shape {w : World} {B n : Nat} {sv : Value} {xs : List Value} (h : w.ownsRow B 5 1 sv n xs) : ∃ ao cp, sv = .slice ao n cp := by
  rcases h.2 with ⟨h1, h2⟩ | ⟨g, cap, cur, h1, _⟩
  · exact ⟨none, 0, by rw [h1, h2]⟩
  · exact ⟨_, _, h1⟩
theorem zero_cell (w : World) (u : Value) : ∀ j v, [u][j]? = some v → (w.alloc (.cells #[u] 5)).cell? ((⟨w.heap.size, 0, none⟩ : Addr).add j) = some v := by
  intro j v hj
  match j, hj with
  | 0, hj => simp at hj; subst hj; simp [Addr.add]

set_option maxRecDepth 100000 in
set_option maxHeartbeats 6400000 in
theorem law_row (name : ByteArray) (code vendor typ : Int) (mand : Bool) (b off len cap : Nat) (avs : List Avp) (W : World) (hll : avs.length = len) (hl : len ≤ 256) (hdl : ∀ a ∈ avs, a.dl ≤ maxLen)
    (hat : ∀ i (h : i < avs.length), (avs[i]).At W b (off + i * 4) ∧ (avs[i]).Fits W) :
    Calls Yba.prog 3 #[.string name, .int .u32 code, .int .u32 vendor, .bool mand, .int .u8 typ, .slice (some ⟨b, off, none⟩) len cap] W fun e w' => e = .returned (.bool true) ∧ Below W.heap.size W w' := by
  obtain ⟨i0, hi, hz0, hz1, hz2⟩ := info_parts info5
  have HA : Hid (∀ i (h : i < avs.length), (avs[i]).At W b (off + i * 4) ∧ (avs[i]).Fits W) := hat
  have HD : Hid (∀ a ∈ avs, a.dl ≤ maxLen) := hdl
  clear hat hdl
  go_enter Yba.func3, Yba.ntmps3
  go_wp2_with fail
  refine (small_any b off len cap avs _ hll hl HA.out HD.out).mono ?_
  rintro e w0 ⟨hs | ⟨hs, hsm⟩, rfl⟩
  · subst hs
    go_wp2
    go_ret
    exact ⟨rfl, Below.refl _ _⟩
  subst hs
  have HS : Hid (∀ a ∈ avs, a.dl ≤ 1048576) := hsm
  clear hsm HD
  go_wp2_with fail
  have HB0 : Hid (Below w0.heap.size w0 (w0.alloc (.cells #[.string name, .int .u32 code, .int .u32 vendor, .bool mand, .int .u8 typ] 27))) := (Below.refl _ w0).alloc (Nat.le_refl _) _
  refine (Group_any name code vendor typ mand b off len cap avs _ hll hl HS.out (fun i h => ⟨(HA.out i h).1.below HB0.out, (HA.out i h).2.below HB0.out⟩)).mono ?_
  rintro e w1 ⟨g, T, hT, rfl, hown, hb⟩
  have HT : Hid (T = total avs) := hT
  have HO1 : Hid (w1.ownsRow w0.heap.size 5 1 (.slice (some ⟨g, 0, none⟩) T T) T ((encAll avs).map (Value.int .u8))) := ⟨hown.1, by
    rcases hown.2 with h | ⟨g', c', cur, h1, h2, h3⟩
    · exact .inl h
    · exact .inr ⟨g', c', cur, h1, by simp at h2; omega, h3⟩⟩
  have HB1 : Hid (Below w0.heap.size w0 w1) := HB0.out.trans (hb.mono (by simp))
  clear hown hb hT HB0
  have e1 : bits BinOp.or IntKind.u8 0 128 = 128 := by decide
  have e2 : bits BinOp.or IntKind.u8 128 64 = 192 := by decide
  have e3 : bits BinOp.or IntKind.u8 0 64 = 64 := by decide
  obtain ⟨f1, hf1⟩ : ∃ f1 : Int, f1 = if vendor = 0 then 0 else 128 := ⟨_, rfl⟩
  obtain ⟨fl, hfl⟩ : ∃ fl : Int, fl = aflags vendor mand := ⟨_, rfl⟩
  rw [← hfl]
  have HF1 : Hid (f1 = if vendor = 0 then 0 else 128) := hf1
  have HFL : Hid (fl = f1 + if mand then 64 else 0) := by show fl = _; rw [hfl, hf1]; rfl
  clear hf1 hfl
  go_upto_if 34 with fail
  go_cut [15] (fun s15 wc => s15 = .int .u8 f1 ∧ wc = w1.alloc (.cells #[.int .u32 code, .int .u8 fl, .int .u32 vendor, .slice (some ⟨g, 0, none⟩) T T] 30))
  case first =>
    rcases (show (vendor != 0) = true ∨ (vendor != 0) = false by cases (vendor != 0) <;> simp) with hv | hv
    · go_wp2_with fail
      go_meet
      case rel => exact ⟨by rw [HF1.out, if_neg (bne_iff_ne.1 hv)], rfl⟩
    · go_wp2_with fail
      go_meet
      case rel => exact ⟨by rw [HF1.out, if_pos (by simpa using hv)], rfl⟩
  case rest =>
    obtain ⟨rfl, rfl⟩ := hcut
    go_upto_if 37 with fail
    go_cut [15] (fun s15 wc => s15 = .int .u8 fl ∧ wc = w1.alloc (.cells #[.int .u32 code, .int .u8 fl, .int .u32 vendor, .slice (some ⟨g, 0, none⟩) T T] 30))
    case first =>
      cases mand
      · go_wp2_with fail
        go_meet
        case rel => exact ⟨by rw [HFL.out]; simp, rfl⟩
      · have hv : f1 = 0 ∨ f1 = 128 := by rw [HF1.out]; split <;> simp
        rcases hv with hv | hv
        · subst hv
          go_wp2_with fail
          go_meet
          case rel => exact ⟨by rw [HFL.out]; rfl, rfl⟩
        · subst hv
          go_wp2_with fail
          go_meet
          case rel => exact ⟨by rw [HFL.out]; rfl, rfl⟩
    case rest =>
      obtain ⟨rfl, rfl⟩ := hcut
      have HBB : Hid (Below w0.heap.size w0 (w1.alloc (.cells #[.int .u32 code, .int .u8 fl, .int .u32 vendor, .slice (some ⟨g, 0, none⟩) T T] 30))) := HB1.out.alloc HB1.out.size _
      have hs1 := HB1.out.size
      clear HB1
      go_wp2_with fail
      go_loopw [16, 17] (fun x i wr => ∃ (k : Nat) (ao : Option Addr) (n cp : Nat), k ≤ len ∧ i = .int .i64 k ∧ Hid (n = total (avs.take k)) ∧ x = .slice ao n cp ∧
          Hid (wr.ownsRow (w1.heap.size + 1) 5 1 (.slice ao n cp) n ((encAll (avs.take k)).map (Value.int .u8))) ∧
          Hid (Below (w1.heap.size + 1) (w1.alloc (.cells #[.int .u32 code, .int .u8 fl, .int .u32 vendor, .slice (some ⟨g, 0, none⟩) T T] 30)) wr)) (fun _ i _ => len - (intOf i).toNat)
      case atStart => exact ⟨0, none, 0, 0, Nat.zero_le _, rfl, rfl, rfl, World.ownsRow_nil _ _ _ _, Below.refl _ _⟩
      case round =>
        obtain ⟨k, ao, n, cp, hk, rfl, hn, rfl, HO, HB⟩ := hrel
        have hsr : w1.heap.size + 1 ≤ wr.heap.size := by have := HB.out.size; simpa using this
        by_cases hlt : k < len
        · have HBw : Hid (Below w0.heap.size w0 wr) := HBB.out.trans (HB.out.mono (by omega))
          have hA := (HA.out k (by omega)).1.below HBw.out
          have hF := (HA.out k (by omega)).2.ok (HS.out _ (List.getElem_mem _))
          have htt := total_take avs k (by omega)
          have htl := Nat.le_trans (total_take_le avs k) (total_le avs HS.out)
          have hee := encAll_take avs k (by omega)
          obtain ⟨a, ha⟩ : ∃ a, a = avs[k]'(by omega) := ⟨_, rfl⟩
          rw [← ha] at hA hF htt hee
          have hn1 : n ≤ 300000000 := by rw [hn.out]; omega
          have HT2 : Hid (n + elen a = total (avs.take (k + 1))) := by show n + elen a = _; rw [htt, hn.out]
          have HE : Hid (encAll (avs.take (k + 1)) = encAll (avs.take k) ++ enc a) := hee
          obtain ⟨ys, hys⟩ : ∃ ys, ys = (encAll (avs.take k)).map (Value.int .u8) := ⟨_, rfl⟩
          have HY : Hid (ys = (encAll (avs.take k)).map (Value.int .u8)) := hys
          have HOy : Hid (wr.ownsRow (w1.heap.size + 1) 5 1 (.slice ao n cp) n ys) := by show wr.ownsRow _ _ _ _ _ ys; rw [hys]; exact HO.out
          have h0 := hA.c0
          have h1 := hA.c1
          have h2 := hA.c2
          have h3 := hA.c3
          obtain ⟨code', flags, vnd, da, dl, dc, data⟩ := a
          have HF : Hid (Avp.Ok ⟨code', flags, vnd, da, dl, dc, data⟩ w0) := hF
          have hdl : dl ≤ 1048576 := hF.small
          have hc0 : 0 ≤ code' := hF.c0
          have hc1 : code' < 4294967296 := hF.c1
          have hf0 : 0 ≤ flags := hF.f0
          have hf1' : flags ≤ 255 := hF.f1
          simp only at h0 h1 h2 h3
          clear ha hA hF htt htl hee HO hys hn
          have H0 : Hid ((wr.alloc (.cells #[.int .u32 code', .int .u8 flags, .int .u32 vnd, .slice da dl dc] 30)).heap[wr.heap.size]? = some (.cells #[.int .u32 code', .int .u8 flags, .int .u32 vnd, .slice da dl dc] 30 (0, 0))) := heap_alloc_new _ _
          cases hv : vbit flags
          · have hv' : (bits BinOp.and IntKind.u8 flags 128 != 0) = false := hv
            have HV : Hid (vbit flags = false) := hv
            have HH : Hid (hlen flags = 8) := by show hlen flags = 8; unfold hlen; rw [hv]; rfl
            clear hv
            go_wp2_with fail
            refine (put32_any code' hc0 hc1 (w1.heap.size + 1) n _ ys _ (HOy.out.alloc _) (by simp; omega) (by omega)).mono ?_
            rintro e w2 ⟨s2, rfl, hown2, hg2⟩
            have N2 : Hid (w2.heap[wr.heap.size]? = _) := gblock hg2 H0.out (own_ne (HOy.out.alloc _) H0.out (by decide))
            have O2 : Hid (w2.ownsRow (w1.heap.size + 1) 5 1 s2 (n + 4) (ys ++ (be32 code').map (Value.int .u8))) := hown2
            have B2 : Hid (Below (w1.heap.size + 1) wr w2) := ((Below.refl _ wr).alloc hsr _).grown hg2 (by simp; omega) (fun k hk => (HOy.out.lt k hk).1)
            have hs2 : wr.heap.size ≤ w2.heap.size := B2.out.size
            have c1 : w2.cell? ⟨wr.heap.size, 1, none⟩ = some (.int .u8 flags) := cellOf N2.out
            have c3 : w2.cell? ⟨wr.heap.size, 3, none⟩ = some (.slice da dl dc) := cellOf N2.out
            clear hown2 hg2 H0 HOy h0 h1 h2 h3
            have Hb2 : Hid (0 ≤ bits BinOp.or IntKind.u32 (flags * 16777216) (8 + (dl : Int)) ∧ bits BinOp.or IntKind.u32 (flags * 16777216) (8 + (dl : Int)) < 4294967296) := bits_u32_bounds _ _ _
            have HW2 : Hid (word2 flags dl = bits BinOp.or IntKind.u32 (flags * 16777216) (8 + (dl : Int))) := by show word2 flags dl = _; unfold word2; rw [HH.out]; rfl
            go_wp2_with fail
            refine (put32_any _ Hb2.out.1 Hb2.out.2 (w1.heap.size + 1) (n + 4) _ _ _ O2.out (by omega) (by omega)).mono ?_
            rintro e w3 ⟨s3, rfl, hown3, hg3⟩
            have N3 : Hid (w3.heap[wr.heap.size]? = _) := gblock hg3 N2.out (own_ne O2.out N2.out (by decide))
            have O3 : Hid (w3.ownsRow (w1.heap.size + 1) 5 1 s3 (n + 4 + 4) (ys ++ (be32 code').map (Value.int .u8) ++ (be32 (word2 flags dl)).map (Value.int .u8))) := by rw [HW2.out]; exact hown3
            have B3 : Hid (Below (w1.heap.size + 1) wr w3) := B2.out.grown hg3 (by omega) (fun k hk => (O2.out.lt k hk).1)
            have hs3 : wr.heap.size ≤ w3.heap.size := B3.out.size
            have k3 : w3.cell? ⟨wr.heap.size, 3, none⟩ = some (.slice da dl dc) := cellOf N3.out
            have W4 : Hid (Below w0.heap.size w0 w3) := HBw.out.trans (B3.out.mono (by omega))
            clear hown3 hg3 N2 O2 B2 c1 c3 hs2 Hb2
            go_wp2_with (at_builtin; refine wpList_append_own_any _ rfl _ _ 28 rfl (w1.heap.size + 1) 5 i0 (.int .u8 0) 1 1 Yba.underlying28 hi hz0 hz1 hz2 rfl (by decide) _ _ _ rfl O3.out da dl dc ((data.take dl).map (Value.int .u8)) rfl ?ff0 ?ff1 ?ff2 ?ff3 ?ff4 ?ff5 ?ff6 ?_)
            case ff0 => simpa using HF.out.row.take_length
            case ff1 => exact HF.out.row.none
            case ff2 => exact HF.out.row.cells W4.out
            case ff3 => exact ints_oneCell _ _
            case ff4 => unfold maxLen; omega
            case ff5 => omega
            case ff6 => omega
            intro s5 w5 hown5 hg5
            have N5 : Hid (w5.heap[wr.heap.size]? = _) := gblock hg5 N3.out (own_ne O3.out N3.out (by decide))
            obtain ⟨zs, hzs⟩ : ∃ zs, zs = ys ++ (be32 code').map (Value.int .u8) ++ (be32 (word2 flags dl)).map (Value.int .u8) ++ (data.take dl).map (Value.int .u8) := ⟨_, rfl⟩
            have O5 : Hid (w5.ownsRow (w1.heap.size + 1) 5 1 s5 (n + 4 + 4 + dl) zs) := by show w5.ownsRow _ _ _ _ _ zs; rw [hzs]; simpa using hown5
            have HZ : Hid (zs = ys ++ (be32 code').map (Value.int .u8) ++ (be32 (word2 flags dl)).map (Value.int .u8) ++ (data.take dl).map (Value.int .u8)) := hzs
            have B5 : Hid (Below (w1.heap.size + 1) wr w5) := B3.out.grown hg5 (by omega) (fun k hk => (O3.out.lt k hk).1)
            have hs5 : wr.heap.size ≤ w5.heap.size := B5.out.size
            have k5 : w5.cell? ⟨wr.heap.size, 3, none⟩ = some (.slice da dl dc) := cellOf N5.out
            clear hown5 hg5 N3 O3 B3 k3 hs3 W4 hzs N5
            obtain ⟨wo, rfl⟩ : ∃ wo : World, wo = wr := ⟨_, rfl⟩
            go_wp2_with fail
            go_loopw [16, 20] (fun x i wr => ∃ (j : Nat) (sv : Value), j ≤ pad dl ∧ i = .int .i64 ((dl + j : Nat) : Int) ∧ sv = x ∧
                Hid (wr.ownsRow (w1.heap.size + 1) 5 1 sv (n + 4 + 4 + dl + j) (zs ++ List.replicate j (.int .u8 0))) ∧ Hid (Below (w1.heap.size + 1) wo wr)) (fun _ i _ => dl + pad dl - (intOf i).toNat)
            case atStart => exact ⟨0, s5, Nat.zero_le _, rfl, rfl, (by show World.ownsRow _ _ _ _ _ _ _; simpa using O5.out), B5.out⟩
            case round =>
              obtain ⟨j, sv, hj, rfl, rfl, OJ, BJ⟩ := hrel
              have hsj : wo.heap.size ≤ wr.heap.size := BJ.out.size
              have hpad : pad dl = (dl + 3) / 4 * 4 - dl := rfl
              clear O5 B5 k5
              by_cases hj4 : (dl + j) % 4 = 0
              · have hjp : j = pad dl := by omega
                obtain ⟨ao', cp', hsv⟩ := shape OJ.out
                have Hn : Hid (n + 4 + 4 + dl + j = total (avs.take (k + 1))) := by
                  show n + 4 + 4 + dl + j = _
                  rw [← HT2.out]
                  show n + 4 + 4 + dl + j = n + (hlen flags + (dl + 3) / 4 * 4)
                  rw [HH.out]
                  omega
                have OF : Hid (wr.ownsRow (w1.heap.size + 1) 5 1 (.slice ao' (n + 4 + 4 + dl + j) cp') (n + 4 + 4 + dl + j) ((encAll (avs.take (k + 1))).map (Value.int .u8))) := by
                  show World.ownsRow _ _ _ _ _ _ _
                  have := OJ.out
                  rw [HE.out, List.map_append, ← HY.out, enc_false (a := ⟨code', flags, vnd, da, dl, dc, data⟩) HV.out ys, ← hsv, show pad dl = j from hjp.symm]
                  rw [HZ.out] at this
                  exact this
                have HSV : Hid (sv = .slice ao' (n + 4 + 4 + dl + j) cp') := hsv
                have BF : Hid (Below (w1.heap.size + 1) (w1.alloc (.cells #[.int .u32 code, .int .u8 fl, .int .u32 vendor, .slice (some ⟨g, 0, none⟩) T T] 30)) wr) := HB.out.trans BJ.out
                clear hsv OJ BJ hjp
                go_wp2_with fail
                go_roundw
                case rel => exact ⟨k + 1, ao', _, cp', by omega, by go_num, Hn, HSV.out, OF, BF⟩
                case measure => simp [intOf]; omega
              · have hj4' : ((((dl + j : Nat) : Int) % 4 != 0)) = true := by rw [bne_iff_ne]; omega
                go_wp2_with (at_builtin; refine wpList_append_own _ rfl _ _ 28 rfl (w1.heap.size + 1) 5 i0 (.int .u8 0) 1 1 Yba.underlying28 hi hz0 hz1 hz2 rfl (by decide) _ _ _ rfl (OJ.out.alloc _) ⟨wr.heap.size, 0, none⟩ 1 1 [.int .u8 0] rfl rfl ?gg1 ?gg2 ?gg3 ?gg4 ?gg5 ?_)
                case gg1 => exact zero_cell _ _
                case gg2 => intro u hu; simp at hu; subst hu; rfl
                case gg3 => unfold maxLen; omega
                case gg4 => omega
                case gg5 => simp; omega
                intro s6 w6 hown6 hg6 _
                have O6 : Hid (w6.ownsRow (w1.heap.size + 1) 5 1 s6 (n + 4 + 4 + dl + (j + 1)) (zs ++ List.replicate (j + 1) (.int .u8 0))) := by
                  show World.ownsRow _ _ _ _ _ _ _
                  have := hown6
                  rw [← List.replicate_succ'] at this
                  exact this
                have B6 : Hid (Below (w1.heap.size + 1) wo w6) := (BJ.out.alloc (by omega) _).grown hg6 (by simp; omega) (fun k hk => (OJ.out.lt k hk).1)
                clear hown6 hg6 OJ BJ
                go_wp2_with fail
                go_roundw
                case rel => exact ⟨j + 1, s6, by omega, by go_num, rfl, O6, B6⟩
                case measure => simp [intOf]; omega
          · have hv' : (bits BinOp.and IntKind.u8 flags 128 != 0) = true := hv
            have HV : Hid (vbit flags = true) := hv
            have HH : Hid (hlen flags = 12) := by show hlen flags = 12; unfold hlen; rw [hv]; rfl
            clear hv
            go_wp2_with fail
            refine (put32_any code' hc0 hc1 (w1.heap.size + 1) n _ ys _ (HOy.out.alloc _) (by simp; omega) (by omega)).mono ?_
            rintro e w2 ⟨s2, rfl, hown2, hg2⟩
            have N2 : Hid (w2.heap[wr.heap.size]? = _) := gblock hg2 H0.out (own_ne (HOy.out.alloc _) H0.out (by decide))
            have O2 : Hid (w2.ownsRow (w1.heap.size + 1) 5 1 s2 (n + 4) (ys ++ (be32 code').map (Value.int .u8))) := hown2
            have B2 : Hid (Below (w1.heap.size + 1) wr w2) := ((Below.refl _ wr).alloc hsr _).grown hg2 (by simp; omega) (fun k hk => (HOy.out.lt k hk).1)
            have hs2 : wr.heap.size ≤ w2.heap.size := B2.out.size
            have c1 : w2.cell? ⟨wr.heap.size, 1, none⟩ = some (.int .u8 flags) := cellOf N2.out
            have c3 : w2.cell? ⟨wr.heap.size, 3, none⟩ = some (.slice da dl dc) := cellOf N2.out
            clear hown2 hg2 H0 HOy h0 h1 h2 h3
            have Hb2 : Hid (0 ≤ bits BinOp.or IntKind.u32 (flags * 16777216) (12 + (dl : Int)) ∧ bits BinOp.or IntKind.u32 (flags * 16777216) (12 + (dl : Int)) < 4294967296) := bits_u32_bounds _ _ _
            have HW2 : Hid (word2 flags dl = bits BinOp.or IntKind.u32 (flags * 16777216) (12 + (dl : Int))) := by show word2 flags dl = _; unfold word2; rw [HH.out]; rfl
            go_wp2_with fail
            refine (put32_any _ Hb2.out.1 Hb2.out.2 (w1.heap.size + 1) (n + 4) _ _ _ O2.out (by omega) (by omega)).mono ?_
            rintro e w3 ⟨s3, rfl, hown3, hg3⟩
            have N3 : Hid (w3.heap[wr.heap.size]? = _) := gblock hg3 N2.out (own_ne O2.out N2.out (by decide))
            have O3 : Hid (w3.ownsRow (w1.heap.size + 1) 5 1 s3 (n + 4 + 4) (ys ++ (be32 code').map (Value.int .u8) ++ (be32 (word2 flags dl)).map (Value.int .u8))) := by rw [HW2.out]; exact hown3
            have B3 : Hid (Below (w1.heap.size + 1) wr w3) := B2.out.grown hg3 (by omega) (fun k hk => (O2.out.lt k hk).1)
            have hs3 : wr.heap.size ≤ w3.heap.size := B3.out.size
            have d2 : w3.cell? ⟨wr.heap.size, 2, none⟩ = some (.int .u32 vnd) := cellOf N3.out
            clear hown3 hg3 N2 O2 B2 c1 c3 hs2 Hb2
            go_wp2_with fail
            refine (put32_any vnd HF.out.v0 HF.out.v1 (w1.heap.size + 1) (n + 4 + 4) _ _ _ O3.out (by omega) (by omega)).mono ?_
            rintro e w4 ⟨s4, rfl, hown4, hg4⟩
            have N4 : Hid (w4.heap[wr.heap.size]? = _) := gblock hg4 N3.out (own_ne O3.out N3.out (by decide))
            have O4 : Hid (w4.ownsRow (w1.heap.size + 1) 5 1 s4 (n + 4 + 4 + 4) (ys ++ (be32 code').map (Value.int .u8) ++ (be32 (word2 flags dl)).map (Value.int .u8) ++ (be32 vnd).map (Value.int .u8))) := hown4
            have B4 : Hid (Below (w1.heap.size + 1) wr w4) := B3.out.grown hg4 (by omega) (fun k hk => (O3.out.lt k hk).1)
            have hs4 : wr.heap.size ≤ w4.heap.size := B4.out.size
            have k3 : w4.cell? ⟨wr.heap.size, 3, none⟩ = some (.slice da dl dc) := cellOf N4.out
            have W4 : Hid (Below w0.heap.size w0 w4) := HBw.out.trans (B4.out.mono (by omega))
            clear hown4 hg4 N3 O3 B3 d2 hs3
            go_wp2_with (at_builtin; refine wpList_append_own_any _ rfl _ _ 28 rfl (w1.heap.size + 1) 5 i0 (.int .u8 0) 1 1 Yba.underlying28 hi hz0 hz1 hz2 rfl (by decide) _ _ _ rfl O4.out da dl dc ((data.take dl).map (Value.int .u8)) rfl ?f0 ?f1 ?f2 ?f3 ?f4 ?f5 ?f6 ?_)
            case f0 => simpa using HF.out.row.take_length
            case f1 => exact HF.out.row.none
            case f2 => exact HF.out.row.cells W4.out
            case f3 => exact ints_oneCell _ _
            case f4 => unfold maxLen; omega
            case f5 => omega
            case f6 => omega
            intro s5 w5 hown5 hg5
            have N5 : Hid (w5.heap[wr.heap.size]? = _) := gblock hg5 N4.out (own_ne O4.out N4.out (by decide))
            obtain ⟨zs, hzs⟩ : ∃ zs, zs = ys ++ (be32 code').map (Value.int .u8) ++ (be32 (word2 flags dl)).map (Value.int .u8) ++ (be32 vnd).map (Value.int .u8) ++ (data.take dl).map (Value.int .u8) := ⟨_, rfl⟩
            have O5 : Hid (w5.ownsRow (w1.heap.size + 1) 5 1 s5 (n + 4 + 4 + 4 + dl) zs) := by show w5.ownsRow _ _ _ _ _ zs; rw [hzs]; simpa using hown5
            have HZ : Hid (zs = ys ++ (be32 code').map (Value.int .u8) ++ (be32 (word2 flags dl)).map (Value.int .u8) ++ (be32 vnd).map (Value.int .u8) ++ (data.take dl).map (Value.int .u8)) := hzs
            have B5 : Hid (Below (w1.heap.size + 1) wr w5) := B4.out.grown hg5 (by omega) (fun k hk => (O4.out.lt k hk).1)
            have hs5 : wr.heap.size ≤ w5.heap.size := B5.out.size
            have k5 : w5.cell? ⟨wr.heap.size, 3, none⟩ = some (.slice da dl dc) := cellOf N5.out
            clear hown5 hg5 N4 O4 B4 k3 hs4 W4 hzs N5
            obtain ⟨wo, rfl⟩ : ∃ wo : World, wo = wr := ⟨_, rfl⟩
            go_wp2_with fail
            go_loopw [16, 20] (fun x i wr => ∃ (j : Nat) (sv : Value), j ≤ pad dl ∧ i = .int .i64 ((dl + j : Nat) : Int) ∧ sv = x ∧
                Hid (wr.ownsRow (w1.heap.size + 1) 5 1 sv (n + 4 + 4 + 4 + dl + j) (zs ++ List.replicate j (.int .u8 0))) ∧ Hid (Below (w1.heap.size + 1) wo wr)) (fun _ i _ => dl + pad dl - (intOf i).toNat)
            case atStart => exact ⟨0, s5, Nat.zero_le _, rfl, rfl, (by show World.ownsRow _ _ _ _ _ _ _; simpa using O5.out), B5.out⟩
            case round =>
              obtain ⟨j, sv, hj, rfl, rfl, OJ, BJ⟩ := hrel
              have hsj : wo.heap.size ≤ wr.heap.size := BJ.out.size
              have hpad : pad dl = (dl + 3) / 4 * 4 - dl := rfl
              clear O5 B5 k5
              by_cases hj4 : (dl + j) % 4 = 0
              · have hjp : j = pad dl := by omega
                obtain ⟨ao', cp', hsv⟩ := shape OJ.out
                have Hn : Hid (n + 4 + 4 + 4 + dl + j = total (avs.take (k + 1))) := by
                  show n + 4 + 4 + 4 + dl + j = _
                  rw [← HT2.out]
                  show n + 4 + 4 + 4 + dl + j = n + (hlen flags + (dl + 3) / 4 * 4)
                  rw [HH.out]
                  omega
                have OF : Hid (wr.ownsRow (w1.heap.size + 1) 5 1 (.slice ao' (n + 4 + 4 + 4 + dl + j) cp') (n + 4 + 4 + 4 + dl + j) ((encAll (avs.take (k + 1))).map (Value.int .u8))) := by
                  show World.ownsRow _ _ _ _ _ _ _
                  have := OJ.out
                  rw [HE.out, List.map_append, ← HY.out, enc_true (a := ⟨code', flags, vnd, da, dl, dc, data⟩) HV.out ys, ← hsv, show pad dl = j from hjp.symm]
                  rw [HZ.out] at this
                  exact this
                have HSV : Hid (sv = .slice ao' (n + 4 + 4 + 4 + dl + j) cp') := hsv
                have BF : Hid (Below (w1.heap.size + 1) (w1.alloc (.cells #[.int .u32 code, .int .u8 fl, .int .u32 vendor, .slice (some ⟨g, 0, none⟩) T T] 30)) wr) := HB.out.trans BJ.out
                clear hsv OJ BJ hjp
                go_wp2_with fail
                go_roundw
                case rel => exact ⟨k + 1, ao', _, cp', by omega, by go_num, Hn, HSV.out, OF, BF⟩
                case measure => simp [intOf]; omega
              · have hj4' : ((((dl + j : Nat) : Int) % 4 != 0)) = true := by rw [bne_iff_ne]; omega
                go_wp2_with (at_builtin; refine wpList_append_own _ rfl _ _ 28 rfl (w1.heap.size + 1) 5 i0 (.int .u8 0) 1 1 Yba.underlying28 hi hz0 hz1 hz2 rfl (by decide) _ _ _ rfl (OJ.out.alloc _) ⟨wr.heap.size, 0, none⟩ 1 1 [.int .u8 0] rfl rfl ?g1 ?g2 ?g3 ?g4 ?g5 ?_)
                case g1 => exact zero_cell _ _
                case g2 => intro u hu; simp at hu; subst hu; rfl
                case g3 => unfold maxLen; omega
                case g4 => omega
                case g5 => simp; omega
                intro s6 w6 hown6 hg6 _
                have O6 : Hid (w6.ownsRow (w1.heap.size + 1) 5 1 s6 (n + 4 + 4 + 4 + dl + (j + 1)) (zs ++ List.replicate (j + 1) (.int .u8 0))) := by
                  show World.ownsRow _ _ _ _ _ _ _
                  have := hown6
                  rw [← List.replicate_succ'] at this
                  exact this
                have B6 : Hid (Below (w1.heap.size + 1) wo w6) := (BJ.out.alloc (by omega) _).grown hg6 (by simp; omega) (fun k hk => (OJ.out.lt k hk).1)
                clear hown6 hg6 OJ BJ
                go_wp2_with fail
                go_roundw
                case rel => exact ⟨j + 1, s6, by omega, by go_num, rfl, O6, B6⟩
                case measure => simp [intOf]; omega
        · have hwhole : avs.take k = avs := List.take_of_length_le (by omega)
          have hnT : n = T := by rw [hn.out, HT.out, hwhole]
          subst hnT
          have HO' : Hid (wr.ownsRow (w1.heap.size + 1) 5 1 (.slice ao n cp) n ((encAll avs).map (Value.int .u8))) := by
            have := HO.out
            rw [hwhole] at this
            exact this
          have c3 : wr.cell? ⟨w1.heap.size, 3, none⟩ = some (.slice (some ⟨g, 0, none⟩) n n) := by
            rw [HB.out.cell (p := ⟨w1.heap.size, 3, none⟩) (by show w1.heap.size < _; omega)]
            simp
          have hglt : g < w1.heap.size := (HO1.out.lt g rfl).2
          have HG : Hid (wr.ownsRow w0.heap.size 5 1 (.slice (some ⟨g, 0, none⟩) n n) n ((encAll avs).map (Value.int .u8))) := by
            refine ⟨HO1.out.1, ?_⟩
            rcases HO1.out.2 with h | ⟨g', c', cur, h1, h2, h3, h4⟩
            · exact .inl h
            · refine .inr ⟨g', c', cur, h1, h2, ?_, h4⟩
              simp only [Value.slice.injEq, Option.some.injEq, Addr.mk.injEq, and_true, true_and] at h1
              obtain ⟨rfl, rfl⟩ := h1
              rw [HB.out.block g (by omega), Below.heap_alloc _ _ _ hglt]
              exact h3
          have HBF : Hid (Below w0.heap.size w0 wr) := HBB.out.trans (HB.out.mono (by omega))
          clear hwhole HO hn hglt
          go_wp2_with fail
          refine (equal_same _ _ _ _ _ _ _ _ HG.out HO'.out).mono ?_
          rintro e w3 ⟨rfl, rfl⟩
          go_wp2
          go_ret
          exact ⟨rfl, HBF.out⟩
end Go.Proofs.Ybulkaptm
