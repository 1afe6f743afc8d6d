import Derived.Test.Qxb6625470aDoorWrite
namespace Go.Proofs.Qxb6625470aDoor
open Go.RowKit
set_option linter.unusedVariables false
set_option linter.unusedSimpArgs false
attribute [local go_sem] Go.wp_at_zero Go.wp_at_succ

theorem run_copy_str (w : World) (ty : TypeId) (g o dLen dCap k : Nat) (s : ByteArray) (cur : Array Value)
    (hg : w.heap[g]? = some (.cells cur 5 (0, 0))) (hk : Nat.min s.size dLen = k) (hfit : o + k ≤ cur.size) :
    (Builtin.copy_ #[22, 9] ty #[.slice (some ⟨g, o, none⟩) dLen dCap, .string s]).run Tryd.prog w =
      .ok (goInt k) (w.setRow g (cur.toList.take o ++ Lib.byteCells (s.data.toList.take k) ++ cur.toList.drop (o + k)).toArray) := by
  obtain ⟨i0, hi, hz0, hz1, hz2⟩ := info_parts Tryd.info5
  have hkm : k ≤ s.size := by rw [← hk]; exact Nat.min_le_left _ _
  have hlen : (Lib.byteCells (s.data.toList.take k)).length = k := by
    rw [Lib.byteCells_length, List.length_take, ← Lib.size_eq]; omega
  have hst := run_storeCells_at Tryd.prog g o 5 (Lib.byteCells (s.data.toList.take k)) 0 cur w hg (by rw [hlen]; simpa using hfit) (Lib.byteCells_one _)
  have htk : List.take k (List.map (fun b : UInt8 => Value.int IntKind.u8 (b.toNat : Int)) s.data.toList) = Lib.byteCells (s.data.toList.take k) := by
    rw [Lib.byteCells, List.map_take]
  rw [hlen] at hst
  simp only [Nat.add_zero] at hst
  simp [Builtin.copy_, run_underlying Tryd.underlying22, Builtin.lenOf, Builtin.firstCells, sizeOf, typeInfo, hi, hk]
  rw [htk, hst]
  simp [Result.andThen]

theorem run_copy_str0 (w : World) (ty : TypeId) (d : Option Addr) (dLen dCap : Nat) (s : ByteArray) (hk : Nat.min s.size dLen = 0) :
    (Builtin.copy_ #[22, 9] ty #[.slice d dLen dCap, .string s]).run Tryd.prog w = .ok (goInt 0) w := by
  obtain ⟨i0, hi, hz0, hz1, hz2⟩ := info_parts Tryd.info5
  cases d <;> simp [Builtin.copy_, run_underlying Tryd.underlying22, Builtin.lenOf, Builtin.firstCells, sizeOf, typeInfo, hi, hk, storeCells]

theorem put_copyS {w2 : World} {b bw bb cw : Nat} {v : Value} {bs ps : List UInt8} {s : ByteArray} (h : Pipe w2 b bw bb cw v bs ps) {n : Nat} (hn : ps.length = n) {m : Nat} (hq : s.size = m) (k : Nat) (hk : k = Nat.min m (65536 - n)) :
    ∀ (W : World) (ty : TypeId) (d : Option Addr) (dc : Nat), Same w2 W → (n < 65536 → d = some ⟨bb, n, none⟩) → ∃ W', (Builtin.copy_ #[22, 9] ty #[.slice d (65536 - n) dc, .string s]).run Tryd.prog W = .ok (.int .i64 (k : Int)) W' ∧ PutIs w2 b bw bb cw v bs (ps ++ s.data.toList.take k) n k W' := by
  intro W ty d dc hS hd
  have hP := hS.pipe h
  obtain ⟨cur, h1, h2, h3⟩ := hP.row
  have hle := h.le
  have hkm : k ≤ m := by rw [hk]; exact Nat.min_le_left _ _
  have hkr : k ≤ 65536 - n := by rw [hk]; exact Nat.min_le_right _ _
  have hsl : s.data.toList.length = m := by rw [← Lib.size_eq]; exact hq
  have hN : (ps ++ s.data.toList.take k).length = n + k := by rw [List.length_append, List.length_take, hn]; omega
  have hmain : ∃ cur', (Builtin.copy_ #[22, 9] ty #[.slice d (65536 - n) dc, .string s]).run Tryd.prog W = .ok (.int .i64 (k : Int)) (W.setRow bb cur') ∧ cur'.size = 65536 ∧ cur'.toList.take (n + k) = Lib.byteCells (ps ++ s.data.toList.take k) := by
    by_cases h0 : k = 0
    · subst h0
      refine ⟨cur, ?_, h2, by simpa [hn] using h3⟩
      rw [run_copy_str0 W ty d (65536 - n) dc s (by rw [hq, ← hk]), setRow_self W bb cur 5 (0, 0) h1]
      rfl
    · obtain rfl := hd (by omega)
      have hr := run_copy_str W ty bb n (65536 - n) dc k s cur h1 (by rw [hq, ← hk]) (by omega)
      have hl : (Lib.byteCells (s.data.toList.take k)).length = k := by rw [Lib.byteCells_length, List.length_take]; omega
      refine ⟨_, hr, ?_, ?_⟩
      · simp only [List.size_toArray, List.length_append, List.length_take, List.length_drop, Array.length_toList, hl, h2]
        omega
      · show List.take _ (_ ++ _ ++ _) = _
        rw [← hn, h3, ← Lib.byteCells_append]
        rw [show ps.length + k = (Lib.byteCells (ps ++ s.data.toList.take k)).length by rw [Lib.byteCells_append, List.length_append, hl, Lib.byteCells_length]]
        exact List.take_left
  obtain ⟨cur', hr, hs', ht'⟩ := hmain
  have hput := hP.put hs' ht' hN (by omega)
  push_cast at hput
  refine ⟨_, hr, ⟨?_, hput, ?_⟩⟩
  · rw [setRow_other _ _ _ _ h.d4, hS.2.2.2, h.wr, hn]
  · exact hS.frs ((FrS.refl _ _).setRow _ _ (Or.inr (Or.inr (Or.inl rfl))))

theorem str_cut (s : ByteArray) (k m : Nat) (hm : s.size = m) (hk : k ≤ m) : (s.extract k m).data.toList = s.data.toList.drop k ∧ (s.extract k m).size = m - k := by
  have hl : s.data.toList.length = m := by rw [← Lib.size_eq]; exact hm
  have h1 : (s.extract k m).data.toList = s.data.toList.drop k := by
    rw [ByteArray.data_extract, Array.toList_extract, List.extract_eq_take_drop]
    exact List.take_of_length_le (by rw [List.length_drop, hl]; exact Nat.le_refl _)
  exact ⟨h1, by rw [Lib.size_eq, h1, List.length_drop, hl]⟩

/-- How far a round of WriteString is from its end. -/
def meaS (bw : Nat) (p : Value) (w : World) : Nat :=
  (match p with | .string s => s.size | _ => 0) + (match w.cell? ⟨bw, 2, none⟩ with | some (.int _ z) => z.toNat | _ => 0)

structure WS (w : World) (b bw bb cw : Nat) (v : Value) (bs ps q : List UInt8) (m : Nat) (p nn : Value) (wr : World) : Prop where
  ex : ∃ (t : Nat) (s' : ByteArray) (bs' ps' : List UInt8) (v' : Value), p = .string s' ∧ nn = .int .i64 (t : Int) ∧ t + s'.size = m ∧
    bs' ++ ps' ++ s'.data.toList = bs ++ ps ++ q ∧ Pipe wr b bw bb cw v' bs' ps' ∧ FrS (PS b bw bb cw v) w wr ∧ Later w v v'

set_option maxRecDepth 100000 in
set_option maxHeartbeats 6400000 in
/-- (*bufio.Writer).WriteString of a short string. -/
theorem wstr_any (b bw bb cw : Nat) (v : Value) (bs ps : List UInt8) (s : ByteArray) (m : Nat) (w : World) (h : Pipe w b bw bb cw v bs ps) (hq : s.size = m) (hm : m ≤ 1000) (hlim : bs.length + ps.length + m ≤ 1000000000) :
    Calls Tryd.prog 22 #[.pointer (some ⟨bw, 0, none⟩), .string s] w fun e w' => e = .returned (.tuple #[.int .i64 (m : Int), .nilIface]) ∧ ∃ v' bs' ps', bs' ++ ps' = bs ++ ps ++ s.data.toList ∧ Pipe w' b bw bb cw v' bs' ps' ∧ FrS (PS b bw bb cw v) w w' ∧ Later w v v' := by
  obtain ⟨q, hqs⟩ : ∃ q, s.data.toList = q := ⟨_, rfl⟩
  have H0 : Hid (WS w b bw bb cw v bs ps q m (.string s) (.int .i64 0) w) := ⟨⟨0, s, bs, ps, v, rfl, rfl, by omega, by rw [hqs], h, FrS.refl _ _, Or.inl rfl⟩⟩
  have HLIM : Hid (bs.length + ps.length + m ≤ 1000000000) := hlim
  have HQ : Hid (q.length = m) := by show q.length = m; rw [← hqs, ← Lib.size_eq]; exact hq
  rw [hqs]
  clear h hq hlim hqs
  go_enter Tryd.func22, Tryd.ntmps22
  go_wp2
  go_loopw [1, 8] (fun p nn wr => WS w b bw bb cw v bs ps q m p nn wr) (fun p nn wr => meaS bw p wr)
  case atStart => exact H0.out
  case round =>
    obtain ⟨t, s', bs', ps', v', rfl, rfl, htm, heq, hP, hF, hL⟩ := hrel
    obtain ⟨n', hn'⟩ : ∃ n', ps'.length = n' := ⟨_, rfl⟩
    obtain ⟨m', hm'⟩ : ∃ m', s'.size = m' := ⟨_, rfl⟩
    have hsl : s'.data.toList.length = m' := by rw [← Lib.size_eq]; exact hm'
    have hlen : bs'.length + n' + m' = bs.length + ps.length + m := by
      have := congrArg List.length heq
      simp only [List.length_append] at this
      rw [HQ.out] at this
      omega
    have hlim := HLIM.out
    have hle := hP.le
    have HP := Lib.hid hP
    have HE := Lib.hid heq
    have HN := Lib.hid hn'
    have HSL := Lib.hid hsl
    rw [hn'] at hle
    rw [hm'] at htm
    clear hP heq H0 hsl
    go_wp2_with fail
    refine (avail b bw bb cw v' bs' ps' _ HP.out).mono ?_
    rintro e w1 ⟨rfl, hb1⟩
    rw [HN.out]
    have c0 := (HP.out.below hb1).c0
    by_cases hgt : 65536 < m' + n'
    · go_wp2_with fail
      refine (buffered b bw bb cw v' bs' ps' _ (HP.out.below hb1)).mono ?_
      rintro e w2 ⟨rfl, hb2⟩
      rw [HN.out]
      have hz0 : ((n' : Int) == 0) = false := by simp; omega
      go_wp2_with fail
      refine (buffered b bw bb cw v' bs' ps' _ ((HP.out.below hb1).below hb2)).mono ?_
      rintro e w3 ⟨rfl, hb3⟩
      rw [HN.out]
      have HP2 := Lib.hid (((HP.out.below hb1).below hb2).below hb3)
      have hF2 := ((hF.below hb1).below hb2).below hb3
      have hm0 : meaS bw (.string s') wr = m' + n' := by
        unfold meaS
        rw [HP.out.c2, HN.out]
        simp [hm']
      obtain ⟨k, hk⟩ : ∃ k, k = Nat.min m' (65536 - n') := ⟨_, rfl⟩
      have hk2 : k = 65536 - n' := by rw [hk]; exact Nat.min_eq_right (by omega)
      have hcopy := put_copyS HP2.out HN.out hm' k hk
      have HK := Lib.hid hk
      have hkm : k ≤ m' := by omega
      have hkn : n' + k = 65536 := by omega
      clear hk hk2
      have c1 := HP2.out.c1
      have c2 := HP2.out.c2
      rw [HN.out] at c2
      have z2 := HP2.out.z
      have i1 : (n' : Int) ≤ 65536 := by omega
      have i2 : (0 : Int) ≤ (n' : Int) := by omega
      go_wp2
      go_region_held3 (fun W => W.cell? ⟨bw, 1, none⟩ = some (.slice (some ⟨bb, 0, none⟩) 65536 65536) ∧ W.cell? ⟨bw, 2, none⟩ = some (.int .i64 (n' : Int))) (first | go_keep | exact ⟨hPut.c1, hPut.c2⟩) ((refine step_copyE (by rfl) _ _ _ (by rfl) (by rfl) (by rfl) _ _ (hcopy _ _ _ _ (by exact ⟨rfl, rfl, rfl, rfl⟩) (by intro hlt; split <;> first | omega | simp)) ?_; intro W' hPut))
      have HPUT := Lib.hid hPut
      have d2 := hPut.c2
      have y2 := hPut.z
      have i3 : IntKind.i64.wrap ((n' : Int) + (k : Int)) = (n' : Int) + (k : Int) := by rw [IntKind.wrap_i64]; omega
      clear hPut hcopy c0 c1 c2 z2
      go_wp2_with fail
      all_goals
        refine (flush_any b bw bb cw v' bs' (ps' ++ s'.data.toList.take k) _ HPUT.out.pipe (by rw [List.length_append, HN.out, List.length_take, HSL.out]; omega)).mono ?_
        rintro e w4 ⟨rfl, v3, hP3, hF3, hL3⟩
        have HP3 := Lib.hid hP3
        clear hP3
        go_wp2
        go_roundw
        case rel =>
          have hF4 : FrS (PS b bw bb cw v') w3 w4 := (HPUT.out.fr.setCell _ _ (Or.inr (Or.inl rfl))).trans hF3 (fun i _ h => h) (fun i _ h => h)
          have hL4 : Later w3 v' v3 := by
            rcases hL3 with h | h
            · exact Or.inl h
            · exact Or.inr fun g hg => Nat.le_trans (by have := (HPUT.out.fr.setCell ⟨bw, 2, none⟩ (.int .i64 ((n' : Int) + (k : Int))) (Or.inr (Or.inl rfl))).size; exact this) (h g hg)
          refine ⟨t + k, _, bs' ++ (ps' ++ s'.data.toList.take k), [], v3, rfl, by push_cast; rfl, ?_, ?_, HP3.out, ?_, ?_⟩
          · rw [(str_cut s' k m' hm' hkm).2]; omega
          · rw [← HE.out, (str_cut s' k m' hm' hkm).1]
            simp only [List.append_assoc, List.nil_append, List.append_nil, List.take_append_drop]
          · exact hF2.trans hF4 (fun i _ h => h) (fun i hi h => PS.later hL i hi h)
          · exact hL.trans hF2.size hL4
        case measure =>
          rw [hm0]
          unfold meaS
          rw [HP3.out.c2]
          have hx := (str_cut s' k m' hm' hkm).2
          show (s'.extract k m').size + 0 < m' + n'
          omega
    · have hk : m' = Nat.min m' (65536 - n') := (Nat.min_eq_left (by omega)).symm
      have HP1 := Lib.hid (HP.out.below hb1)
      have hF1 := hF.below hb1
      have hcopy := put_copyS HP1.out HN.out hm' m' hk
      have HK := Lib.hid hk
      clear hk
      have c1 := HP1.out.c1
      have c2 := HP1.out.c2
      rw [HN.out] at c2
      have z2 := HP1.out.z
      have i1 : (n' : Int) ≤ 65536 := by omega
      have i2 : (0 : Int) ≤ (n' : Int) := by omega
      go_wp2
      go_region_held3 (fun W => W.cell? ⟨bw, 1, none⟩ = some (.slice (some ⟨bb, 0, none⟩) 65536 65536) ∧ W.cell? ⟨bw, 2, none⟩ = some (.int .i64 (n' : Int))) (first | go_keep | exact ⟨hPut.c1, hPut.c2⟩) ((refine step_copyE (by rfl) _ _ _ (by rfl) (by rfl) (by rfl) _ _ (hcopy _ _ _ _ (by exact ⟨rfl, rfl, rfl, rfl⟩) (by intro hlt; split <;> first | omega | simp)) ?_; intro W' hPut))
      have HPUT := Lib.hid hPut
      have d2 := hPut.c2
      have y2 := hPut.z
      have i3 : IntKind.i64.wrap ((n' : Int) + (m' : Int)) = (n' : Int) + (m' : Int) := by rw [IntKind.wrap_i64]; omega
      clear hPut hcopy c0 c1 c2 z2
      go_wp2
      all_goals
        go_ret2
        refine ⟨by first | omega | (simp; omega), v', bs', ps' ++ s'.data.toList.take m', ?_, HPUT.out.pipe, ?_, hL⟩
        · have := HE.out
          simp only [List.append_assoc] at this
          rw [List.take_of_length_le (Nat.le_of_eq HSL.out)]
          exact this
        · exact (hF1.trans HPUT.out.fr (fun i _ h => h) (fun i hi h => PS.later hL i hi h)).setCell _ _ (Or.inr (Or.inl rfl))
end Go.Proofs.Qxb6625470aDoor
