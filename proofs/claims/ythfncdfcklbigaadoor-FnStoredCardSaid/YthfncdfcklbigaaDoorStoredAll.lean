/-
  'laws.FnStored', walked: stored blocks one behind another are read as their bytes.
-/
import Derived.Test.YthfncdfcklbigaaDoorSlices
import Derived.Test.YthfncdfcklbigaaDoorStoredRows
set_option linter.unusedVariables false
set_option linter.unusedSimpArgs false
namespace Go.Proofs.YthfncdfcklbigaaDoor
open Go.RowKit Flate
set_option maxRecDepth 100000

abbrev SlL (rs : List Sl) : List (List UInt8) := rs.map Sl.l

/-- The first loop: the data, as far as it is gathered. -/
def StA (N0 : Nat) (w : World) (rs : List Sl) (n : Nat) (g : Nat) (want i : Value) (wr : World) : Prop :=
  ∃ (k : Nat) (b : Option Addr) (m c : Nat), k ≤ n ∧ g = n - k ∧ i = .int .i64 (k : Int) ∧ want = .slice b m c ∧ m = (SlL (rs.take k)).flatten.length ∧ m ≤ 1048576 ∧ (∀ s ∈ rs.take k, s.l.length ≤ 65535) ∧ Own wr N0 want (SlL (rs.take k)).flatten ∧ Frm (fun _ _ => False) w wr

/-- The second: the blocks, as far as they are written. -/
def StB (N0 : Nat) (w : World) (rs : List Sl) (n : Nat) (g : Nat) (out i : Value) (wr : World) : Prop :=
  ∃ (k : Nat) (b : Option Addr) (m c : Nat), k ≤ n ∧ g = n - k ∧ i = .int .i64 (k : Int) ∧ out = .slice b m c ∧ m = (encRows (SlL (rs.take k))).length ∧ Own wr N0 out (encRows (SlL (rs.take k))) ∧ Frm (fun _ _ => False) w wr

theorem enc_take {rs : List Sl} {k : Nat} (hk : k < rs.length) : encRows (SlL (rs.take (k + 1))) = encRows (SlL (rs.take k)) ++ (stHead false rs[k].l.length ++ rs[k].l) := by
  rw [List.take_succ_eq_append_getElem hk]
  simp only [encRows, SlL, List.map_append, List.flatMap_append, List.map_cons, List.map_nil, List.flatMap_cons, List.flatMap_nil, List.append_nil]
theorem flat_take {rs : List Sl} {k : Nat} (hk : k < rs.length) : (SlL (rs.take (k + 1))).flatten = (SlL (rs.take k)).flatten ++ rs[k].l := by
  rw [List.take_succ_eq_append_getElem hk]
  simp only [SlL, List.map_append, List.flatten_append, List.map_cons, List.map_nil, List.flatten_cons, List.flatten_nil, List.append_nil]

theorem flat_takeS {rs : List Sl} {k : Nat} {s : Sl} (hk : k < rs.length) (hs : s = rs[k]) : (SlL (rs.take (k + 1))).flatten = (SlL (rs.take k)).flatten ++ s.l := by rw [hs]; exact flat_take hk
theorem enc_takeS {rs : List Sl} {k : Nat} {s : Sl} (hk : k < rs.length) (hs : s = rs[k]) : encRows (SlL (rs.take (k + 1))) = encRows (SlL (rs.take k)) ++ (stHead false s.l.length ++ s.l) := by rw [hs]; exact enc_take hk

set_option maxHeartbeats 2000000 in
theorem fnStored_any (w : World) (C : Nat) (p : Ps) (he : Env w C p) (base : Option Addr) (rs : List Sl) (cap : Nat) (hs : Rws w base rs cap) (dbase : Option Addr) (data : List UInt8) (dcap : Nat) (hd : Bt w dbase data dcap) :
    Calls Tryd.prog 14 #[.slice base rs.length cap, .slice dbase data.length dcap] w fun e w' => e = .returned (.bool true) ∧ Frm (fun _ _ => False) w w' := by
  have HE := Lib.hid he
  have HS := Lib.hid hs
  have HD := Lib.hid hd
  have hz := zzFits1_any w base rs cap hs
  clear he hs hd
  obtain ⟨n, hn⟩ : ∃ n, n = rs.length := ⟨_, rfl⟩
  obtain ⟨n2, hn2⟩ : ∃ n2, n2 = data.length := ⟨_, rfl⟩
  rw [← hn2]
  rw [← hn] at hz ⊢
  have HN := Lib.hid (And.intro hn hn2)
  clear hn hn2
  obtain ⟨zz, hzz⟩ : ∃ zz, zz = (decide (n ≤ 2147483647) && fitsB rs) := ⟨_, rfl⟩
  rw [← hzz] at hz
  have HZ := Lib.hid hz
  have HZZ := Lib.hid hzz
  clear hz hzz
  go_enter Tryd.func14, Tryd.ntmps14
  cases zz with
  | false =>
    go_wp2_with fail
    refine HZ.out.mono ?_
    rintro e w' ⟨rfl, rfl⟩
    go_wp2_with fail
    go_ret
    exact ⟨rfl, Frm.refl _ _⟩
  | true =>
    have hnl : n ≤ 2147483647 := by
      have := HZZ.out.symm
      simp only [Bool.and_eq_true, decide_eq_true_eq] at this
      exact this.1
    by_cases h2 : 2147483647 < n2
    · have t2 : decide ((2147483647 : Int) < (n2 : Int)) = true := by simp; omega
      clear h2 hnl
      go_wp2_with fail
      refine HZ.out.mono ?_
      rintro e w' ⟨rfl, rfl⟩
      go_wp2_with fail
      go_ret
      exact ⟨rfl, Frm.refl _ _⟩
    · have t2 : decide ((2147483647 : Int) < (n2 : Int)) = false := by simp; omega
      have H2 := Lib.hid (And.intro h2 hnl)
      have c1 : (n : Int) ≤ 2147483647 := by omega
      clear h2 hnl
      go_wp2_with fail
      refine HZ.out.mono ?_
      rintro e w' ⟨rfl, rfl⟩
      -- the rows, and the data behind them
      have ho := ownS_new w [] (by simp)
      simp only [List.map_nil, List.length_nil] at ho
      obtain ⟨W1, hW1⟩ : ∃ W1, W1 = w.alloc (.cells #[] 22) := ⟨_, rfl⟩
      have ho : OwnS W1 w.heap.size (.slice (some ⟨w.heap.size, 0, none⟩) 0 0) [] := by rw [hW1]; exact ho
      have hf1 : Frm (fun _ _ => False) w W1 := by rw [hW1]; exact (Frm.refl _ _).alloc _
      have hs1 := HS.out.keep hf1
      obtain ⟨v2, w2, hrun2, hown2, hfr2⟩ := append_rows W1 w.heap.size _ [] ho base rs cap hs1.cells hs1.spot hs1.nilc (by have := H2.out; have := HN.out; simp only [List.length_nil]; omega) hf1.size
      have hf2 := ho.fresh hf1 (Nat.le_refl _) hfr2
      rw [List.nil_append] at hown2
      obtain ⟨W3, hW3⟩ : ∃ W3, W3 = w2.alloc (.cells #[.slice dbase n2 dcap] 22) := ⟨_, rfl⟩
      have hf3 : Frm (fun _ _ => False) w2 W3 := by rw [hW3]; exact (Frm.refl _ _).alloc _
      have hown3 := hown2.keep hf3 (fun _ _ _ e => e)
      obtain ⟨v4, w4, hrun4, hown4, hfr4⟩ := append_rows W3 w.heap.size _ rs hown3 (some ⟨w2.heap.size, 0, none⟩) [⟨dbase, data, dcap⟩] 1 (fun j hj => ⟨_, rfl, by
          have : j = 0 := by simp only [List.length_cons, List.length_nil] at hj; omega
          subst this
          rw [hW3]
          refine (cells_at (heap_alloc_new w2 _)).trans ?_
          simp only [List.getElem_cons_zero, Sl.val, ← HN.out.2]
          rfl⟩) (fun a ha => by obtain rfl := Option.some.inj ha; rfl) (fun h => by simp at h) (by have := H2.out; have := HN.out; simp only [List.length_cons, List.length_nil]; omega) (Nat.le_trans hf2.size hf3.size)
      have hf4 := OwnS.fresh hown3 (hf2.trans hf3) (Nat.le_refl _) hfr4
      rw [hW1, ← HN.out.1] at hrun2
      rw [hW3] at hrun4
      obtain ⟨v4n, hv4n⟩ : ∃ v4n, v4n = n + 1 := ⟨_, rfl⟩
      have hr2 := fun ty => hrun2 ty
      have hr4 : ∀ ty, (Builtin.append_ #[48, 48] ty #[v2, .slice (some ⟨w2.heap.size, 0, none⟩) 1 1]).run Tryd.prog (w2.alloc (.cells #[.slice dbase n2 dcap] 22)) = .ok v4 w4 := fun ty => hrun4 ty
      -- the new row as it stands
      obtain ⟨b4, cap4, hv4, hc4⟩ : ∃ b4 cap4, v4 = .slice b4 (n + 1) cap4 ∧ Rws w4 b4 (rs ++ [⟨dbase, data, dcap⟩]) cap4 := by
        have hl : (rs ++ [(⟨dbase, data, dcap⟩ : Sl)]).length = n + 1 := by rw [List.length_append, HN.out.1]; rfl
        rcases hown4.cells with ⟨_, h0⟩ | ⟨g, c4, rfl, h1, h2', h3, h4⟩
        · rw [hl] at h0; omega
        · refine ⟨some ⟨g, 0, none⟩, c4, by rw [hl], ⟨fun j hj => ⟨_, rfl, ?_⟩, fun a ha => by obtain rfl := Option.some.inj ha; rfl, fun s hsm => ?_, h3, fun h => by simp at h⟩⟩
          · have := h4 j ((rs ++ [(⟨dbase, data, dcap⟩ : Sl)])[j]).val (by rw [List.getElem?_map, List.getElem?_eq_getElem hj]; rfl)
            simpa using this
          · rcases List.mem_append.1 hsm with q | q
            · exact (HS.out.ok s q).keep hf4
            · rw [List.mem_singleton.1 q]
              have hb := HD.out.keep hf4
              exact ⟨.inr hb.bytes, hb.nilc, hb.hcap⟩
      obtain ⟨N, hN⟩ : ∃ N, N = n + 1 := ⟨_, rfl⟩
      rw [← hN] at hv4
      have c2 : (N : Int) ≤ 2147483648 := by omega
      have HNN := Lib.hid hN
      subst hv4
      have HC4 := Lib.hid hc4
      have HF4 := Lib.hid hf4
      clear ho hW1 hf1 hs1 hrun2 hown2 hfr2 hf2 hW3 hf3 hown3 hrun4 hown4 hfr4 hf4 hc4 hv4n HZ hN
      go_wp2_with (at_builtin; first | refine wpList_append_by (by rfl) (.tmp 19) (.tmp 20) 48 (by rfl) _ _ (by rfl) (by rfl) (hr2 _) ?_ | refine wpList_append_by (by rfl) (.tmp 21) (.tmp 23) 48 (by rfl) _ _ (by rfl) (by rfl) (hr4 _) ?_)
      clear hr2 hr4
      obtain ⟨RS, hRS⟩ : ∃ RS, RS = rs ++ [(⟨dbase, data, dcap⟩ : Sl)] := ⟨_, rfl⟩
      have hRl : RS.length = n + 1 := by rw [hRS, List.length_append, HN.out.1]; rfl
      rw [← hRS] at HC4
      have HRS := Lib.hid (And.intro hRS hRl)
      clear hRS hRl
      go_loopg [6, 26] (N - 0) (fun g want i wr => StA w4.heap.size w4 RS N g want i wr)
      case atStart => exact ⟨0, none, 0, 0, Nat.zero_le _, rfl, rfl, rfl, rfl, by omega, fun s hs => absurd hs (by simp), Row.nil _ _ _ _ _, Frm.refl _ _⟩
      case round =>
        obtain ⟨k, wb, m, wc, hk, hg, rfl, rfl, hm, hm1, h65, hown, hf⟩ := hrel
        have HR := Lib.hid (And.intro hg (And.intro hm (And.intro h65 (And.intro hown hf))))
        have c3 : (m : Int) ≤ 1048576 := by omega
        clear hg hm h65 hown hf
        by_cases hlt : k < N
        · have hkl : k < RS.length := by have := HRS.out.2; have := HNN.out; omega
          obtain ⟨a, ha, hcell⟩ := (HC4.out.keep HR.out.2.2.2.2).cells k hkl
          have hsp := HC4.out.spot a ha
          obtain ⟨ab, ao, sp⟩ := a
          simp only at hsp
          subst hsp
          subst ha
          obtain ⟨s, hsx⟩ : ∃ s, s = RS[k] := ⟨_, rfl⟩
          have hok := (HC4.out.ok RS[k] (List.getElem_mem hkl)).keep HR.out.2.2.2.2
          rw [← hsx] at hcell hok
          obtain ⟨q, hq⟩ : ∃ q, q = s.l.length := ⟨_, rfl⟩
          replace hcell : wr.cell? ⟨ab, ao + k, none⟩ = some (.slice s.b q s.c) := by rw [hq]; exact hcell
          have HSX := Lib.hid (And.intro hsx (And.intro hq hok))
          clear hsx hq hok
          by_cases h3 : 65535 < q
          · have t3 : decide ((65535 : Int) < (q : Int)) = true := by simp; omega
            clear h3
            go_wp2_with fail
            go_ret
            exact ⟨rfl, HF4.out.trans HR.out.2.2.2.2⟩
          · have t3 : decide ((65535 : Int) < (q : Int)) = false := by simp; omega
            have c4 : (q : Int) ≤ 65535 := by omega
            have H3 := Lib.hid h3
            clear h3
            by_cases h4 : 1048576 < m + q
            · have t4 : decide ((1048576 : Int) < (m : Int) + (q : Int)) = true := by simp; omega
              clear h4
              go_wp2_with fail
              go_ret
              exact ⟨rfl, HF4.out.trans HR.out.2.2.2.2⟩
            · have t4 : decide ((1048576 : Int) < (m : Int) + (q : Int)) = false := by simp; omega
              have H4 := Lib.hid h4
              clear h4
              obtain ⟨hg, hm, h65, hown, hf⟩ := HR.out
              obtain ⟨hsx, hq, hok⟩ := HSX.out
              obtain ⟨v', w', hrun, hown', hfr, _⟩ := append_bw wr w4.heap.size _ _ hown s.b s.l s.c hok.bytes hok.nilc (by have := H4.out; omega) hf.size
              have hf' := hown.fresh hf (Nat.le_refl _) hfr
              rw [← hq] at hrun
              obtain ⟨b', c', hv', hb'⟩ := hown'.bt
              rw [← flat_takeS hkl hsx] at hown' hv'
              have HX := Lib.hid (And.intro hown' (And.intro hf' hv'))
              have hr := fun ty => hrun ty
              clear hg hm h65 hown hf hsx hq hok hrun hown' hfr hf' hb' hv'
              go_wp2_with (at_builtin; refine wpList_append_by (by rfl) (.tmp 41) (.tmp 42) 22 (by rfl) _ _ (by rfl) (by rfl) (hr _) ?_)
              clear hr
              go_roundg (N - (k + 1))
              case measure => have := HR.out.1; omega
              case rel =>
                obtain ⟨hg, hm, h65, hown, hf⟩ := HR.out
                obtain ⟨hsx, hq, hok⟩ := HSX.out
                obtain ⟨hown', hf', hv'⟩ := HX.out
                refine ⟨k + 1, b', _, c', by omega, rfl, by go_num, hv', rfl, ?_, fun s' hs' => ?_, hown', hf'⟩
                · rw [flat_takeS hkl hsx, List.length_append]; have := H4.out; omega
                · rw [List.take_succ_eq_append_getElem hkl] at hs'
                  rcases List.mem_append.1 hs' with z | z
                  · exact h65 s' z
                  · rw [List.mem_singleton.1 z, ← hsx, ← hq]; have := H3.out; omega
        · obtain rfl : k = N := by omega
          clear hlt
          have hd : decide (k < k) = false := by simp
          have HD2 := Lib.hid (And.intro c2 c3)
          go_wp2_with fail
          clear HD2
          obtain ⟨hg, hm, h65, hown, hf⟩ := HR.out
          have hkR : k = RS.length := by rw [HRS.out.2]; exact HNN.out
          have hall : RS.take k = RS := by rw [hkR, List.take_length]
          rw [hall] at hm h65 hown
          have hflat : (SlL RS).flatten = (SlL rs).flatten ++ data := by rw [HRS.out.1]; simp [SlL]
          have h65r : ∀ s ∈ rs, s.l.length ≤ 65535 := fun s hs => h65 s (by rw [HRS.out.1]; simp [hs])
          have h65d : data.length ≤ 65535 := h65 ⟨dbase, data, dcap⟩ (by rw [HRS.out.1]; simp)
          have hf05 := HF4.out.trans hf
          rw [hflat] at hm hown
          have HW := Lib.hid (And.intro hm (And.intro hown (And.intro h65r (And.intro h65d hf05))))
          clear hg hm h65 hown hf hkR hall hflat h65r h65d hf05
          obtain ⟨w5, rfl⟩ : ∃ w5, w5 = wr := ⟨_, rfl⟩
          go_loopg [5, 47] (n - 0) (fun g out i w' => StB w5.heap.size w5 rs n g out i w')
          case atStart => exact ⟨0, none, 0, 0, Nat.zero_le _, rfl, rfl, rfl, rfl, Row.nil _ _ _ _ _, Frm.refl _ _⟩
          case round =>
            obtain ⟨k2, ob, m2, oc, hk2, hg, rfl, rfl, hm2, hown, hf⟩ := hrel
            have HR2 := Lib.hid (And.intro hg (And.intro hm2 (And.intro hown hf)))
            have c5 : (k2 : Int) ≤ 2147483647 := by omega
            clear hg hm2 hown hf
            by_cases hlt : k2 < n
            · obtain ⟨hg, hm2, hown, hf⟩ := HR2.out
              have hf0 := HW.out.2.2.2.2.trans hf
              have hkl : k2 < rs.length := by have := HN.out.1; omega
              obtain ⟨a, ha, hcell⟩ := (HS.out.keep hf0).cells k2 hkl
              have hsp := HS.out.spot a ha
              obtain ⟨ab, ao, sp⟩ := a
              simp only at hsp
              subst hsp
              subst ha
              obtain ⟨s, hsx⟩ : ∃ s, s = rs[k2] := ⟨_, rfl⟩
              have hok := (HS.out.ok rs[k2] (List.getElem_mem hkl)).keep hf0
              rw [← hsx] at hcell hok
              have hst := stored_bw wr s.b s.l s.c hok.bytes hok.nilc (by rw [hsx]; exact HW.out.2.2.1 _ (List.getElem_mem hkl)) false
              obtain ⟨q, hq⟩ : ∃ q, q = s.l.length := ⟨_, rfl⟩
              replace hcell : wr.cell? ⟨ab, ao + k2, none⟩ = some (.slice s.b q s.c) := by rw [hq]; exact hcell
              rw [← hq] at hst
              have HST := Lib.hid hst
              have HSX := Lib.hid (And.intro hsx hq)
              clear hg hm2 hown hf hf0 hsx hok hst hq
              go_wp2_with fail
              refine HST.out.mono ?_
              rintro e w7 ⟨v7, rfl, hown7, hf7⟩
              obtain ⟨hg, hm2, hown, hf⟩ := HR2.out
              obtain ⟨b7, c7, rfl, hb7⟩ := hown7.bt
              have hownk := hown.keep hf7 (fun _ _ _ e => e)
              have hq2 : (stHead false q ++ s.l).length = 5 + s.l.length := stHead_len _ _ _
              have hl2 : (encRows (SlL (rs.take k2))).length ≤ 17179869184 := by
                have h1 := HW.out.1
                have h3 := HN.out.1
                have h4 := H2.out.2
                have h5 : (SlL rs).flatten.length = (SlL (rs.take k2)).flatten.length + (SlL (rs.drop k2)).flatten.length := by
                  conv => lhs; rw [← List.take_append_drop k2 rs]
                  simp only [SlL, List.map_append, List.flatten_append, List.length_append]
                rw [List.length_append] at h1
                rw [encRows_len]
                have h6 : (SlL (rs.take k2)).length ≤ k2 := by simp only [SlL, List.length_map, List.length_take]; omega
                omega
              have hsl : s.l.length ≤ 65535 := by rw [HSX.out.1]; exact HW.out.2.2.1 _ (List.getElem_mem hkl)
              obtain ⟨v8, w8, hrun, hown8, hfr8, _⟩ := append_bt w7 w5.heap.size _ _ hownk b7 _ c7 hb7 (by rw [hq2]; omega) (Nat.le_trans hf.size hf7.size)
              have hf8 := Own.fresh hownk (hf.trans hf7) (Nat.le_refl _) hfr8
              obtain ⟨q2, hqq⟩ : ∃ q2, q2 = (stHead false q ++ s.l).length := ⟨_, rfl⟩
              rw [← hqq] at hrun ⊢
              obtain ⟨b8, c8, hv8, hb8⟩ := hown8.bt
              rw [HSX.out.2, ← enc_takeS hkl HSX.out.1] at hown8 hv8
              have HX := Lib.hid (And.intro hown8 (And.intro hf8 hv8))
              have hr := fun ty => hrun ty
              clear hg hm2 hown hf hown7 hf7 hb7 hownk hq2 hl2 hsl hrun hown8 hfr8 hf8 hqq hb8 hv8
              go_wp2_with (at_builtin; refine wpList_append_by (by rfl) (.tmp 51) (.tmp 53) 22 (by rfl) _ _ (by rfl) (by rfl) (hr _) ?_)
              clear hr
              go_roundg (n - (k2 + 1))
              case measure => have := HR2.out.1; omega
              case rel =>
                obtain ⟨hown', hf', hv'⟩ := HX.out
                exact ⟨k2 + 1, b8, _, c8, by omega, rfl, by go_num, hv', rfl, hown', hf'⟩
            · obtain rfl : k2 = n := by omega
              clear hlt
              have hd : decide (k2 < k2) = false := by simp
              obtain ⟨hg, hm2, hown, hf⟩ := HR2.out
              have hf0 := HW.out.2.2.2.2.trans hf
              have hst := stored_any wr dbase data dcap (HD.out.keep hf0) HW.out.2.2.2.1 true
              rw [← HN.out.2] at hst
              have HST := Lib.hid hst
              clear hg hm2 hown hf hf0 hst
              go_wp2_with fail
              refine HST.out.mono ?_
              rintro e w7 ⟨v7, rfl, hown7, hf7⟩
              obtain ⟨hg, hm2, hown, hf⟩ := HR2.out
              have hall : rs.take k2 = rs := by rw [HN.out.1, List.take_length]
              rw [hall] at hm2 hown
              obtain ⟨b7, c7, rfl, hb7⟩ := hown7.bt
              have hownk := hown.keep hf7 (fun _ _ _ e => e)
              have hq2 : (stHead true n2 ++ data).length = 5 + data.length := stHead_len _ _ _
              have hl2 : (encRows (SlL rs)).length ≤ 10738466816 := by
                rw [encRows_len]
                have h1 := HW.out.1
                have h2 := H2.out.2
                rw [List.length_append] at h1
                have h3 := HN.out.1
                have h6 : (SlL rs).length = rs.length := by simp only [SlL, List.length_map]
                omega
              have h65d := HW.out.2.2.2.1
              obtain ⟨v8, w8, hrun, hown8, hfr8, _⟩ := append_bt w7 w5.heap.size _ _ hownk b7 _ c7 hb7 (by rw [hq2]; omega) (Nat.le_trans hf.size hf7.size)
              have hf8 := Own.fresh hownk (hf.trans hf7) (Nat.le_refl _) hfr8
              obtain ⟨q2, hqq⟩ : ∃ q2, q2 = (stHead true n2 ++ data).length := ⟨_, rfl⟩
              rw [← hqq] at hrun ⊢
              obtain ⟨b8, c8, rfl, hb8⟩ := hown8.bt
              have hf08 := HW.out.2.2.2.2.trans hf8
              have hwant := HW.out.2.1.keep hf8 (fun _ _ _ e => e)
              obtain ⟨bw, cw, hvw, hbw⟩ := Own.bt hwant
              have hlaw := infl_rows (d := data) HW.out.2.2.2.1 (rows := SlL rs) (fun r hr => by
                obtain ⟨s, hs, rfl⟩ := List.mem_map.1 hr
                exact HW.out.2.2.1 s hs)
              rw [← HN.out.2] at hlaw
              have hin := inflates_true w8 C p (HE.out.keep hf08 (fun _ _ e => e.elim)) b8 _ c8 hb8 (by rw [List.length_append, hq2]; omega) none [] 0 (bt_nil _) (by simp) false bw ((SlL rs).flatten ++ data) cw hbw hlaw (by rw [List.length_append, hq2]; omega)
              rw [← hvw] at hin
              obtain ⟨q3, hq3⟩ : ∃ q3, q3 = (encRows (SlL rs) ++ (stHead true n2 ++ data)).length := ⟨_, rfl⟩
              rw [← hq3] at hrun hin
              have HI := Lib.hid hin
              have HF8 := Lib.hid hf08
              have hr := fun ty => hrun ty
              clear hg hm2 hown hf hown7 hf7 hall hb7 hownk hq2 hl2 h65d hrun hown8 hfr8 hf8 hqq hb8 hf08 hwant hvw hbw hlaw hin hq3
              go_wp2_with (at_builtin; refine wpList_append_by (by rfl) (.tmp 56) (.tmp 58) 22 (by rfl) _ _ (by rfl) (by rfl) (hr _) ?_)
              clear hr
              refine HI.out.mono ?_
              rintro e w9 ⟨rfl, hf9⟩
              have HF9 := Lib.hid hf9
              clear hf9
              go_wp2_with fail
              go_ret
              exact ⟨rfl, HF8.out.trans HF9.out⟩

end Go.Proofs.YthfncdfcklbigaaDoor
