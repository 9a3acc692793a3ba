/-
  WALKS, SEVENTH PART: wish: it signs, sends to every other node, and holds its own; what 'hold' does is handed in.
-/
import Derived.Test.YbulkcskmFmtWf
import Derived.Deep.RegionWith
namespace Go.Proofs.YbulkcskmFmt
open Go.RowKit Go.Lib
attribute [local go_sem ↓] Go.wp_at_zero Go.wp_at_succ

/-- The nodes below k other than self. -/
def others (self k : Nat) : List Nat := (List.range k).filter (fun j => j != self)
/-- The cells of what is sent to them. -/
def sentTo (self : Nat) (V : Int) (sg : Value) (k : Nat) : List Value := (others self k).flatMap fun (j : Nat) => sendCells (j : Int) V sg
theorem others_self (self : Nat) : others self (self + 1) = others self self := by simp [others, List.range_succ, List.filter_append]
theorem others_succ {self k : Nat} (h : k ≠ self) : others self (k + 1) = others self k ++ [k] := by simp [others, List.range_succ, List.filter_append, h]
theorem sentTo_self (self : Nat) (V : Int) (sg : Value) : sentTo self V sg (self + 1) = sentTo self V sg self := by rw [sentTo, others_self]; rfl
theorem sentTo_succ {self k : Nat} (V : Int) (sg : Value) (h : k ≠ self) : sentTo self V sg (k + 1) = sentTo self V sg k ++ sendCells k V sg := by
  rw [sentTo, others_succ h, List.flatMap_append]; simp [sentTo]
theorem others_len (self k : Nat) : (others self k).length ≤ k := by
  have := List.length_filter_le (fun j : Nat => j != self) (List.range k)
  simp [others] at *; exact this

/-- The state ahead of 'hold': what 'wish' has done till there. -/
structure Wished (B hb gb sb gh me nn k0 m0 : Nat) (tag V n f view : Int) (pv sends prop x y hi lv pays ver : Value) (xs ps : List Value) (w w3 : World) (gg cb pg pc : Nat) (sends' pays' : Value) : Prop where
  f_s : w3.heap[sb]? = some (.cells (sCells hb gb (.slice (some ⟨pg, 0, none⟩) 35 pc) me n f view hi lv) 51 (0,0))
  f_pay : w3.ownsRow B 5 1 (.slice (some ⟨pg, 0, none⟩) 35 pc) 35 (payCells V)
  f_g : w3.heap[gb]? = some (.cells #[.int .u8 tag, pays', ver] 33 (0,0))
  f_pays : w3.ownsRow B 39 1 pays' (m0 + 1) (ps ++ [.slice (some ⟨cb, 0, none⟩) 35 35])
  f_copy : w3.heap[cb]? = some (.cells (payCells V).toArray 5 (0,0))
  f_sig : w3.heap[gg]? = some (.cells #[.int .u8 tag, .int .u8 35, .int .u8 m0] 5 (0,0))
  f_cb0 : w.heap.size ≤ cb
  f_pgcb : pg < cb
  f_cbgg : cb < gg
  f_h : w3.heap[hb]? = some (.cells #[sends', prop, x, y] 29 (0,0))
  f_sent : w3.ownsRow B 71 7 sends' (k0 + (others me nn).length) (xs ++ sentTo me V (.slice (some ⟨gg, 0, none⟩) 3 3) nn)
  f_upd : Upd (sb :: gb :: hb :: (pv.ownBlock.toList ++ pays.ownBlock.toList ++ sends.ownBlock.toList)) w w3
  f_pgA : pv.ownBlock = some pg ∨ w.heap.size ≤ pg
  f_paysA : ∀ g, pays'.ownBlock = some g → pays.ownBlock = some g ∨ w.heap.size ≤ g
  f_sendsA : ∀ g, sends'.ownBlock = some g → sends.ownBlock = some g ∨ w.heap.size ≤ g

set_option maxRecDepth 100000 in
set_option maxHeartbeats 4000000 in
theorem wish_any (B hb gb sb gh self nn k0 m0 L : Nat) (tag V f view : Int) (w : World) (pv sends prop x y hi lv pays ver : Value) (xs ps bs : List Value) (hB : B ≤ w.heap.size) (hV : 0 ≤ V) (hV2 : V ≤ 18446744073709551615)
    (hs : w.heap[sb]? = some (.cells (sCells hb gb pv self nn f view hi lv) 51 (0,0)))
    (hg : w.heap[gb]? = some (.cells #[.int .u8 tag, pays, ver] 33 (0,0)))
    (hh : w.heap[hb]? = some (.cells #[sends, prop, x, y] 29 (0,0)))
    (hp : w.ownsRow B 5 1 pv L bs) (hpays : w.ownsRow B 39 1 pays m0 ps) (hm : m0 ≤ 100) (hsends : w.ownsRow B 71 7 sends k0 xs) (hk0 : k0 ≤ 1000) (hnn : nn ≤ 1000)
    (Post : World → World → Nat → Nat → Nat → Value → Prop)
    (hhold : ∀ (w3 : World) (gg cb pg pc : Nat) (sends' pays' : Value), Wished B hb gb sb gh self nn k0 m0 tag V nn f view pv sends prop x y hi lv pays ver xs ps w w3 gg cb pg pc sends' pays' →
      Calls Ybaf.prog 14 #[.pointer (some ⟨sb, 0, none⟩), .int .u64 V, .agg #[.int .i64 self, .slice (some ⟨gg, 0, none⟩) 3 3]] w3 fun e w4 => e = .returned (.tuple #[]) ∧ Post w3 w4 gg pg pc sends') :
    Calls Ybaf.prog 6 #[.pointer (some ⟨sb, 0, none⟩), .int .u64 V] w
      fun e w4 => e = .returned (.tuple #[]) ∧ ∃ w3 gg cb pg pc sends' pays', Wished B hb gb sb gh self nn k0 m0 tag V nn f view pv sends prop x y hi lv pays ver xs ps w w3 gg cb pg pc sends' pays' ∧ Post w3 w4 gg pg pc sends' := by
  have Hhold : Hid (∀ (w3 : World) (gg cb pg pc : Nat) (sends' pays' : Value), Wished B hb gb sb gh self nn k0 m0 tag V nn f view pv sends prop x y hi lv pays ver xs ps w w3 gg cb pg pc sends' pays' →
      Calls Ybaf.prog 14 #[.pointer (some ⟨sb, 0, none⟩), .int .u64 V, .agg #[.int .i64 self, .slice (some ⟨gg, 0, none⟩) 3 3]] w3 fun e w4 => e = .returned (.tuple #[]) ∧ Post w3 w4 gg pg pc sends') := hhold
  have hlt := lt_of_heap hs
  have hltg := lt_of_heap hg
  have hlth := lt_of_heap hh
  have ngs : gb ≠ sb := ne_elem hg hs (by decide)
  have nhs : hb ≠ sb := ne_elem hh hs (by decide)
  have nhg : hb ≠ gb := ne_elem hh hg (by decide)
  have nsp : ∀ g, sends.ownBlock = some g → pv.ownBlock ≠ some g := by
    intro g h1 h2
    obtain ⟨_, h3, _⟩ := owns_block hsends h1
    exact owns_ne hp h3 (by decide) h2
  have nsy : ∀ g, sends.ownBlock = some g → pays.ownBlock ≠ some g := by
    intro g h1 h2
    obtain ⟨_, h3, _⟩ := owns_block hsends h1
    exact owns_ne hpays h3 (by decide) h2
  have nss : sends.ownBlock ≠ some sb := owns_ne hsends hs (by decide)
  have nsg : sends.ownBlock ≠ some gb := owns_ne hsends hg (by decide)
  have nph : pv.ownBlock ≠ some hb := owns_ne hp hh (by decide)
  have nyh : pays.ownBlock ≠ some hb := owns_ne hpays hh (by decide)
  have Hs : Hid (w.heap[sb]? = some (.cells (sCells hb gb pv self nn f view hi lv) 51 (0,0))) := hs
  have Hg : Hid (w.heap[gb]? = some (.cells #[.int .u8 tag, pays, ver] 33 (0,0))) := hg
  have Hh : Hid (w.heap[hb]? = some (.cells #[sends, prop, x, y] 29 (0,0))) := hh
  have Hp : Hid (w.ownsRow B 5 1 pv L bs) := hp
  have Hpays : Hid (w.ownsRow B 39 1 pays m0 ps) := hpays
  have Hsends : Hid (w.ownsRow B 71 7 sends k0 xs) := hsends
  clear hs hg hh hp hpays hsends hhold
  go_enter Ybaf.func6, Ybaf.ntmps6
  go_wp2_with fail
  refine (sign_any B hb gb sb L m0 tag V self nn f view w pv hi lv pays ver bs ps hB hV hV2 Hs.out Hg.out Hp.out Hpays.out hm).mono ?_
  rintro e w1 ⟨gg, cb, pg, pc, pays', rfl, hs1', hpay1', hg1', hpays1', hcopy1', hsig1', hcb0, hpgcb, hcbgg, hu1, hpgA, hpaysA⟩
  have hh1' : w1.heap[hb]? = some (.cells #[sends, prop, x, y] 29 (0,0)) := hu1.keep Hh.out (by simp; exact ⟨nhs, nhg, nph, nyh⟩)
  have hsends1' : w1.ownsRow B 71 7 sends k0 xs := hu1.owns Hsends.out (by
    intro g hgo hmm
    simp at hmm
    rcases hmm with h | h | h | h
    · exact nss (h ▸ hgo)
    · exact nsg (h ▸ hgo)
    · exact nsp g hgo h
    · exact nsy g hgo h)
  have hs1 : Hid (w1.heap[sb]? = some (.cells (sCells hb gb (.slice (some ⟨pg, 0, none⟩) 35 pc) self nn f view hi lv) 51 (0,0))) := hs1'
  have hpay1 : Hid (w1.ownsRow B 5 1 (.slice (some ⟨pg, 0, none⟩) 35 pc) 35 (payCells V)) := hpay1'
  have hg1 : Hid (w1.heap[gb]? = some (.cells #[.int .u8 tag, pays', ver] 33 (0,0))) := hg1'
  have hpays1 : Hid (w1.ownsRow B 39 1 pays' (m0 + 1) (ps ++ [.slice (some ⟨cb, 0, none⟩) 35 35])) := hpays1'
  have hcopy1 : Hid (w1.heap[cb]? = some (.cells (payCells V).toArray 5 (0,0))) := hcopy1'
  have hsig1 : Hid (w1.heap[gg]? = some (.cells #[.int .u8 tag, .int .u8 35, .int .u8 m0] 5 (0,0))) := hsig1'
  have hh1 : Hid (w1.heap[hb]? = some (.cells #[sends, prop, x, y] 29 (0,0))) := hh1'
  have hsends1 : Hid (w1.ownsRow B 71 7 sends k0 xs) := hsends1'
  have U1 : Hid (Upd (sb :: gb :: hb :: (pv.ownBlock.toList ++ pays.ownBlock.toList ++ sends.ownBlock.toList)) w w1) := hu1.mono (by
    intro j hj
    simp at hj ⊢
    rcases hj with h | h | h | h
    · exact .inl h
    · exact .inr (.inl h)
    · exact .inr (.inr (.inr (.inl h)))
    · exact .inr (.inr (.inr (.inr (.inl h)))))
  have hB1 : B ≤ w1.heap.size := by have := hu1.size; omega
  have hzw : w.heap.size ≤ w1.heap.size := hu1.size
  clear hs1' hpay1' hg1' hpays1' hcopy1' hsig1' hh1' hsends1' hu1
  have c4 : w1.cell? ⟨sb, 4, none⟩ = some (.int .i64 nn) := cell_at hs1.out 4
  have hl1 : sb < w1.heap.size := by omega
  go_wp2_with fail
  generalize hw2 : w1.alloc (.cells #[.int .u8 1, .int .u64 V, .int .u64 0, .slice none 0 0, .bool false, .slice (some ⟨gg, 0, none⟩) 3 3] 65) = w2
  have hM2 : Hid (w2.heap[w1.heap.size]? = some (.cells #[.int .u8 1, .int .u64 V, .int .u64 0, .slice none 0 0, .bool false, .slice (some ⟨gg, 0, none⟩) 3 3] 65 (0,0))) := by rw [← hw2]; exact heap_last w1 _ _ rfl
  have hU12 : Hid (Upd [] w1 w2) := by rw [← hw2]; exact Upd.alloc (Upd.refl [] w1) _
  have hz2 : w2.heap.size = w1.heap.size + 1 := by rw [← hw2]; simp
  have hB2 : B ≤ w2.heap.size := by omega
  clear hw2 c4
  have nMh : w1.heap.size ≠ hb := by omega
  have nMs : sends.ownBlock ≠ some w1.heap.size := by
    intro h
    obtain ⟨_, h1, _⟩ := owns_block hsends1.out h
    have := lt_of_heap h1
    omega
  have hmT : w1.heap.size ∉ hb :: sends.ownBlock.toList := by simp; exact ⟨nMh, nMs⟩
  have hsT : sb ∉ hb :: sends.ownBlock.toList := by simp; exact ⟨Ne.symm nhs, nss⟩
  have hs2 : Hid (w2.heap[sb]? = some (.cells (sCells hb gb (.slice (some ⟨pg, 0, none⟩) 35 pc) self nn f view hi lv) 51 (0,0))) := hU12.out.keep hs1.out (by simp)
  go_loopw [17] (fun i wr => ∃ (k : Nat) (sends' : Value), k ≤ nn ∧ i = .int .i64 k ∧ Hid (wr.heap[hb]? = some (.cells #[sends', prop, x, y] 29 (0,0))) ∧ Hid (wr.ownsRow B 71 7 sends' (k0 + (others self k).length) (xs ++ sentTo self V (.slice (some ⟨gg, 0, none⟩) 3 3) k)) ∧ Hid (Upd (hb :: sends.ownBlock.toList) w2 wr) ∧ Hid (∀ g, sends'.ownBlock = some g → sends.ownBlock = some g ∨ w2.heap.size ≤ g)) (fun i _ => nn - (intOf i).toNat)
  case atStart => exact ⟨0, sends, by omega, rfl, hU12.out.keep hh1.out (by simp), (by show w2.ownsRow _ _ _ _ _ _; simpa [others, sentTo] using hU12.out.owns hsends1.out (by simp)), Upd.refl _ _, fun g h => .inl h⟩
  case round =>
    obtain ⟨k, sends', hk, rfl, hhr, hsr, hur, har⟩ := hrel
    have hsr0 : Hid (wr.heap[sb]? = some (.cells (sCells hb gb (.slice (some ⟨pg, 0, none⟩) 35 pc) self nn f view hi lv) 51 (0,0))) := hur.out.keep hs2.out hsT
    have hMr : Hid (wr.heap[w1.heap.size]? = some (.cells #[.int .u8 1, .int .u64 V, .int .u64 0, .slice none 0 0, .bool false, .slice (some ⟨gg, 0, none⟩) 3 3] 65 (0,0))) := hur.out.keep hM2.out hmT
    have hol := others_len self k
    have hBr : B ≤ wr.heap.size := by have := hur.out.size; omega
    have r3 : wr.cell? ⟨sb, 3, none⟩ = some (.int .i64 self) := cell_at hsr0.out 3
    have r0 : wr.cell? ⟨sb, 0, none⟩ = some (.iface 25 (.pointer (some ⟨hb, 0, none⟩))) := cell_at hsr0.out 0
    have m0' : wr.cell? ⟨w1.heap.size, 0, none⟩ = some (.int .u8 1) := cell_at hMr.out 0
    have m1' : wr.cell? ⟨w1.heap.size, 1, none⟩ = some (.int .u64 V) := cell_at hMr.out 1
    have m2' : wr.cell? ⟨w1.heap.size, 2, none⟩ = some (.int .u64 0) := cell_at hMr.out 2
    have m3' : wr.cell? ⟨w1.heap.size, 3, none⟩ = some (.slice none 0 0) := cell_at hMr.out 3
    have m4' : wr.cell? ⟨w1.heap.size, 4, none⟩ = some (.bool false) := cell_at hMr.out 4
    have m5' : wr.cell? ⟨w1.heap.size, 5, none⟩ = some (.slice (some ⟨gg, 0, none⟩) 3 3) := cell_at hMr.out 5
    by_cases hlt' : k < nn
    · by_cases hks : k = self
      · subst hks
        have hne : ((k : Int) != (k : Int)) = false := by simp
        go_wp2
        go_roundw
        case rel => exact ⟨k + 1, sends', by omega, by go_num, hhr, (by rw [others_self, sentTo_self]; exact hsr.out), hur, har⟩
        case measure => simp [intOf]; omega
      · have hne : ((k : Int) != (self : Int)) = true := by rw [bne_iff_ne]; omega
        have hT0 : ∀ j, sends'.ownBlock = some j → j ≠ sb ∧ j ≠ w1.heap.size := by
          intro j hj
          refine ⟨fun e => owns_ne hsr.out hsr0.out (by decide) (e ▸ hj), fun e => owns_ne hsr.out hMr.out (by decide) (e ▸ hj)⟩
        have hT1 : sb ∉ hb :: sends'.ownBlock.toList := by
          simp
          exact ⟨Ne.symm nhs, fun h => (hT0 _ h).1 rfl⟩
        have hT2 : w1.heap.size ∉ hb :: sends'.ownBlock.toList := by
          simp
          exact ⟨nMh, fun h => (hT0 _ h).2 rfl⟩
        go_wp2_with fail
        refine wp_region_lex [0,0,0,1,0,1,2] (fun w' => Upd (hb :: sends'.ownBlock.toList) wr w') (by kernel_rfl) (by kernel_rfl) (fun _ _ _ _ _ h => h) ((Upd.refl _ wr).drew) ?_
        simp only [List.zip_cons_cons, List.zip_nil_right]
        repeat (first
          | (refine lex0 ?_ rfl ?_ ?_; rotate_left; (focus (intro w'; go_simp; (first | done | with_reducible rfl))); simp only [Act.put, List.setIfInBounds_toArray, List.set_cons_zero, List.set_cons_succ])
          | (refine lex1 ?_ rfl ?_ ?_; rotate_left; (focus (intro w' hSw; replace hSw : Upd (hb :: sends'.ownBlock.toList) wr w' := hSw; have e1 := hSw.cell r0 hT1; have e2 := hSw.cell m0' hT2; have e3 := hSw.cell m1' hT2; have e4 := hSw.cell m2' hT2; have e5 := hSw.cell m3' hT2; have e6 := hSw.cell m4' hT2; have e7 := hSw.cell m5' hT2; go_simp; (first | done | with_reducible rfl))); simp only [Act.put, List.setIfInBounds_toArray, List.set_cons_zero, List.set_cons_succ]))
        refine lex2 (fun K hK => ?_)
        go_simp
        refine (send_any B hb (k0 + (others self k).length) k V wr.drew sends' prop x y _ (some ⟨gg, 0, none⟩) 3 3 hBr hsr.out.drew (by omega) hhr.out).mono ?_
        rintro e wn ⟨rfl, sends'', hhn, hsn, hun, han⟩
        refine hK _ _ ((Upd.refl _ wr).drew.transTo hun (fun i hi => .inl hi)) ?_
        clear hK K
        try simp only [Act.put, List.setIfInBounds_toArray, List.set_cons_zero, List.set_cons_succ]
        refine lexE ?_
        clear r3 r0 m0' m1' m2' m3' m4' m5'
        go_wp2
        go_roundw
        case rel =>
          refine ⟨k + 1, sends'', by omega, by go_num, hhn, ?_, ?_, ?_⟩
          · show wn.ownsRow _ _ _ _ _ _
            rw [others_succ hks, sentTo_succ _ _ hks, List.length_append, ← List.append_assoc]
            exact hsn
          · refine Upd.transTo hur.out.drew hun ?_
            intro j hj
            simp at hj
            rcases hj with h | h
            · exact .inl (by simp [h])
            · rcases har.out j h with h2 | h2
              · exact .inl (by simp [h2])
              · exact .inr h2
          · intro g hgo
            rcases han g hgo with h | h
            · exact har.out g h
            · exact .inr (by have := hur.out.size; simp at h; omega)
        case measure => simp [intOf]; omega
    · have hkn : k = nn := by omega
      subst hkn
      have hsT1 : gb ∉ hb :: sends.ownBlock.toList := by simp; exact ⟨Ne.symm nhg, nsg⟩
      have hcbT : cb ∉ hb :: sends.ownBlock.toList := by
        simp
        refine ⟨by omega, fun h => ?_⟩
        obtain ⟨_, h1, _⟩ := owns_block Hsends.out h
        have := lt_of_heap h1
        omega
      have hggT : gg ∉ hb :: sends.ownBlock.toList := by
        simp
        refine ⟨by omega, fun h => ?_⟩
        obtain ⟨_, h1, _⟩ := owns_block Hsends.out h
        have := lt_of_heap h1
        omega
      have hW : Wished B hb gb sb gh self k k0 m0 tag V k f view pv sends prop x y hi lv pays ver xs ps w wr gg cb pg pc sends' pays' := by
        refine ⟨hsr0.out, ?_, hur.out.keep (hU12.out.keep hg1.out (by simp)) hsT1, ?_, hur.out.keep (hU12.out.keep hcopy1.out (by simp)) hcbT, hur.out.keep (hU12.out.keep hsig1.out (by simp)) hggT, hcb0, hpgcb, hcbgg, hhr.out, hsr.out, ?_, hpgA, hpaysA, ?_⟩
        · refine hur.out.owns (hU12.out.owns hpay1.out (by simp)) ?_
          intro g hgo hmm
          simp [Value.ownBlock] at hgo
          subst hgo
          obtain ⟨_, h1, _⟩ := owns_open hpay1.out
          simp at hmm
          rcases hmm with h | h
          · exact ne_elem h1 hh1.out (by decide) h
          · exact owns_ne hsends1.out h1 (by decide) h
        · refine hur.out.owns (hU12.out.owns hpays1.out (by simp)) ?_
          intro g hgo hmm
          obtain ⟨_, h1, _⟩ := owns_block hpays1.out hgo
          simp at hmm
          rcases hmm with h | h
          · exact ne_elem h1 hh1.out (by decide) h
          · exact owns_ne hsends1.out h1 (by decide) h
        · refine Upd.transTo (Upd.transTo U1.out hU12.out (by simp)) hur.out ?_
          intro j hj
          simp at hj ⊢
          rcases hj with h | h
          · exact .inl (.inr (.inr (.inl h)))
          · exact .inl (.inr (.inr (.inr (.inr (.inr h)))))
        · intro g hgo
          rcases har.out g hgo with h | h
          · exact .inl h
          · exact .inr (by omega)
      have hW' : Wished B hb gb sb gh self k k0 m0 tag V k f view pv sends prop x y hi lv pays ver xs ps w wr.drew gg cb pg pc sends' pays' :=
        ⟨hW.f_s, hW.f_pay, hW.f_g, hW.f_pays, hW.f_copy, hW.f_sig, hW.f_cb0, hW.f_pgcb, hW.f_cbgg, hW.f_h, hW.f_sent, hW.f_upd.drew, hW.f_pgA, hW.f_paysA, hW.f_sendsA⟩
      have hhold := Hhold.out wr.drew gg cb pg pc sends' pays' hW'
      have HHold : Hid (Calls Ybaf.prog 14 #[.pointer (some ⟨sb, 0, none⟩), .int .u64 V, .agg #[.int .i64 self, .slice (some ⟨gg, 0, none⟩) 3 3]] wr.drew fun e w4 => e = .returned (.tuple #[]) ∧ Post wr.drew w4 gg pg pc sends') := hhold
      clear hhold
      go_wp2_with fail
      go_region_with (go_at_call 14; refine HHold.out.mono ?_; rintro e w4 ⟨rfl, hpost⟩)
      all_goals
        go_wp2
        go_end0
        exact ⟨rfl, wr.drew, gg, cb, pg, pc, sends', pays', hW', hpost⟩
end Go.Proofs.YbulkcskmFmt
