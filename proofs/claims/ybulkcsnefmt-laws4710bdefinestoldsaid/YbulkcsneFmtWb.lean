/-
  WALKS, SECOND PART: Bool, the setter that Bool makes, zzs4710cbuild.
-/
import Derived.Test.YbulkcsneFmtWa
namespace Go.Proofs.YbulkcsneFmt
open Go.RowKit Go.Lib
attribute [local go_sem ↓] Go.wp_at_zero Go.wp_at_succ

set_option maxRecDepth 100000 in
set_option maxHeartbeats 1000000 in
theorem bool_any (B sb : Nat) (pa : Addr) (l : Int) (us : ByteArray) (w : World) (p0 p1 ov p3 : Value) (os : List Opt) (hB : B ≤ w.heap.size)
    (hs : w.heap[sb]? = some (.cells #[p0, p1, ov, p3] 28 (0,0))) (hown : w.ownsRow B 38 4 ov os.length (ocs os)) (hn : os.length ≤ 100000)
    (hno : ∀ (i : Nat) (o : Opt), os[i]? = some o → o.1 ≠ l) (hl : l ≠ 104) :
    Calls Ybaf.prog 7 #[.pointer (some ⟨sb, 0, none⟩), .pointer (some pa), .int .i32 l, .string us] w
      fun e w' => e = .returned (.tuple #[]) ∧ ∃ ov', w'.heap[sb]? = some (.cells #[p0, p1, ov', p3] 28 (0,0)) ∧ w'.heap[w.heap.size]? = some (.cells #[.pointer (some pa)] 32 (0,0)) ∧
        w'.ownsRow B 38 4 ov' (os.length + 1) (ocs os ++ oc (l, ⟨#[]⟩, us, .func (.func 15) #[] #[.pointer (some ⟨w.heap.size, 0, none⟩)])) ∧ Upd (sb :: ov.ownBlock.toList) w w' ∧ (∀ g, ov'.ownBlock = some g → ov.ownBlock = some g ∨ w.heap.size ≤ g) := by
  have Hs : Hid (w.heap[sb]? = some (.cells #[p0, p1, ov, p3] 28 (0,0))) := hs
  have Hno : Hid (∀ (i : Nat) (o : Opt), os[i]? = some o → o.1 ≠ l) := hno
  have Hown : Hid (w.ownsRow B 38 4 ov os.length (ocs os)) := hown
  have Hl : Hid (l ≠ 104) := hl
  clear hs hno hown hl
  go_enter Ybaf.func7, Ybaf.ntmps7
  go_wp2_with fail
  refine (define_any B sb l ⟨#[]⟩ us (.func (.func 15) #[] #[.pointer (some ⟨w.heap.size, 0, none⟩)]) (w.alloc (.cells #[.pointer (some pa)] 32)) p0 p1 ov p3 os (by simp; omega) (heap_past Hs.out _) (Hown.out.alloc _) hn Hno.out Hl.out rfl).mono ?_
  rintro e w' ⟨rfl, ov', h1, h2, h3, h4⟩
  go_wp2
  go_end0
  have hn1 : w.heap.size ≠ sb := by have := lt_of_heap Hs.out; omega
  have hn2 : ∀ g, ov.ownBlock = some g → g ≠ w.heap.size := by
    intro g hg
    obtain ⟨cur, hh, _⟩ := owns_block Hown.out hg
    have := lt_of_heap hh; omega
  refine ⟨rfl, ov', h1, h3.keep (heap_last w _ _ rfl) (by simp; exact ⟨hn1, fun hg => hn2 _ hg rfl⟩), h2, (Upd.alloc (Upd.refl _ _) _).transTo h3 (fun i hi => .inl hi), ?_⟩
  intro g hg
  rcases h4 g hg with h | h
  · exact .inl h
  · simp at h; exact .inr (by omega)

set_option maxRecDepth 100000 in
set_option maxHeartbeats 1000000 in
theorem set_bool (k pb : Nat) (b : Bool) (s : ByteArray) (w : World) (hk : w.heap[k]? = some (.cells #[.pointer (some ⟨pb, 0, none⟩)] 32 (0,0))) (hp : w.heap[pb]? = some (.cells #[.bool b] 4 (0,0))) :
    Calls Ybaf.prog 15 #[.string s, .pointer (some ⟨k, 0, none⟩)] w
      fun e w' => e = .returned .nilIface ∧ w' = w.setCell ⟨pb, 0, none⟩ (.bool true) := by
  have c0 : w.cell? ⟨k, 0, none⟩ = some (.pointer (some ⟨pb, 0, none⟩)) := cell_at hk 0
  have c1 : w.cell? ⟨pb, 0, none⟩ = some (.bool b) := cell_at hp 0
  have f1 := free_at hp 0
  clear hk hp
  go_enter Ybaf.func15, Ybaf.ntmps15
  go_wp2
  go_ret
  exact ⟨rfl, rfl⟩

/-- The sixteen letters. -/
def letters : ByteArray := ⟨#[97, 98, 99, 100, 101, 102, 103, 105, 106, 107, 108, 109, 110, 111, 112, 113]⟩
theorem letters_size : letters.size = 16 := by decide +kernel
/-- The letter at index i (0 outside). -/
def letterAt (i : Int) : Int := ((letters[i.toNat]?).getD 0).toNat
@[go_sem high] theorem fold_letters : (⟨#[97, 98, 99, 100, 101, 102, 103, 105, 106, 107, 108, 109, 110, 111, 112, 113]⟩ : ByteArray) = letters := rfl
@[go_sem high] theorem run_index_letters {P : Program} (w : World) (t : TypeId) (k : IntKind) (i : Int) (h : P.underlying t = some .string) (h0 : 0 ≤ i) (h1 : i ≤ 15) :
    (Instr.index t (.string letters) (.int k i)).run P w = .ok (.int .u8 (letterAt i)) w := by
  have hi : 0 ≤ i ∧ i < (letters.size : Int) := by rw [letters_size]; omega
  have h2 : i.toNat < letters.size := by rw [letters_size]; omega
  rw [run_index_string w t letters k i h, dif_pos hi]
  simp only [letterAt, ByteArray.getElem?_lt' _ _ h2, Option.getD_some]
theorem letterAt_all : ∀ n, n < 16 → 97 ≤ letterAt (n : Nat) ∧ letterAt (n : Nat) ≤ 113 ∧ letterAt (n : Nat) ≠ 104 := by decide +kernel
theorem letterAt_ok {i : Int} (h0 : 0 ≤ i) (h1 : i ≤ 15) : 97 ≤ letterAt i ∧ letterAt i ≤ 113 ∧ letterAt i ≠ 104 := by
  have := letterAt_all i.toNat (by omega)
  rwa [Int.toNat_of_nonneg h0] at this

/-- What the builder's options are: another letter than 'nl', no value, the usage 'u'. -/
def Plain (nl : Int) (os : List Opt) : Prop := ∀ (i : Nat) (o : Opt), os[i]? = some o → o.1 ≠ nl ∧ o.2.1 = ⟨#[]⟩ ∧ o.2.2.1 = ⟨#[117]⟩

set_option maxRecDepth 100000 in
set_option maxHeartbeats 4000000 in
theorem build_any (n c : Nat) (a : Option Addr) (x0 : Addr) (nl : Int) (ca : Addr) (w : World) (hn : n ≤ 1024) (ha : a = none → n = 0) (ha2 : ∀ x, a = some x → x = x0)
    (hp : ∀ i, i < n → ∃ x, w.cell? (x0.add i) = some (.int .u8 x) ∧ 0 ≤ x ∧ x ≤ 255) :
    Calls Ybaf.prog 12 #[.slice a n c, .int .i32 nl, .pointer (some ca)] w
      fun e w' => ∃ (os : List Opt) (ov : Value) (sb : Nat), e = .returned (.pointer (some ⟨sb, 0, none⟩)) ∧ w.heap.size ≤ sb ∧ w'.heap[sb]? = some (.cells #[.string ⟨#[112, 114, 111, 103]⟩, .string ⟨#[111, 112, 115]⟩, ov, .nilIface] 28 (0,0)) ∧
        w'.ownsRow w.heap.size 38 4 ov os.length (ocs os) ∧ os.length ≤ n ∧ Plain nl os ∧ Upd [] w w' := by
  obtain ⟨i0, hi, hz0, hz1, hz2⟩ := info_parts Ybaf.info38
  have Hp : Hid (∀ i, i < n → ∃ x, w.cell? (x0.add i) = some (.int .u8 x) ∧ 0 ≤ x ∧ x ≤ 255) := hp
  have Ha : Hid (a = none → n = 0) := ha
  have Ha2 : Hid (∀ x, a = some x → x = x0) := ha2
  clear hp ha ha2
  go_enter Ybaf.func12, Ybaf.ntmps12
  go_wp2_with fail
  go_loopw [17] (fun i wr => ∃ (k : Nat) (os : List Opt) (ov : Value), k ≤ n ∧ i = .int .i64 k ∧ Hid (wr.heap[w.heap.size + 1]? = some (.cells #[.string ⟨#[112, 114, 111, 103]⟩, .string ⟨#[111, 112, 115]⟩, ov, .nilIface] 28 (0,0)) ∧
        wr.ownsRow w.heap.size 38 4 ov os.length (ocs os) ∧ os.length ≤ k ∧ Plain nl os ∧ Upd [] w wr)) (fun i _ => n - (intOf i).toNat)
  case atStart => exact ⟨0, [], .slice none 0 0, by omega, rfl, heap_last _ _ _ (by simp), ⟨rfl, .inl ⟨rfl, rfl⟩⟩, by simp, by intro i o h; simp at h, (Upd.refl _ w).alloc _ |>.alloc _⟩
  case round =>
    obtain ⟨k, os, ov, hk, rfl, hinv⟩ := hrel
    by_cases hlt : k < n
    · obtain ⟨x, hx, hx0, hx1⟩ := Hp.out k hlt
      obtain ⟨x', ha⟩ : ∃ x', a = some x' := by
        cases h : a with
        | none => have := Ha.out h; omega
        | some y => exact ⟨y, rfl⟩
      rw [Ha2.out x' ha] at ha
      subst ha
      obtain ⟨hinv1, hinv2, hinv3, hinv4, hinv5⟩ := hinv.out
      clear hinv
      have cx : wr.cell? (x0.add k) = some (.int .u8 x) := hinv5.cell hx (by simp)
      have hq := letterAt_ok (i := x % 16) (by omega) (by omega)
      obtain ⟨L, hL⟩ : ∃ L, letterAt (x % 16) = L := ⟨_, rfl⟩
      rw [hL] at hq
      have hx16 : (0 : Int) ≤ x % 16 ∧ x % 16 ≤ 15 := by omega
      by_cases hnL : L = nl
      · have hb : (L == nl) = true := by simpa using hnL
        have HI : Hid (wr.heap[w.heap.size + 1]? = some (.cells #[.string ⟨#[112, 114, 111, 103]⟩, .string ⟨#[111, 112, 115]⟩, ov, .nilIface] 28 (0,0)) ∧
          wr.ownsRow w.heap.size 38 4 ov os.length (ocs os) ∧ os.length ≤ k ∧ Plain nl os ∧ Upd [] w wr) := ⟨hinv1, hinv2, hinv3, hinv4, hinv5⟩
        clear hinv1 hinv2 hinv4 hinv5 hx
        go_wp2
        go_roundw
        case rel => exact ⟨k + 1, os, ov, by omega, by go_num, HI.out.1, HI.out.2.1, by omega, HI.out.2.2.2.1, HI.out.2.2.2.2⟩
        case measure => simp [intOf]; omega
      · have hb : (L == nl) = false := by simpa using hnL
        obtain ⟨sa, sc, rfl, hsa⟩ := owns_slice hinv2
        have c2 : wr.cell? ⟨w.heap.size + 1, 2, none⟩ = some (.slice sa os.length sc) := cell_at hinv1 2
        have hne := owns_ne hinv2 hinv1 (by decide)
        have hlt2 := lt_of_heap hinv1
        have H1 : Hid (wr.heap[w.heap.size + 1]? = some (.cells #[.string ⟨#[112, 114, 111, 103]⟩, .string ⟨#[111, 112, 115]⟩, .slice sa os.length sc, .nilIface] 28 (0,0))) := hinv1
        have H2 : Hid (wr.ownsRow w.heap.size 38 4 (.slice sa os.length sc) os.length (ocs os)) := hinv2
        have H4 : Hid (Plain nl os ∧ Upd [] w wr) := ⟨hinv4, hinv5⟩
        have Hnl : Hid (L ≠ nl) := hnL
        obtain ⟨m, hm⟩ : ∃ m, m = os.length := ⟨_, rfl⟩
        have Hm : Hid (m = os.length) := hm
        rw [← hm] at c2 H1 H2 hne hinv3
        clear hinv1 hinv2 hinv4 hinv5 hx hnL hsa hm
        go_wp2_with fail
        go_loop [11, 34] (fun d i => ∃ (j : Nat) (d' : Bool), j ≤ m ∧ i = .int .i64 j ∧ d = .bool d') (fun _ i => m - (intOf i).toNat)
        case atStart => exact ⟨0, false, by omega, rfl, rfl⟩
        case round =>
          obtain ⟨j, d', hj, rfl, rfl⟩ := hrel
          by_cases hjl : j < m
          · have hos : os[j]? = some (os[j]'(by rw [← Hm.out]; exact hjl)) := List.getElem?_eq_getElem _
            generalize os[j]'(by rw [← Hm.out]; exact hjl) = o at hos
            obtain ⟨sg, cap, hsv, _, _⟩ := H2.out.form (by omega)
            simp only [Value.slice.injEq] at hsv
            obtain ⟨rfl, _, rfl⟩ := hsv
            have c0 : wr.cell? ⟨sg, j * 4, none⟩ = some (.int .i32 o.1) := opt_cell H2.out hos 0 _ (by omega) rfl
            clear hos
            cases hd : (o.1 == L)
            · go_wp2
              go_round
              case rel => exact ⟨j + 1, d', by omega, by go_num, rfl⟩
              case measure => simp [intOf]; omega
            · go_wp2
              go_round
              case rel => exact ⟨j + 1, true, by omega, by go_num, rfl⟩
              case measure => simp [intOf]; omega
          · cases d'
            · have hf1 := free_at H1.out 2
              go_wp2_with (at_builtin; go_must (refine wpList_append_lies _ rfl _ _ _ rfl w.heap.size 38 i0 _ 4 48 Ybaf.underlying24 hi hz0 hz1 hz2 rfl (by omega) (.slice sa m sc) m (ocs os) rfl (H2.out.alloc _) ⟨wr.heap.size, 0, none⟩ 1 1 (oc (L, ⟨#[]⟩, ⟨#[117]⟩, .func (.func 21) #[] #[.pointer (some ⟨w.heap.size, 0, none⟩)])) rfl (by rfl) (World.news_of_block (cs := (oc (L, ⟨#[]⟩, ⟨#[117]⟩, .func (.func 21) #[] #[.pointer (some ⟨w.heap.size, 0, none⟩)])).toArray) (t := 38) (fr := (0, 0)) (heap_last wr _ _ (by simp))) (by simp [oc, Value.oneCell']) (by omega) (by unfold maxLen; omega) (by omega) (by simp; omega) (wr.heap.size + 1) (by simp) ?_); intro gg cap w1 hown1 hgrow hat hlt1; have hh1 : Hid (w1.heap[w.heap.size + 1]? = some (.cells #[.string ⟨#[112, 114, 111, 103]⟩, .string ⟨#[111, 112, 115]⟩, .slice sa m sc, .nilIface] 28 (0,0))) := (hgrow.block (w.heap.size + 1) (by simp; omega) (Ne.symm hne)).trans (heap_past H1.out _); have hf2 := free_at hh1.out 2; have hc2 : w1.cell? ⟨w.heap.size + 1, 2, none⟩ = some (.slice sa m sc) := cell_at hh1.out 2)
              go_roundw
              case rel =>
                refine ⟨k + 1, os ++ [(L, ⟨#[]⟩, ⟨#[117]⟩, .func (.func 21) #[] #[.pointer (some ⟨w.heap.size, 0, none⟩)])], .slice (some ⟨gg, 0, none⟩) (m + 1) cap, by omega, by go_num, set_at hh1.out 2 _, ?_, ?_, ?_, ?_⟩
                · have e1 : (os ++ [(L, (⟨#[]⟩ : ByteArray), (⟨#[117]⟩ : ByteArray), Value.func (.func 21) #[] #[.pointer (some ⟨w.heap.size, 0, none⟩)])]).length = m + 1 := by rw [Hm.out]; simp
                  rw [e1, ocs_snoc]
                  exact owns_set hown1 (owns_ne hown1 hh1.out (by decide)) _
                · rw [List.length_append, ← Hm.out]; simp; omega
                · intro i o h
                  rcases Nat.lt_or_ge i os.length with h1 | h1
                  · rw [List.getElem?_append_left h1] at h
                    exact H4.out.1 i o h
                  · rw [List.getElem?_append_right h1] at h
                    obtain ⟨h2, rfl⟩ : i - os.length = 0 ∧ (L, (⟨#[]⟩ : ByteArray), (⟨#[117]⟩ : ByteArray), Value.func (.func 21) #[] #[.pointer (some ⟨w.heap.size, 0, none⟩)]) = o := by
                      cases hh : i - os.length with
                      | zero => rw [hh] at h; exact ⟨rfl, by simpa using h⟩
                      | succ q => rw [hh] at h; simp at h
                    exact ⟨Hnl.out, rfl, rfl⟩
                · refine H4.out.2.transTo (T := [w.heap.size + 1] ++ (Value.slice sa m sc).ownBlock.toList) (Upd.setCell (Upd.grown (Upd.alloc (Upd.refl _ _) _) hgrow ?_) ?_ _) ?_
                  · intro k hk; left; rw [hk]; simp
                  · left; simp
                  · intro i hi'
                    right
                    simp at hi'
                    rcases hi' with rfl | hi'
                    · omega
                    · obtain ⟨_, _, hge⟩ := owns_block H2.out hi'; exact hge
              case measure => simp [intOf]; omega
            · go_wp2
              go_roundw
              case rel => exact ⟨k + 1, os, _, by omega, by go_num, H1.out, (by rw [← Hm.out]; exact H2.out), by have := Hm.out; omega, H4.out.1, H4.out.2⟩
              case measure => simp [intOf]; omega
    · go_wp2
      go_ret
      exact ⟨os, ov, w.heap.size + 1, rfl, by omega, hinv.out.1, hinv.out.2.1, by have := hinv.out.2.2.1; omega, hinv.out.2.2.2.1, hinv.out.2.2.2.2⟩

end Go.Proofs.YbulkcsneFmt
