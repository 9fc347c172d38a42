/-
  THE WALK of net/url.escape at the mode of a path.
-/
import Derived.Test.Qxb6627573aDoorHex
import Derived.Deep.DeepCutAuto
namespace Go.Proofs.Qxb6627573aDoor
open Go.RowKit Pct

/-! ### Plain: how long the spelling is -/
def cnt (l : List UInt8) : Nat := (l.filter fun c => !keptN c.toNat).length
def e1 (c : UInt8) : List UInt8 := if keptN c.toNat then [c] else [37, Pct.hexDigit (c.toNat / 16), Pct.hexDigit (c.toNat % 16)]
theorem esc_append (a b : List UInt8) : esc (a ++ b) = esc a ++ esc b := by
  induction a with
  | nil => rfl
  | cons c t ih => rw [List.cons_append, esc, esc, ih, List.append_assoc]
theorem esc_one (c : UInt8) : esc [c] = e1 c := by rw [esc]; simp [esc, e1]
theorem esc_len (l : List UInt8) : (esc l).length = l.length + 2 * cnt l := by
  induction l with
  | nil => rfl
  | cons c t ih =>
    rw [esc, List.length_append, ih]
    unfold cnt
    by_cases h : keptN c.toNat = true
    · simp [h]; omega
    · simp [h]; omega
theorem esc_id (l : List UInt8) (h : cnt l = 0) : esc l = l := by
  induction l with
  | nil => rfl
  | cons c t ih =>
    unfold cnt at h ih
    rw [esc]
    by_cases hk : keptN c.toNat = true
    · rw [if_pos hk, ih (by simpa [hk] using h)]; rfl
    · simp [hk] at h
theorem take_snoc (s : ByteArray) (k : Nat) (h : k < s.size) : s.data.toList.take (k + 1) = s.data.toList.take k ++ [s[k]] := by
  rw [List.take_succ_eq_append_getElem (by simpa using h)]; rfl
theorem cnt_snoc (l : List UInt8) (c : UInt8) : cnt (l ++ [c]) = cnt l + if keptN c.toNat then 0 else 1 := by
  unfold cnt
  rw [List.filter_append, List.length_append]
  by_cases h : keptN c.toNat = true <;> simp [h]
theorem cnt_le (l : List UInt8) : cnt l ≤ l.length := List.length_filter_le _ _
theorem len_list' (s : ByteArray) : s.data.toList.length = s.size := by simp
theorem u8_lt' (c : UInt8) : c.toNat < 256 := by have := c.toNat_lt; omega

/-! ### '[]byte(s)' -/
theorem wpList_bytes {w : World} {ops : Array Oper} {rest : List Oper} {o : Oper} {a : Act} {Q : Exit → Act → World → Prop} (hgd : o.guard = none) (x : Operand) (ho : o.op = .convert 9 35 x) (s : ByteArray) (hx : a.eval x = .string s)
    (h : ∀ w' cap, (∀ j (hj : j < s.size), w'.cell? ⟨w.heap.size, j, none⟩ = some (.int .u8 (s[j].toNat : Int))) → Below w.heap.size w w' → w.heap.size < w'.heap.size → wpList Tryd.prog ops Q rest (a.put o.dst (.slice (some ⟨w.heap.size, 0, none⟩) s.size cap)) w') :
    wpList Tryd.prog ops Q (o :: rest) a w := by
  refine wpList_plain hgd fun K hK => ?_
  have hrun := run_bytes_of_string (P := Tryd.prog) w 9 35 5 s Tryd.underlying9 Tryd.underlying35 Tryd.underlying5
  unfold Oper.wp
  simp [execOp, ho, hx, hrun, Result.andThen]
  refine hK _ _ (h _ _ (fun j hj => ?_) ?_ ?_)
  · exact (World.cell?_alloc_mark w.drew _ _ _ j).trans (bytesRow_at s _ j hj)
  · exact ((Below.refl _ w).drew).alloc (Nat.le_refl _) _
  · simp

/-! ### The row that is filled -/
/-- Block 'g' has at least 'n' cells; the first are the bytes 'bs'; below 'B' nothing has turned. -/
def Fil (B : Nat) (w0 wr : World) (g n : Nat) (bs : List UInt8) : Prop := ∃ (T : TypeId) (cs : List Value), wr.heap[g]? = some (.cells cs.toArray T (0, 0)) ∧ n ≤ cs.length ∧ (∀ t (h : t < bs.length), cs[t]? = some (.int .u8 (bs[t].toNat : Int))) ∧ Below B w0 wr
theorem Fil.cell {B : Nat} {w0 wr : World} {g n : Nat} {bs : List UInt8} (h : Fil B w0 wr g n bs) {t : Nat} (ht : t < n) : (∃ x, wr.cell? ⟨g, t, none⟩ = some x) ∧ wr.frozen? ⟨g, t, none⟩ = false := by
  obtain ⟨T, cs, h1, h2, _, _⟩ := h
  exact ⟨⟨cs[t], by simp [World.cell?, h1, show t < cs.length by omega]⟩, by simp [World.frozen?, h1]⟩
theorem Fil.put {B : Nat} {w0 wr : World} {g n : Nat} {bs : List UInt8} (h : Fil B w0 wr g n bs) (hg : B ≤ g) (hb : bs.length < n) (c : UInt8) {v : Int} (hv : v = (c.toNat : Int)) {t : Nat} (ht : t = bs.length) : Fil B w0 (wr.setCell ⟨g, t, none⟩ (.int .u8 v)) g n (bs ++ [c]) := by
  subst hv; subst ht
  obtain ⟨T, cs, h1, h2, h3, h4⟩ := h
  refine ⟨T, cs.set bs.length (.int .u8 (c.toNat : Int)), ?_, by simpa using h2, fun t ht => ?_, h4.setCell hg _⟩
  · rw [setCell_eq_setRow wr g bs.length _ T (0, 0) _ h1, setRow_heap wr g _ _ T _ h1]; simp
  · by_cases e : t = bs.length
    · subst e; simp [show bs.length < cs.length by omega]
    · have ht' : t < bs.length := by simp at ht; omega
      rw [List.getElem?_set_ne (by omega), h3 t ht']
      simp [List.getElem_append_left ht']
theorem Fil.start {B : Nat} {w0 wr : World} {g n : Nat} {T : TypeId} {cs : List Value} (h1 : wr.heap[g]? = some (.cells cs.toArray T (0, 0))) (h2 : n ≤ cs.length) (h4 : Below B w0 wr) : Fil B w0 wr g n [] := ⟨T, cs, h1, h2, fun t h => by simp at h, h4⟩
theorem Fil.keep {B : Nat} {w0 wr w1 : World} {g n : Nat} {bs : List UInt8} (h : Fil B w0 wr g n bs) (hb : Below wr.heap.size wr w1) (hB : B ≤ wr.heap.size) : Fil B w0 w1 g n bs := by
  obtain ⟨T, cs, h1, h2, h3, h4⟩ := h
  have hlt : g < wr.heap.size := (Array.getElem?_eq_some_iff.1 h1).1
  exact ⟨T, cs, by rw [hb.block g hlt]; exact h1, h2, h3, h4.trans (hb.mono hB)⟩

theorem made_row {w : World} {base g n : Nat} {xs : List Value} (h : w.ownsRow base 5 1 (.slice (some ⟨g, 0, none⟩) n n) n xs) : ∃ cs : List Value, w.heap[g]? = some (.cells cs.toArray 5 (0, 0)) ∧ n ≤ cs.length := by
  obtain ⟨_, h⟩ := h
  rcases h with ⟨h, _⟩ | ⟨g', cap, cur, h, _, hh, _, _, hs, _⟩
  · cases h
  · simp only [Value.slice.injEq, Option.some.injEq, Addr.mk.injEq] at h
    obtain ⟨⟨rfl, _⟩, _, rfl⟩ := h
    exact ⟨cur.toList, by simpa using hh, by simp; omega⟩
theorem take_esc (s : ByteArray) (k : Nat) (h : k < s.size) : esc (s.data.toList.take (k + 1)) = esc (s.data.toList.take k) ++ e1 s[k] := by
  rw [take_snoc s k h, esc_append, esc_one]
theorem take_len (s : ByteArray) (k : Nat) (h : k < s.size) : (esc (s.data.toList.take k)).length + (e1 s[k]).length ≤ (esc s.data.toList).length := by
  have e : s.data.toList = s.data.toList.take (k + 1) ++ s.data.toList.drop (k + 1) := (List.take_append_drop _ _).symm
  have e2 := congrArg (fun l => (esc l).length) e
  simp only [esc_append, List.length_append] at e2
  rw [e2, take_esc s k h, List.length_append]
  omega
/-- Block 'h' holds the string's bytes. -/
def Src (wr : World) (h : Nat) (s : ByteArray) : Prop := ∀ j (hj : j < s.size), wr.cell? ⟨h, j, none⟩ = some (.int .u8 (s[j].toNat : Int))
theorem Src.set {wr : World} {h : Nat} {s : ByteArray} (H : Src wr h s) {g t : Nat} (hg : h ≠ g) (v : Value) : Src (wr.setCell ⟨g, t, none⟩ v) h s := fun j hj => by
  rw [World.cell?_of_block (w := wr) (Below.heap_setCell wr ⟨g, t, none⟩ v h hg)]
  exact H j hj
theorem U_fin : ∀ i : Fin 16, ((⟨#[48, 49, 50, 51, 52, 53, 54, 55, 56, 57, 65, 66, 67, 68, 69, 70]⟩ : ByteArray)[i.val]'(i.isLt)).toNat = (Pct.hexDigit i.val).toNat := by decide
theorem U_val (X : Int) (i : Nat) (hX : X = (i : Int)) (hi : i < 16) (h : X.toNat < (⟨#[48, 49, 50, 51, 52, 53, 54, 55, 56, 57, 65, 66, 67, 68, 69, 70]⟩ : ByteArray).size) :
    (((⟨#[48, 49, 50, 51, 52, 53, 54, 55, 56, 57, 65, 66, 67, 68, 69, 70]⟩ : ByteArray)[X.toNat]'h).toNat : Int) = ((Pct.hexDigit i).toNat : Int) := by
  subst hX
  exact congrArg Int.ofNat (U_fin ⟨i, hi⟩)
theorem U_nat (i : Nat) (hi : i < 16) (h : i < (⟨#[48, 49, 50, 51, 52, 53, 54, 55, 56, 57, 65, 66, 67, 68, 69, 70]⟩ : ByteArray).size) :
    (((⟨#[48, 49, 50, 51, 52, 53, 54, 55, 56, 57, 65, 66, 67, 68, 69, 70]⟩ : ByteArray)[i]'h).toNat : Int) = ((Pct.hexDigit i).toNat : Int) := congrArg Int.ofNat (U_fin ⟨i, hi⟩)
theorem slice_buf (b R : Nat) (X : Int) (hX : X = (R : Int)) (h : R ≤ 64) : ∀ w, (Instr.sliceAt 54 (.pointer (some ⟨b, 0, none⟩)) none (some (.int .i64 X)) none).run Tryd.prog w = .ok (.slice (some ⟨b, 0, none⟩) R 64) w := by
  intro w
  have ht : Tryd.prog.underlying 54 = some (.array (Tryd.prog.arrayLen 54) (Tryd.prog.elem 54)) := by kernel_rfl
  have ha : Tryd.prog.arrayLen 54 = 64 := by kernel_rfl
  have he : Tryd.prog.elem 54 = 5 := by kernel_rfl
  rw [run_sliceAt_array_h w 54 ⟨b, 0, none⟩ ht .i64 X (by omega) (by rw [ha]; omega), he, Tryd.sizeOf5]
  subst hX
  simp [Result.andThen, slicedAt, ha, Addr.add]

set_option maxHeartbeats 4000000 in
set_option maxRecDepth 100000 in
theorem escape_any (s : ByteArray) (w : World) (hs : s.size ≤ 524288) (hT : TabAt w) :
    Calls Tryd.prog 18 #[.string s, .int .u8 1] w fun e w' => e = .returned (.string ⟨(esc s.data.toList).toArray⟩) ∧ Below w.heap.size w w' := by
  have HT : Hid (TabAt w) := hT
  clear hT
  go_enter Tryd.func18, Tryd.ntmps18
  go_wp2_with (refine wpList_bytes rfl (.tmp 16) rfl s rfl ?_; intro w1 cap1 hc1 bel1 lt1)
  have HT1 : Hid (TabAt w1) := HT.out.below bel1
  have HTs := HT1
  go_loop [5, 6, 19] (fun sp n i => ∃ k : Nat, k ≤ s.size ∧ i = .int .i64 k ∧ sp = .int .i64 0 ∧ n = .int .i64 (cnt (s.data.toList.take k) : Nat)) (fun _ _ i => s.size - (intOf i).toNat)
  case atStart => exact ⟨0, Nat.zero_le _, rfl, rfl, rfl⟩
  case round =>
    obtain ⟨k, hk, rfl, rfl, rfl⟩ := hrel
    have hle := cnt_le (s.data.toList.take k)
    have hl : (s.data.toList.take k).length ≤ k := List.length_take_le _ _
    by_cases hlt : k < s.size
    · have hcell := hc1 k hlt
      have hsn := take_snoc s k hlt
      obtain ⟨c, hc⟩ : ∃ c, s[k] = c := ⟨_, rfl⟩
      rw [hc] at hcell hsn
      have hcs := cnt_snoc (s.data.toList.take k) c
      rw [← hsn] at hcs
      generalize cnt (s.data.toList.take k) = n at hle hcs
      have hcl := u8_lt' c
      cases hkp : keptN c.toNat with
      | true =>
        rw [hkp] at hcs
        have HC : Hid (cnt (s.data.toList.take (k + 1)) = n) := by show _ = _; simpa using hcs
        clear hcs hsn hc hc1
        go_wp2_with (go_at_call 21; refine same (should_any _ _ hcl HT1.out) ?_)
        go_round
        case rel => exact ⟨k + 1, by omega, by go_num, rfl, by rw [HC.out]⟩
        case measure => simp [intOf]; omega
      | false =>
        rw [hkp] at hcs
        have HC : Hid (cnt (s.data.toList.take (k + 1)) = n + 1) := by show _ = _; simpa using hcs
        clear hcs hsn hc hc1
        go_wp2_with (go_at_call 21; refine same (should_any _ _ hcl HT1.out) ?_)
        all_goals
          go_round
          case rel => exact ⟨k + 1, by omega, by go_num, rfl, by rw [HC.out]; go_num⟩
          case measure => simp [intOf]; omega
    · obtain rfl : k = s.size := by omega
      have et : s.data.toList.take s.size = s.data.toList := by rw [← len_list', List.take_length]
      rw [et] at hle hl
      rw [et]
      clear et
      have HL : Hid ((esc s.data.toList).length = s.size + 2 * cnt s.data.toList) := by show _ = _; rw [esc_len, len_list']
      by_cases h0 : cnt s.data.toList = 0
      · have HE : Hid (esc s.data.toList = s.data.toList) := esc_id _ h0
        rw [h0]
        go_wp2
        go_ret
        refine ⟨?_, bel1⟩
        rw [HE.out]
        rfl
      · generalize hn : cnt s.data.toList = n at *
        clear hn
        have hnb : n ≤ s.size := by rw [len_list'] at hle; exact hle
        obtain ⟨i0, hi, hz0, hz1, hz2⟩ := info_parts Tryd.info5
        obtain ⟨R, hR⟩ : ∃ R, R = s.size + 2 * n := ⟨_, rfl⟩
        have HR : Hid (R = s.size + 2 * n) := hR
        clear hR
        go_upto_if 50 with fail
        go_cut [10] (fun t wc => ∃ g cp, t = .slice (some ⟨g, 0, none⟩) (s.size + 2 * n) cp ∧ w1.heap.size ≤ g ∧ w1.heap.size < wc.heap.size ∧ Hid (Fil w1.heap.size w1 wc g (s.size + 2 * n) []))
        case first =>
          by_cases h64 : s.size + 2 * n ≤ 64
          · have hsl := slice_buf w1.heap.size (s.size + 2 * n) ((s.size : Int) + 2 * (n : Int)) (by omega) h64
            go_wp2_with (simp only [hsl])
            go_meet
            case rel => exact ⟨_, _, rfl, Nat.le_refl _, by simp, Fil.start (heap_alloc_new _ _) (by simpa using h64) ((Below.refl _ w1).alloc (Nat.le_refl _) _)⟩
          · go_wp2_with (at_make; refine wpList_make_full _ rfl _ _ 35 rfl w1.heap.size 5 i0 (.int .u8 0) 1 Tryd.underlying35 hi hz0 hz1 .i64 .i64 _ _ (s.size + 2 * n) rfl rfl (by omega) (by omega) (by rw [hz2]; omega) (by unfold maxLen; omega) (by simp) ?_; intro w2 own2 grow2)
            obtain ⟨cs, hrow, hlen⟩ := made_row own2
            have b2 : Below w1.heap.size w1 w2 := ((Below.refl _ w1).alloc (Nat.le_refl _) _).grown grow2 (by simp) (by intro k hk; cases hk)
            have hsz : w1.heap.size < w2.heap.size := by have := (Array.getElem?_eq_some_iff.1 hrow).1; simp at this; omega
            go_meet
            have hrow' : w2.heap[w1.heap.size + 1]? = some (.cells cs.toArray 5 (0, 0)) := by simpa using hrow
            case rel => exact ⟨_, _, rfl, by simp, hsz, Fil.start hrow' hlen b2⟩
        case rest =>
          obtain ⟨g, cp, rfl, hg, hsz, hF⟩ := hcut
          clear hi hz0 hz1 hz2 HT HT1 hc1
          have HT2 : Hid (TabAt wc) := by
            obtain ⟨_, _, _, _, _, hb⟩ := hF.out
            exact HTs.out.below hb
          go_wp2_with (refine wpList_bytes rfl (.tmp 75) rfl s rfl ?_; intro w3 cap3 hc3 bel3 lt3)
          have hgl : g < wc.heap.size := by
            obtain ⟨_, _, h1, _⟩ := hF.out
            exact (Array.getElem?_eq_some_iff.1 h1).1
          have F0 : Hid (Fil w1.heap.size w1 w3 g (s.size + 2 * n) [] ∧ Src w3 wc.heap.size s) := ⟨hF.out.keep bel3 (by omega), hc3⟩
          clear hF hc3 bel3 lt3 hsz HT2 h0 hle hl
          go_loopw [13, 78] (fun jv i wr => ∃ k : Nat, k ≤ s.size ∧ i = .int .i64 k ∧ jv = .int .i64 ((esc (s.data.toList.take k)).length : Nat) ∧ Hid (Fil w1.heap.size w1 wr g (s.size + 2 * n) (esc (s.data.toList.take k)) ∧ Src wr wc.heap.size s)) (fun _ i _ => s.size - (intOf i).toNat)
          case atStart => exact ⟨0, Nat.zero_le _, rfl, rfl, F0⟩
          case round =>
            clear F0
            obtain ⟨k, hk, rfl, rfl, hR⟩ := hrel
            obtain ⟨hF, hS⟩ := hR.out
            clear hR
            by_cases hlt : k < s.size
            · have hcell := hS k hlt
              have hte := take_esc s k hlt
              have htl := take_len s k hlt
              rw [HL.out] at htl
              obtain ⟨c, hc⟩ : ∃ c, s[k] = c := ⟨_, rfl⟩
              rw [hc] at hcell hte htl
              have hcl := u8_lt' c
              have HTr : Hid (TabAt wr) := by
                obtain ⟨_, _, _, _, _, hb⟩ := hF
                exact HTs.out.below hb
              generalize hE : esc (s.data.toList.take k) = E at hF hte htl
              cases hkp : keptN c.toNat with
              | true =>
                have he : e1 c = [c] := by simp [e1, hkp]
                rw [he] at hte htl
                simp only [List.length_singleton] at htl
                obtain ⟨⟨x, hx⟩, hfr⟩ := hF.cell (t := E.length) (by omega)
                have HF2 : Hid (Fil w1.heap.size w1 (wr.setCell ⟨g, E.length, none⟩ (.int .u8 (c.toNat : Int))) g (s.size + 2 * n) (esc (s.data.toList.take (k + 1))) ∧ Src (wr.setCell ⟨g, E.length, none⟩ (.int .u8 (c.toNat : Int))) wc.heap.size s) := ⟨hte ▸ hF.put hg (by omega) c rfl rfl, hS.set (by omega) _⟩
                have HLn : Hid ((esc (s.data.toList.take (k + 1))).length = E.length + 1) := by show _ = _; rw [hte]; simp
                generalize E.length = el at hx hfr HF2 HLn htl
                have h32 : c.toNat ≠ 32 := by intro h; rw [h] at hkp; revert hkp; decide
                clear hF hS hte hc hE he
                go_wp2_with (go_at_call 21; refine same (should_any _ _ hcl HTr.out) ?_)
                go_roundw
                case rel => exact ⟨k + 1, by omega, by go_num, by rw [HLn.out]; go_num, HF2⟩
                case measure => simp [intOf]; omega
              | false =>
                have he : e1 c = [37, Pct.hexDigit (c.toNat / 16), Pct.hexDigit (c.toNat % 16)] := by simp [e1, hkp]
                rw [he] at hte htl
                simp only [List.length_cons, List.length_nil] at htl
                obtain ⟨⟨x, hx⟩, hfr⟩ := hF.cell (t := E.length) (by omega)
                obtain ⟨⟨x', hx'⟩, hfr'⟩ := hF.cell (t := E.length + 1) (by omega)
                obtain ⟨⟨x'', hx''⟩, hfr''⟩ := hF.cell (t := E.length + 2) (by omega)
                have KEY : Hid (∀ v1 v2 : Int, v1 = ((Pct.hexDigit (c.toNat / 16)).toNat : Int) → v2 = ((Pct.hexDigit (c.toNat % 16)).toNat : Int) →
                    Fil w1.heap.size w1 (((wr.setCell ⟨g, E.length, none⟩ (.int .u8 37)).setCell ⟨g, E.length + 1, none⟩ (.int .u8 v1)).setCell ⟨g, E.length + 2, none⟩ (.int .u8 v2)) g (s.size + 2 * n) (esc (s.data.toList.take (k + 1))) ∧
                    Src (((wr.setCell ⟨g, E.length, none⟩ (.int .u8 37)).setCell ⟨g, E.length + 1, none⟩ (.int .u8 v1)).setCell ⟨g, E.length + 2, none⟩ (.int .u8 v2)) wc.heap.size s) := by
                  intro v1 v2 h1 h2
                  refine ⟨?_, ((hS.set (by omega) _).set (by omega) _).set (by omega) _⟩
                  have f := ((hF.put hg (by omega) 37 (v := 37) rfl rfl).put hg (by simp; omega) _ h1 (t := E.length + 1) (by simp)).put hg (by simp; omega) _ h2 (t := E.length + 2) (by simp)
                  rw [hte]
                  simpa using f
                have HLn : Hid ((esc (s.data.toList.take (k + 1))).length = E.length + 3) := by show _ = _; rw [hte]; simp
                generalize E.length = el at hx hfr hx' hfr' hx'' hfr'' htl KEY HLn
                have H32 : ((c.toNat : Int) == 32) = true ∨ ((c.toNat : Int) == 32) = false := by cases ((c.toNat : Int) == 32) <;> simp
                clear hte hc hE he hF hS
                rcases H32 with h32 | h32
                all_goals
                  go_wp2_with (go_at_call 21; refine same (should_any _ _ hcl HTr.out) ?_)
                  go_roundw
                  case rel =>
                    refine ⟨k + 1, by omega, by go_num, by rw [HLn.out]; go_num, ?_⟩
                    refine KEY.out _ _ ?_ ?_
                    · first | exact U_nat _ (by omega) _ | exact U_val _ (c.toNat / 16) (by omega) (by omega) _
                    · first | exact U_nat _ (by omega) _ | exact U_val _ (c.toNat % 16) (by omega) (by omega) _
                  case measure => simp [intOf]; omega
            · obtain rfl : k = s.size := by omega
              have et : s.data.toList.take s.size = s.data.toList := by rw [← len_list', List.take_length]
              rw [et] at hF
              rw [et]
              clear et hS
              obtain ⟨T, cs, h1, h2, h3, h4⟩ := hF
              have B4 : Below w.heap.size w wr := bel1.trans (h4.mono (by omega))
              have hcv : (convert 35 9 (.slice (some ⟨g, 0, none⟩) (s.size + 2 * n) cp)).run Tryd.prog wr = .ok (.string ⟨(esc s.data.toList).toArray⟩) wr := by
                have := run_convert_bytes_back (P := Tryd.prog) wr 35 9 5 ⟨g, 0, none⟩ cp (esc s.data.toList) Tryd.underlying35 Tryd.underlying5 Tryd.underlying9 (fun j hj => by
                  have e : (⟨g, 0, none⟩ : Addr).add j = ⟨g, j, none⟩ := by unfold Addr.add; split <;> simp_all
                  rw [e]
                  have := h3 j hj
                  simp only [World.cell?, h1]
                  simpa using this)
                rw [HL.out] at this
                exact this
              clear h1 h2 h3 h4
              go_wp2_with (simp only [hcv])
              go_ret
              exact ⟨rfl, B4⟩
end Go.Proofs.Qxb6627573aDoor
