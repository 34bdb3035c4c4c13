/-
  THE WALK of LawS3836AExact.
-/
import Derived.Test.YbulkcakoEnv
import Derived.Deep.AppendLies
import Derived.Deep.DeepCutAuto
namespace Go.Proofs.Ybulkcako.Ex
open Go.RowKit
set_option linter.unusedVariables false
set_option linter.unusedSimpArgs false

set_option maxRecDepth 100000 in
theorem law_out (w : World) (a0 a2 : Option Addr) (p c0 q c2 : Nat) (metric : ByteArray) (h : 300 < p ∨ (p ≤ 300 ∧ 300 < q)) :
    Calls Yba.prog 3 #[.slice a0 p c0, .string metric, .slice a2 q c2] w fun e w' => e = .returned (.bool true) ∧ Below w.heap.size w w' := by
  rcases h with h | ⟨h1, h2⟩
  · have d1 : decide ((300 : Int) < (p : Int)) = true := decide_eq_true (by omega)
    go_enter Yba.func3, Yba.ntmps3
    go_wp2
    go_ret
    exact ⟨rfl, Below.refl _ _⟩
  · have d1 : decide ((300 : Int) < (p : Int)) = false := decide_eq_false (by omega)
    have d2 : decide ((300 : Int) < (q : Int)) = true := decide_eq_true (by omega)
    go_enter Yba.func3, Yba.ntmps3
    go_wp2
    go_ret
    exact ⟨rfl, Below.refl _ _⟩

theorem info9 : (Yba.prog.info? 9).map (fun i => (i.zero, i.size, i.bytes)) = some (some (.string ⟨#[]⟩), 1, 16) := by kernel_rfl

theorem tab_start (w : World) : Tab (w.alloc (.map #[] 0)) (w.alloc (.map #[] 0)) w.heap.size 0 (fun _ => none) :=
  ⟨⟨.map [], World.ownsMap_made w Yba.prog 9 (plainElem Yba.prog 3), rep_empty⟩, rfl, rfl, rfl, Nat.le_refl _, fun _ _ _ => rfl⟩

theorem Tab.mapAt {w w' : World} {T n : Nat} {f : ByteArray → Option Int} (h : Tab w w' T n f) : ∃ D m, MapAt w' T m D := by
  obtain ⟨D, hm, _⟩ := h.map
  exact ⟨D, n, hm⟩

theorem look {w : World} {T N : Nat} {f : ByteArray → Option Int} (h : ∃ D, MapAt w T N D ∧ Rep D f) (s : ByteArray) (hs : s.size ≤ maxLen) (v : Int) (hf : f s = some v) :
    (Instr.lookup 25 (.map (some T)) (.string s) true).run Yba.prog w = .ok (.tuple #[.int .i64 v, .bool true]) w := by
  obtain ⟨D, hm, hr⟩ := h
  obtain ⟨u, ps, hrun, hv⟩ := hm.look_ok (Maps.string_keyed Yba.underlying9) Yba.underlying25 (z := .int .i64 0) (by kernel_rfl) (plainElem_int (H := Unit) Yba.underlying3 (a := 0) (by decide)) (WideMaps.keyOf_string_mk Yba.underlying9 hs)
  have h1 : Maps.has D (kl s) = true := by rw [hr.has s, hf]; rfl
  have h2 := hr.val s v hf
  rw [h1] at hrun
  rw [h2] at hv
  obtain ⟨c, rfl, hc, _⟩ := plainElem_int_inv Yba.underlying3 hv
  simp only [Prod.mk.injEq, DataW.lit.injEq, Lit.int.injEq, true_and] at hc
  rw [hrun, hc.1]

theorem len_of {w : World} {T N : Nat} {f : ByteArray → Option Int} (h : ∃ D, MapAt w T N D ∧ Rep D f) (A : List ByteArray) (hn : A.Nodup) (hA : ∀ s, s ∈ A ↔ (f s).isSome = true) (ty : TypeId) :
    (Builtin.len_ #[25] ty #[.map (some T)]).run Yba.prog w = .ok (.int .i64 (A.length : Nat)) w := by
  obtain ⟨D, hm, hr⟩ := h
  obtain ⟨L, hL, hm2, hl⟩ := hr.len
  rw [World.ownsMap.len hm Yba.underlying25 ty, hl, same_length hL hn fun s => (hm2 s).trans (hA s).symm]

theorem row_form {w : World} {base n cap : Nat} {a : Option Addr} {A : List ByteArray} (h : w.ownsRow base 9 1 (.slice a n cap) n (A.map .string)) (hn : n = A.length) : ∃ b, (0 < n → a = some ⟨b, 0, none⟩) ∧ Row w b A := by
  subst hn
  by_cases h0 : 0 < A.length
  · obtain ⟨g, c, e, _, _⟩ := h.form h0
    injection e with e1 e2 e3
    subst e1 e3
    exact ⟨g, fun _ => rfl, row_own h⟩
  · exact ⟨0, fun h => absurd h h0, fun i hi => absurd hi (by omega)⟩

set_option maxRecDepth 100000 in
set_option maxHeartbeats 4000000 in
theorem law_any (w : World) (a0 a2 : Option Addr) (p c0 q c2 pb po lb lo : Nat) (metric : ByteArray) (ks lk lw : Nat → ByteArray) (vs : Nat → Int) (hp : p ≤ 300) (hq : q ≤ 300) (hmet : metric.size ≤ maxLen)
    (ha0 : 0 < p → a0 = some ⟨pb, po, none⟩) (h0 : Pre w pb po p ks vs) (hks : ∀ i, i < p → (ks i).size ≤ maxLen) (hvs : ∀ i, i < p → (Lit.int .i64 (vs i)).wf = true)
    (ha2 : a2 = none ∧ q = 0 ∧ c2 = 0 ∨ ∃ x, a2 = some x ∧ (0 < q → x = ⟨lb, lo, none⟩)) (h2 : Lab w lb lo q lk lw) (hlk : ∀ j, j < q → (lk j).size ≤ maxLen ∧ (lw j).size ≤ maxLen) :
    Calls Yba.prog 3 #[.slice a0 p c0, .string metric, .slice a2 q c2] w fun e w' => e = .returned (.bool true) ∧ Below w.heap.size w w' := by
  have d1 : decide ((300 : Int) < (p : Int)) = false := decide_eq_false (by omega)
  have d2 : decide ((300 : Int) < (q : Int)) = false := decide_eq_false (by omega)
  have hmk := make33 q hq
  obtain ⟨w2, hcopy, hB2, -, hL2⟩ := lab_copied w a2 lb lo q c2 lk lw hq ha2 h2 #[.string ⟨#[]⟩, .string ⟨#[]⟩]
  have hmm := fun t w => run_makeMap (P := Yba.prog) t w
  go_enter Yba.func3, Yba.ntmps3
  go_wp2_with fail
  clear hmk hcopy hmm d1 d2
  have HB3 : Hid (Below w.heap.size w (w2.alloc (.map #[] 0))) := hB2.alloc hB2.size _
  have HL3 : Hid (Lab (w2.alloc (.map #[] 0)) w.heap.size 0 q lk lw) := hL2.below ((Below.refl _ _).alloc (Nat.le_refl _) _)
  have HT3 : Hid (Tab (w2.alloc (.map #[] 0)) (w2.alloc (.map #[] 0)) w2.heap.size 0 (preF ks vs 0)) := tab_start w2
  have HP3 : Hid (Pre (w2.alloc (.map #[] 0)) pb po p ks vs) := h0.below HB3.out
  have HLl : Hid (Lab (w2.alloc (.map #[] 0)) lb lo q lk lw) := h2.below HB3.out
  have HT0 : Hid (w.heap.size ≤ w2.heap.size) := hB2.size
  clear hB2 hL2 h0 h2
  generalize w2.heap.size = T at *
  generalize w2.alloc (.map #[] 0) = w3 at *
  clear w2
  go_loopg [48] p (fun g s48 wr => ∃ i, i ≤ p ∧ g = p - i ∧ s48 = .int .i64 (i : Nat) ∧ Tab w3 wr T i (preF ks vs i))
  case atStart => exact ⟨0, Nat.zero_le _, rfl, rfl, HT3.out⟩
  case round =>
    obtain ⟨i, hi, rfl, rfl, hR⟩ := hrel
    by_cases hlt : i < p
    · have hd : decide ((i : Int) < (p : Int)) = true := decide_eq_true (by omega)
      obtain rfl := ha0 (by omega)
      obtain ⟨y0, y1⟩ := (HP3.out.tab hR HT3.out.mapAt) i hlt
      have hpl : pb < wr.heap.size := World.block_lt_of_cell? _ _ y0
      obtain ⟨w5, hrun5, hT5⟩ := (hR.alloc (.cells #[.string (ks i), .int .i64 (vs i)] 27)).store (by omega) (ks i) (hks i hlt) (vs i) (hvs i hlt)
      have HT5 : Hid (Tab w3 w5 T (i + 1) (preF ks vs (i + 1))) := hT5
      clear hT5 hR
      go_wp2
      go_roundg (p - (i + 1))
      case measure => go_light; omega
      case rel => go_light; exact ⟨i + 1, by omega, rfl, by go_num, HT5.out⟩
    · have hd : decide ((i : Int) < (p : Int)) = false := decide_eq_false (by omega)
      obtain rfl : p = i := by omega
      clear hlt hi
      go_wp2_with fail
      have HP4 : Hid (Pre wr pb po p ks vs) := HP3.out.tab hR HT3.out.mapAt
      have HL4 : Hid (Lab wr w.heap.size 0 q lk lw) := HL3.out.tab hR HT3.out.mapAt
      have Hl4 : Hid (Lab wr lb lo q lk lw) := HLl.out.tab hR HT3.out.mapAt
      have HB4 : Hid (Below w.heap.size w wr) := HB3.out.trans (hR.below HT0.out HB3.out.size)
      have hbw : Below wr.heap.size wr (wr.alloc (.cells #[.string metric, .slice (some ⟨w.heap.size, 0, none⟩) q q, .string ⟨#[]⟩] 29)) := (Below.refl _ _).alloc (Nat.le_refl _) _
      have HP5 := HP4.out.below hbw
      have HL5 := HL4.out.below hbw
      have Hl5 := Hl4.out.below hbw
      have HB5 : Below w.heap.size w (wr.alloc (.cells #[.string metric, .slice (some ⟨w.heap.size, 0, none⟩) q q, .string ⟨#[]⟩] 29)) := HB4.out.alloc HB4.out.size _
      have hT1 := (hR.alloc (.cells #[.string metric, .slice (some ⟨w.heap.size, 0, none⟩) q q, .string ⟨#[]⟩] 29)).self
      refine Calls.mono (add_any _ T p (preF ks vs p) metric ⟨#[]⟩ _ w.heap.size 0 q q lk lw hT1 (by omega) hq hmet (fun _ => rfl) HL5 hlk) ?_
      rintro e w5 ⟨rfl, hT5⟩
      have HE : Hid (Env w5 pb po p ks vs w.heap.size lb lo q lk lw T (p + 1 + 2 * q) (addF (preF ks vs p) metric lk lw q)) := ⟨HP5.tab hT5 hT1.mapAt, HL5.tab hT5 hT1.mapAt, Hl5.tab hT5 hT1.mapAt, hT5.map⟩
      have HB : Hid (Below w.heap.size w w5) := HB5.trans (hT5.below HT0.out HB5.size)
      clear hT5 hT1 HB5 Hl5 HL5 HP5 hbw HB4 Hl4 HL4 HP4 hR HT3 HLl HL3 HP3 HB3 HT0 hd hvs
      simp only []
      go_wp2_with fail
      have HO1 : Hid ((w5.alloc (.cells #[.string metric] 9)).ownsRow w5.heap.size 9 1 (.slice (some ⟨w5.heap.size, 0, none⟩) 1 1) 1 ((SL metric lk lw 0).map .string)) := World.ownsRow_lit w5 _ 1 (Nat.le_refl _) (by decide) rfl
      have HB1 : Hid (Below w5.heap.size w5 (w5.alloc (.cells #[.string metric] 9))) := (Below.refl _ _).alloc (Nat.le_refl _) _
      generalize w5.alloc (.cells #[.string metric] 9) = w6 at *
      go_loopg [68, 12] q (fun m s68 s12 wr => ∃ j g cap, j ≤ q ∧ m = q - j ∧ s68 = .int .i64 (j : Nat) ∧ s12 = .slice (some ⟨g, 0, none⟩) (1 + 2 * j) cap ∧ wr.ownsRow w5.heap.size 9 1 (.slice (some ⟨g, 0, none⟩) (1 + 2 * j) cap) (1 + 2 * j) ((SL metric lk lw j).map .string) ∧ Below w5.heap.size w5 wr)
      case atStart => exact ⟨0, w5.heap.size, 1, Nat.zero_le _, rfl, rfl, rfl, HO1.out, HB1.out⟩
      case round =>
        clear HO1 HB1
        obtain ⟨j, g, cap, hj, rfl, rfl, rfl, hO, hBr⟩ := hrel
        by_cases hlt : j < q
        · have hd : decide ((j : Int) < (q : Int)) = true := decide_eq_true (by omega)
          obtain ⟨y0, y1⟩ := HE.out.lab.below hBr j hlt
          simp only [Nat.zero_add] at y0 y1
          have hsz := hBr.size
          have hwl : w.heap.size < wr.heap.size := World.block_lt_of_cell? _ _ y0
          have HBr : Hid (Below w5.heap.size w5 wr) := hBr
          obtain ⟨i0, hi, hz0, hz1, hz2⟩ := info_parts info9
          clear hBr
          go_wp2_with (at_builtin; refine wpList_append_lies _ rfl _ _ 31 rfl w5.heap.size 9 i0 (.string ⟨#[]⟩) 1 16 Yba.underlying31 hi hz0 hz1 hz2 rfl (by decide) _ _ _ rfl ((hO.alloc _).alloc _) ⟨wr.heap.size + 1, 0, none⟩ 2 2 [.string (lk j), .string (lw j)] rfl rfl ?c1 ?c2 (by omega) ?c3 ?c4 ?c5 _ rfl ?_)
          case c1 =>
            intro k u hk
            match k, hk with
            | 0, hk => simp at hk; subst hk; simp [Addr.add]
            | 1, hk => simp at hk; subst hk; simp [Addr.add]
          case c2 => intro u hu; simp at hu; rcases hu with rfl | rfl <;> rfl
          case c3 => unfold maxLen; omega
          case c4 => omega
          case c5 => simp; omega
          intro g' cap' w1 hO1 hg1 hat hlt1
          have HO1 : Hid (w1.ownsRow w5.heap.size 9 1 (.slice (some ⟨g', 0, none⟩) (1 + 2 * j + 2) cap') (1 + 2 * j + 2) ((SL metric lk lw (j + 1)).map .string)) := by
            have h := hO1
            rw [show (List.map Value.string (SL metric lk lw (j + 1))) = List.map Value.string (SL metric lk lw j) ++ [.string (lk j), .string (lw j)] by simp [SL]]
            exact h
          have HB1 : Hid (Below w5.heap.size w5 w1) := ((HBr.out.alloc HBr.out.size _).alloc (by simp; omega) _).grown hg1 (by simp; omega) (fun k hk => (hO.lt k hk).1)
          clear hO1 hg1 hat hlt1 hO
          go_wp2
          go_roundg (q - (j + 1))
          case measure => go_light; omega
          case rel => go_light; exact ⟨j + 1, g', cap', by omega, rfl, by go_num, rfl, HO1.out, HB1.out⟩
        · have hd : decide ((j : Int) < (q : Int)) = false := decide_eq_false (by omega)
          obtain rfl : q = j := by omega
          clear hlt hj hd
          have HSi : Hid (∀ x, x ∈ SL metric lk lw q → addF (preF ks vs p) metric lk lw q x = some 0) := fun x hx => add_in q hx
          have HSo : Hid (∀ x, ¬ x ∈ SL metric lk lw q → addF (preF ks vs p) metric lk lw q x = preF ks vs p x) := fun x hx => add_out q hx
          have HSs : Hid (∀ x, x ∈ SL metric lk lw q → x.size ≤ maxLen) := fun x hx => SL_size hmet q hlk x hx
          have HN : Hid (1 + 2 * q = (SL metric lk lw q).length) := (SL_length q).symm
          have hns : 1 + 2 * q ≤ 601 := by omega
          have HE6 : Hid _ := HE.out.below hBr
          have HB6 : Hid (Below w.heap.size w wr) := HB.out.trans (hBr.mono HB.out.size)
          have HR6 : Hid (Row wr g (SL metric lk lw q)) := by
            obtain ⟨b, hb, hr⟩ := row_form hO HN.out
            have := hb (by omega)
            injection this with this
            injection this with e1 e2 e3
            subst e1
            exact hr
          clear hO hBr HE HB hlk hmet
          generalize addF (preF ks vs p) metric lk lw q = F at *
          generalize SL metric lk lw q = S at *
          generalize 1 + 2 * q = ns at *
          generalize p + 1 + 2 * q = N at *
          go_wp2_with fail
          go_loopg [82] ns (fun m s82 wr' => ∃ i, i ≤ ns ∧ m = ns - i ∧ s82 = .int .i64 (i : Nat) ∧ wr' = wr)
          case atStart => exact ⟨0, Nat.zero_le _, rfl, rfl, rfl⟩
          case round =>
            rename_i wr1 _ _ _
            obtain ⟨i, hi, rfl, rfl, hw⟩ := hrel
            subst hw
            by_cases hlt : i < ns
            · have hd : decide ((i : Int) < (ns : Int)) = true := decide_eq_true (by omega)
              have y0 := HR6.out i (by rw [← HN.out]; exact hlt)
              simp only [Nat.zero_add] at y0
              have hin := gx_mem (A := S) (i := i) (by rw [← HN.out]; exact hlt)
              have hlook := look HE6.out.map (gx S i) (HSs.out _ hin) 0 (HSi.out _ hin)
              clear hin
              go_wp2
              go_roundg (ns - (i + 1))
              case measure => go_light; omega
              case rel => go_light; exact ⟨i + 1, by omega, rfl, by go_num, rfl⟩
            · have hd : decide ((i : Int) < (ns : Int)) = false := decide_eq_false (by omega)
              obtain rfl : ns = i := by omega
              clear hlt hi hd
              go_wp2_with fail
              generalize wr = w6 at *
              go_loopg [101] p (fun m s101 wr => ∃ i, i ≤ p ∧ m = p - i ∧ s101 = .int .i64 (i : Nat) ∧ Below w6.heap.size w6 wr)
              case atStart => exact ⟨0, Nat.zero_le _, rfl, rfl, Below.refl _ _⟩
              case round =>
                obtain ⟨i, hi, rfl, rfl, hBr⟩ := hrel
                by_cases hlt : i < p
                · have hd : decide ((i : Int) < (p : Int)) = true := decide_eq_true (by omega)
                  obtain rfl := ha0 (by omega)
                  obtain ⟨y0, y1⟩ := HE6.out.pre.below hBr i hlt
                  have hpl : pb < wr.heap.size := World.block_lt_of_cell? _ _ y0
                  have HBW : Hid (Below w6.heap.size w6 (wr.alloc (.cells #[.string (ks i), .int .i64 (vs i)] 27))) := hBr.alloc hBr.size _
                  clear hBr
                  go_wp2_with fail
                  have hrow := HR6.out.below HBW.out
                  by_cases hin : ks i ∈ S
                  · refine Calls.mono (in_any _ _ g 0 ns cap (gx S) (ks i) true (fun _ => rfl) (fun k hk => hrow k (by rw [← HN.out]; exact hk)) (by omega) (by rw [HN.out]; exact ((memTo_gx S (ks i)).2 hin).symm)) ?_
                    rintro e w' ⟨rfl, rfl⟩
                    simp only []
                    clear hrow y0 y1
                    go_wp2
                    go_roundg (p - (i + 1))
                    case measure => go_light; omega
                    case rel => go_light; exact ⟨i + 1, by omega, rfl, by go_num, HBW.out⟩
                  · refine Calls.mono (in_any _ _ g 0 ns cap (gx S) (ks i) false (fun _ => rfl) (fun k hk => hrow k (by rw [← HN.out]; exact hk)) (by omega) (by rw [HN.out]; exact (Bool.eq_false_iff.2 fun h => hin ((memTo_gx S (ks i)).1 h)).symm)) ?_
                    rintro e w' ⟨rfl, rfl⟩
                    simp only []
                    have e0 : (wr.alloc (.cells #[.string (ks i), .int .i64 (vs i)] 27)).cell? ⟨wr.heap.size, 0, none⟩ = some (.string (ks i)) := cell_last _ _ _ _ 0 rfl
                    have e1 : (wr.alloc (.cells #[.string (ks i), .int .i64 (vs i)] 27)).cell? ⟨wr.heap.size, 1, none⟩ = some (.int .i64 (vs i)) := cell_last _ _ _ _ 1 rfl
                    have HF : Hid (F (ks i) = preF ks vs p (ks i)) := HSo.out _ hin
                    clear hrow y0 y1 hin
                    generalize wr.heap.size = eb at *
                    generalize wr.alloc (.cells #[.string (ks i), .int .i64 (vs i)] 27) = W at *
                    go_wp2_with fail
                    go_loopg [22, 21] (p - (i + 1)) (fun m s22 s21 wr => ∃ j v, i + 1 ≤ j ∧ j ≤ p ∧ m = p - j ∧ s22 = .int .i64 (j : Nat) ∧ s21 = .int .i64 v ∧ Hid (preF ks vs j (ks i) = some v) ∧ Below W.heap.size W wr)
                    case atStart => exact ⟨i + 1, vs i, Nat.le_refl _, by omega, rfl, by go_num, rfl, by show upd _ _ _ _ = _; simp [upd], Below.refl _ _⟩
                    case round =>
                      obtain ⟨j, v, hj0, hj, rfl, rfl, rfl, HV, hBr⟩ := hrel
                      have f0 := (hBr.cell (p := ⟨eb, 0, none⟩) (World.block_lt_of_cell? _ _ e0)).trans e0
                      clear e0 e1
                      by_cases hjl : j < p
                      · have hd2 : decide ((j : Int) < (p : Int)) = true := decide_eq_true (by omega)
                        obtain ⟨x0, x1⟩ := (HE6.out.pre.below HBW.out).below hBr j hjl
                        have hb := seq_beq (ks j) (ks i)
                        have HBr : Hid (Below W.heap.size W wr) := hBr
                        by_cases e : ks j = ks i
                        · simp only [e, decide_true] at hb
                          have HV2 : Hid (preF ks vs (j + 1) (ks i) = some (vs j)) := by show upd _ _ _ _ = _; simp [upd, e]
                          rw [e] at x0
                          clear e hBr
                          go_wp2_with fail
                          go_quiet (fail)
                          go_wp2
                          go_roundg (p - (j + 1))
                          case measure => go_light; omega
                          case rel => go_light; exact ⟨j + 1, vs j, by omega, by omega, rfl, by go_num, rfl, HV2, below_drewN HBr.out _⟩
                        · simp only [e, decide_false] at hb
                          have HV2 : Hid (preF ks vs (j + 1) (ks i) = some v) := by show upd _ _ _ _ = _; simp only [upd, Ne.symm e, if_false]; exact HV.out
                          clear e hBr
                          go_wp2_with fail
                          go_quiet (fail)
                          go_wp2
                          go_roundg (p - (j + 1))
                          case measure => go_light; omega
                          case rel => go_light; exact ⟨j + 1, v, by omega, by omega, rfl, by go_num, rfl, HV2, below_drewN HBr.out _⟩
                      · have hd2 : decide ((j : Int) < (p : Int)) = false := decide_eq_false (by omega)
                        obtain rfl : p = j := by omega
                        have hlook := look ((HE6.out.below HBW.out).below hBr).map (ks i) (hks i hlt) v (by rw [HF.out]; exact HV.out)
                        have HBr : Hid (Below w6.heap.size w6 wr) := HBW.out.trans (hBr.mono HBW.out.size)
                        clear hBr hd2 hjl
                        go_wp2
                        go_roundg (p - (i + 1))
                        case measure => go_light; omega
                        case rel => go_light; exact ⟨i + 1, by omega, rfl, by go_num, HBr.out⟩
                · have hd : decide ((i : Int) < (p : Int)) = false := decide_eq_false (by omega)
                  obtain rfl : p = i := by omega
                  clear hlt hi hd
                  have HE7 : Hid _ := HE6.out.below hBr
                  have HB7 : Hid (Below w.heap.size w wr) := HB6.out.trans (hBr.mono HB6.out.size)
                  have HR7 : Hid (Row wr g S) := HR6.out.below hBr
                  clear hBr HE6 HB6 HR6 
                  go_wp2_with fail
                  generalize wr = w7 at *
                  go_loopg [150, 25] ns (fun m s150 s25 wr => ∃ (i : Nat) (A : List ByteArray) (la : Nat) (a : Option Addr) (cp : Nat), i ≤ ns ∧ m = ns - i ∧ s150 = .int .i64 (i : Nat) ∧ s25 = .slice a la cp ∧ Hid (la = A.length) ∧ wr.ownsRow w7.heap.size 9 1 (.slice a la cp) la (A.map .string) ∧ Below w7.heap.size w7 wr ∧ A.Nodup ∧ la ≤ i ∧ Hid (∀ s, s ∈ A ↔ False ∨ ∃ k, k < i ∧ gx S k = s))
                  case atStart => exact ⟨0, [], 0, none, 0, Nat.zero_le _, rfl, rfl, rfl, rfl, World.ownsRow_nil _ _ _ _, Below.refl _ _, List.nodup_nil, Nat.le_refl _, fun s => by simp⟩
                  case round =>
                    obtain ⟨i, A, la, a, cp, hi, rfl, rfl, rfl, HA, hO, hBr, hnd, hla, HM⟩ := hrel
                    obtain ⟨ab, hab, hrow⟩ := row_form hO HA.out
                    have hsz := hBr.size
                    by_cases hlt : i < ns
                    · have hd : decide ((i : Int) < (ns : Int)) = true := decide_eq_true (by omega)
                      have y0 := HR7.out.below hBr i (by rw [← HN.out]; exact hlt)
                      simp only [Nat.zero_add] at y0
                      have HBr : Hid (Below w7.heap.size w7 wr) := hBr
                      clear hBr
                      by_cases hin : gx S i ∈ A
                      · go_wp2_with fail
                        refine Calls.mono (in_any _ _ ab 0 la cp (gx A) (gx S i) true hab (fun k hk => hrow k (by rw [← HA.out]; exact hk)) (by omega) (by rw [HA.out]; exact ((memTo_gx A _).2 hin).symm)) ?_
                        rintro e w' ⟨rfl, rfl⟩
                        simp only []
                        have HM2 : Hid _ := dd_in HM.out hin
                        clear hrow y0 hin hab
                        go_wp2
                        go_roundg (ns - (i + 1))
                        case measure => go_light; omega
                        case rel => go_light; exact ⟨i + 1, A, la, a, cp, by omega, rfl, by go_num, rfl, HA, hO, HBr.out, hnd, by omega, HM2⟩
                      · go_wp2_with fail
                        refine Calls.mono (in_any _ _ ab 0 la cp (gx A) (gx S i) false hab (fun k hk => hrow k (by rw [← HA.out]; exact hk)) (by omega) (by rw [HA.out]; exact (Bool.eq_false_iff.2 fun h => hin ((memTo_gx A _).1 h)).symm)) ?_
                        rintro e w' ⟨rfl, rfl⟩
                        simp only []
                        have HM2 : Hid _ := dd_out HM.out
                        have HD2 : Hid _ := dd_nodup hnd hin
                        obtain ⟨i0, hi0, hz0, hz1, hz2⟩ := info_parts info9
                        clear hrow hin hab
                        go_wp2_with (at_builtin; refine wpList_append_lies _ rfl _ _ 31 rfl w7.heap.size 9 i0 (.string ⟨#[]⟩) 1 16 Yba.underlying31 hi0 hz0 hz1 hz2 rfl (by decide) _ _ _ rfl (hO.alloc _) ⟨w'.heap.size, 0, none⟩ 1 1 [.string (gx S i)] rfl rfl ?c1 ?c2 (by omega) ?c3 ?c4 ?c5 _ rfl ?_)
                        case c1 =>
                          intro k u hk
                          match k, hk with
                          | 0, hk => simp at hk; subst hk; simp [Addr.add]
                        case c2 => intro u hu; simp at hu; subst hu; rfl
                        case c3 => unfold maxLen; omega
                        case c4 => omega
                        case c5 => simp; omega
                        intro g' cap' w1 hO1 hg1 hat hlt1
                        have HO1 : Hid (w1.ownsRow w7.heap.size 9 1 (.slice (some ⟨g', 0, none⟩) (la + 1) cap') (la + 1) ((A ++ [gx S i]).map .string)) := by
                          have h := hO1
                          rw [List.map_append]
                          exact h
                        have HB1 : Hid (Below w7.heap.size w7 w1) := (HBr.out.alloc HBr.out.size _).grown hg1 (by simp; omega) (fun k hk => (hO.lt k hk).1)
                        clear hO1 hg1 hat hlt1 hO
                        go_wp2
                        go_roundg (ns - (i + 1))
                        case measure => go_light; omega
                        case rel => go_light; exact ⟨i + 1, A ++ [gx S i], la + 1, _, cap', by omega, rfl, by go_num, rfl, by show la + 1 = _; rw [HA.out]; simp, HO1.out, HB1.out, HD2.out, by omega, HM2⟩
                    · have hd : decide ((i : Int) < (ns : Int)) = false := decide_eq_false (by omega)
                      obtain rfl : ns = i := by omega
                      clear hlt hi hd hrow hab
                      have HM6 : Hid (∀ s, s ∈ A ↔ s ∈ S ∨ ∃ k, k < 0 ∧ ks k = s) := fun s => by
                        rw [HM.out s, HN.out, mem_gx]
                        simp
                      clear HM
                      go_wp2_with fail
                      go_loopg [165, 25] p (fun m s165 s25 wr => ∃ (i : Nat) (A : List ByteArray) (la : Nat) (a : Option Addr) (cp : Nat), i ≤ p ∧ m = p - i ∧ s165 = .int .i64 (i : Nat) ∧ s25 = .slice a la cp ∧ Hid (la = A.length) ∧ wr.ownsRow w7.heap.size 9 1 (.slice a la cp) la (A.map .string) ∧ Below w7.heap.size w7 wr ∧ A.Nodup ∧ la ≤ ns + i ∧ Hid (∀ s, s ∈ A ↔ s ∈ S ∨ ∃ k, k < i ∧ ks k = s))
                      case atStart => exact ⟨0, A, la, a, cp, Nat.zero_le _, rfl, rfl, rfl, HA, hO, hBr, hnd, hla, HM6⟩
                      case round =>
                        clear HM6 hO hBr hnd hla HA hsz
                        obtain ⟨i, A, la, a, cp, hi, rfl, rfl, rfl, HA, hO, hBr, hnd, hla, HM⟩ := hrel
                        have hsz := hBr.size
                        by_cases hlt : i < p
                        · have hd : decide ((i : Int) < (p : Int)) = true := decide_eq_true (by omega)
                          obtain rfl := ha0 (by omega)
                          obtain ⟨y0, y1⟩ := HE7.out.pre.below hBr i hlt
                          have hpl : pb < wr.heap.size := World.block_lt_of_cell? _ _ y0
                          have HBW : Hid (Below w7.heap.size w7 (wr.alloc (.cells #[.string (ks i), .int .i64 (vs i)] 27))) := hBr.alloc hBr.size _
                          have hOW : (wr.alloc (.cells #[.string (ks i), .int .i64 (vs i)] 27)).ownsRow w7.heap.size 9 1 (.slice a la cp) la (A.map .string) := hO.alloc _
                          obtain ⟨ab, hab, hrow⟩ := row_form hOW HA.out
                          clear hBr hO
                          go_wp2_with fail
                          by_cases hin : ks i ∈ A
                          · refine Calls.mono (in_any _ _ ab 0 la cp (gx A) (ks i) true hab (fun k hk => hrow k (by rw [← HA.out]; exact hk)) (by omega) (by rw [HA.out]; exact ((memTo_gx A _).2 hin).symm)) ?_
                            rintro e w' ⟨rfl, rfl⟩
                            simp only []
                            have HM2 : Hid _ := dd_in HM.out hin
                            clear hrow y0 y1 hin hab
                            go_wp2
                            go_roundg (p - (i + 1))
                            case measure => go_light; omega
                            case rel => go_light; exact ⟨i + 1, A, la, a, cp, by omega, rfl, by go_num, rfl, HA, hOW, HBW.out, hnd, by omega, HM2⟩
                          · refine Calls.mono (in_any _ _ ab 0 la cp (gx A) (ks i) false hab (fun k hk => hrow k (by rw [← HA.out]; exact hk)) (by omega) (by rw [HA.out]; exact (Bool.eq_false_iff.2 fun h => hin ((memTo_gx A _).1 h)).symm)) ?_
                            rintro e w' ⟨rfl, rfl⟩
                            simp only []
                            have HM2 : Hid _ := dd_out HM.out
                            have HD2 : Hid _ := dd_nodup hnd hin
                            obtain ⟨i0, hi0, hz0, hz1, hz2⟩ := info_parts info9
                            clear hrow hin hab
                            go_wp2_with (at_builtin; refine wpList_append_lies _ rfl _ _ 31 rfl w7.heap.size 9 i0 (.string ⟨#[]⟩) 1 16 Yba.underlying31 hi0 hz0 hz1 hz2 rfl (by decide) _ _ _ rfl (hOW.alloc _) ⟨wr.heap.size + 1, 0, none⟩ 1 1 [.string (ks i)] rfl rfl ?c1 ?c2 (by omega) ?c3 ?c4 ?c5 _ rfl ?_)
                            case c1 =>
                              intro k u hk
                              match k, hk with
                              | 0, hk => simp at hk; subst hk; simp [Addr.add]
                            case c2 => intro u hu; simp at hu; subst hu; rfl
                            case c3 => unfold maxLen; omega
                            case c4 => omega
                            case c5 => simp; omega
                            intro g' cap' w1 hO1 hg1 hat hlt1
                            have HO1 : Hid (w1.ownsRow w7.heap.size 9 1 (.slice (some ⟨g', 0, none⟩) (la + 1) cap') (la + 1) ((A ++ [ks i]).map .string)) := by
                              have h := hO1
                              rw [List.map_append]
                              exact h
                            have HB1 : Hid (Below w7.heap.size w7 w1) := (HBW.out.alloc HBW.out.size _).grown hg1 (by simp; omega) (fun k hk => (hOW.lt k hk).1)
                            clear hO1 hg1 hat hlt1 hOW
                            go_wp2
                            go_roundg (p - (i + 1))
                            case measure => go_light; omega
                            case rel => go_light; exact ⟨i + 1, A ++ [ks i], la + 1, _, cap', by omega, rfl, by go_num, rfl, by show la + 1 = _; rw [HA.out]; simp, HO1.out, HB1.out, HD2.out, by omega, HM2⟩
                        · have hd : decide ((i : Int) < (p : Int)) = false := decide_eq_false (by omega)
                          obtain rfl : p = i := by omega
                          clear hlt hi hd
                          have HE8 : Hid _ := HE7.out.below hBr
                          have HB8 : Hid (Below w.heap.size w wr) := HB7.out.trans (hBr.mono HB7.out.size)
                          have hlen : ∀ ty, (Builtin.len_ #[25] ty #[.map (some T)]).run Yba.prog wr = .ok (.int .i64 (la : Nat)) wr := fun ty => by
                            rw [HA.out]
                            refine len_of HE8.out.map A hnd (fun s => ?_) ty
                            rw [HM.out s]
                            by_cases c : s ∈ S
                            · simp [c, HSi.out s c]
                            · rw [HSo.out s c, pre_some]
                              simp [c]
                          clear hO hBr hnd HA HM HE7 HB7 hsz
                          go_wp2_with fail
                          clear hlen
                          generalize wr = w8 at *
                          go_loopg [187] q (fun m s187 wr => ∃ i, i ≤ q ∧ m = q - i ∧ s187 = .int .i64 (i : Nat) ∧ Below w8.heap.size w8 wr)
                          case atStart => exact ⟨0, Nat.zero_le _, rfl, rfl, Below.refl _ _⟩
                          case round =>
                            obtain ⟨i, hi, rfl, rfl, hBr⟩ := hrel
                            by_cases hlt : i < q
                            · have hd : decide ((i : Int) < (q : Int)) = true := decide_eq_true (by omega)
                              obtain ⟨x0, x1⟩ := HE8.out.lab.below hBr i hlt
                              simp only [Nat.zero_add] at x0 x1
                              obtain ⟨y0, y1⟩ := HE8.out.labels.below hBr i hlt
                              have HBr : Hid (Below w8.heap.size w8 wr) := hBr
                              clear hBr
                              rcases ha2 with ⟨_, e, _⟩ | ⟨xx, rfl, hxx⟩
                              · omega
                              · obtain rfl := hxx (by omega)
                                clear hxx
                                go_wp2_with fail
                                go_quiet (fail)
                                go_wp2
                                go_roundg (q - (i + 1))
                                case measure => go_light; omega
                                case rel => go_light; exact ⟨i + 1, by omega, rfl, by go_num, below_drewN HBr.out _⟩
                            · have hd : decide ((i : Int) < (q : Int)) = false := decide_eq_false (by omega)
                              obtain rfl : q = i := by omega
                              have HBr : Hid (Below w.heap.size w wr) := HB8.out.trans (hBr.mono HB8.out.size)
                              clear hBr hlt hi hd
                              go_wp2
                              go_ret
                              exact ⟨rfl, HBr.out⟩

end Go.Proofs.Ybulkcako.Ex
