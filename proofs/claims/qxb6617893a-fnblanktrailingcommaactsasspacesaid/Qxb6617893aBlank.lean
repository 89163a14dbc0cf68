/-
  SEAT b6617893a: blank.
-/
import Derived.Test.Qxb6617893aPre
import Derived.Deep.Light
import Derived.Deep.LoopGhost
set_option linter.unusedSimpArgs false
namespace Go.Proofs.Qxb6617893a
open Go.ChangeShapes Go.WideShapes Go.ChangeAt Go.RowKit
open Plain

/-- What holds at the head of blank's loop. -/
def BRel (w : World) (z : Nat → Int) (n g cap gk : Nat) (l c i : Value) (wr : World) : Prop :=
  ∃ (k : Nat) (last comma : Int) (out : Nat → Int), k ≤ n + 2 ∧ n + 2 - k ≤ gk ∧ i = .int .i64 k ∧ l = .int .u8 last ∧ c = .int .i64 comma ∧ (k < n → st z n k = 0) ∧ Inv z n (min k n) out last comma ∧
    wr.ownsRow w.heap.size 5 1 (.slice (some ⟨g, 0, none⟩) n cap) n (cellsF out n) ∧ Below w.heap.size w wr

theorem brel_mk {w wr : World} {z out : Nat → Int} {n g cap k : Nat} {last comma i : Int} (hi : i = (k : Int)) (hk : k ≤ n + 2) (hst : k < n → st z n k = 0) (hI : Inv z n (min k n) out last comma)
    (ho : wr.ownsRow w.heap.size 5 1 (.slice (some ⟨g, 0, none⟩) n cap) n (cellsF out n)) (hb : Below w.heap.size w wr) : BRel w z n g cap (n + 2 - k) (.int .u8 last) (.int .i64 comma) (.int .i64 i) wr :=
  ⟨k, last, comma, out, hk, Nat.le_refl _, by rw [hi], rfl, rfl, hst, hI, ho, hb⟩

/-- One place on. -/
theorem brel_next {w wr : World} {z out : Nat → Int} {n g cap k : Nat} {last comma : Int} (hk : k < n) (hst : st z n (k + 1) = 0) (hI : Inv z n (k + 1) out last comma)
    (ho : wr.ownsRow w.heap.size 5 1 (.slice (some ⟨g, 0, none⟩) n cap) n (cellsF out n)) (hb : Below w.heap.size w wr) : BRel w z n g cap (n + 2 - (k + 1)) (.int .u8 last) (.int .i64 comma) (.int .i64 ((k : Int) + 1)) wr :=
  brel_mk (by omega) (by omega) (fun _ => hst) (by rw [Nat.min_eq_left (by omega)]; exact hI) ho hb

theorem sp_cases {x : Int} (h : isSp x = true) : x = 32 ∨ x = 9 ∨ x = 13 ∨ x = 10 := by simpa [isSp] using h
theorem sp_not {x : Int} (h : ¬ isSp x = true) : (x == 32) = false ∧ (x == 9) = false ∧ (x == 13) = false ∧ (x == 10) = false := by
  simpa [isSp] using h

theorem rep3 (w : World) : Calls Try.prog 20 #[.string ⟨#[32]⟩, .int .i64 3] w fun e w' => e = .returned (.string ⟨#[32, 32, 32]⟩) ∧ Below w.heap.size w w' :=
  Try.strings_Repeat_main ⟨#[32]⟩ 3 w (by decide) (by decide) (by decide) (by decide)

theorem bom_cells (w : World) : Lib.BytesIn (w.alloc (.cells #[.int .u8 239, .int .u8 187, .int .u8 191] 5 (3, 4))) (some ⟨w.heap.size, 0, none⟩) 3 [239, 187, 191] := by
  intro _
  refine ⟨_, _, rfl, fun i hi => ?_⟩
  match i, hi with
  | 0, _ => rw [World.cell?_alloc_mark]; rfl
  | 1, _ => rw [World.cell?_alloc_mark]; rfl
  | 2, _ => rw [World.cell?_alloc_mark]; rfl

theorem start_bom {z : Nat → Int} {n : Nat} (h : bom z n = true) : Inv z n 0 (fun i => if i < 3 then 32 else z i) 0 (-1) :=
  inv_start fun p _ => by
    by_cases h3 : p < 3
    · rw [if_pos h3, if_pos (inBom_true.2 ⟨h, h3⟩)]
    · rw [if_neg h3, if_neg (fun e => h3 (inBom_true.1 e).2)]
theorem start_plain {z : Nat → Int} {n : Nat} (h : bom z n = false) : Inv z n 0 z 0 (-1) :=
  inv_start fun p _ => by
    rw [if_neg (fun e => by have := (inBom_true.1 e).1; rw [h] at this; cases this)]

set_option maxRecDepth 8000 in
set_option maxHeartbeats 1000000 in
theorem blank_some (x : Addr) (n c : Nat) (z : Nat → Int) (w : World) (hn : n ≤ 4194304) (hz : ∀ i, i < n → 0 ≤ z i ∧ z i < 256) (h : Rd w w.heap.size (some x) n z) :
    Calls Try.prog 16 #[.slice (some x) n c] w fun e w' => ∃ g cap y, e = .returned (.slice (some ⟨g, 0, none⟩) n cap) ∧ w'.ownsRow w.heap.size 5 1 (.slice (some ⟨g, 0, none⟩) n cap) n (cellsF y n) ∧ Blanked z n y ∧ Below w.heap.size w w' := by
  have kc := fun (w : World) (C : Array Value) (n c : Nat) => Lib.run_convert_bytes_const (P := Try.prog) w 22 5 C n c Try.underlying22 Try.underlying5
  have hxs : ∀ i, i < n → w.cell? (x.add i) = some (.int .u8 ((numsF z n).getD i 0)) := by
    intro i hi
    obtain ⟨b, off, e, _, hc⟩ := h i hi
    obtain rfl := Option.some.inj e
    rw [add_plain, hc, numsF_get _ _ _ hi]
  go_enter Try.func16, Try.ntmps16
  go_wp2_with fail
  refine (Try.bytes_Clone_at x n c (numsF z n) w (numsF_length _ _) (by omega) hxs).mono ?_
  rintro e w1 ⟨v, rfl, ho1, hv, hb1⟩
  rw [numsF_cells] at ho1
  obtain ⟨g, cap, hvv⟩ : ∃ g cap, v = .slice (some ⟨g, 0, none⟩) n cap := by
    rcases ho1.2 with ⟨e, _⟩ | ⟨g, cap, _, e, _⟩
    · exact absurd e hv
    · exact ⟨g, cap, e⟩
  rw [hvv] at ho1 ⊢
  clear hvv hv hxs v
  go_wp2_with fail
  have hgl := owns_lt ho1
  have hcap := owns_cap ho1
  have ho2 : ∀ o, (w1.alloc o).ownsRow w.heap.size 5 1 (.slice (some ⟨g, 0, none⟩) n cap) n (cellsF z n) := fun o => ho1.alloc o
  have hb2 : ∀ o, Below w.heap.size w (w1.alloc o) := fun o => hb1.alloc (by omega) o
  refine (Try.bytes_HasPrefix_all (some ⟨g, 0, none⟩) (some ⟨w1.heap.size, 0, none⟩) n cap 3 3 (numsF z n) [239, 187, 191] _ (numsF_length _ _) rfl hcap.1 (rd_bytesIn (owns_rd (ho2 _))) (bom_cells w1)).mono ?_
  rintro e w2 ⟨rfl, hw2⟩
  have ho3 : w2.ownsRow w.heap.size 5 1 (.slice (some ⟨g, 0, none⟩) n cap) n (cellsF z n) := by rw [hw2]; exact ho2 _
  have hb3 : Below w.heap.size w w2 := by rw [hw2]; exact hb2 _
  rw [hp_bom hz]
  clear hw2 ho2 hb2 ho1 hb1 kc hgl
  generalize hbb : bom z n = bb
  have HB : Hid (bom z n = bb) := hbb
  clear hbb
  cases bb
  all_goals first
    | (have hI0 := start_plain (show bom z n = false from HB.out)
       go_wp2_with fail)
    | (have hI0 := start_bom (show bom z n = true from HB.out)
       have hn3 := bom_len (show bom z n = true from HB.out)
       go_wp2_with fail
       refine (rep3 _).mono ?_
       rintro e w3 ⟨rfl, hb4⟩
       have ho4 := owns_below ho3 hb4 (owns_lt ho3).2
       have hb5 := hb3.trans (hb4.mono hb3.size)
       clear ho3 hb3 hb4
       obtain ⟨w4, hrun, ho3, hb3⟩ := copy_sp3 w w3 w.heap.size g n cap z ho4 hn3 hb5
       clear ho4 hb5
       go_wp2_with fail
       clear hrun)
  all_goals
    clear hz h hcap
    go_loopg [4, 5, 6] (n + 2) (fun gk l c i wr => BRel w z n g cap gk l c i wr)
    case atStart => exact brel_mk (k := 0) rfl (by omega) (fun _ => rfl) (by rw [Nat.zero_min]; exact hI0) ho3 hb3
    case round =>
      clear hI0 ho3 hb3
      obtain ⟨k, last, comma, out, hk, hgk, rfl, rfl, rfl, hst, hI, ho, hb⟩ := hrel
      by_cases hlt : k < n
      · rw [Nat.min_eq_left (by omega)] at hI
        replace hst := hst hlt
        have hx := hI.ahead hlt (Nat.le_refl _)
        have hold := owns_cell ho hlt
        by_cases hsp : isSp (out k) = true
        · have hcs := code_sp hst (show isSp (z k) = true ∨ inBom z n k = true by
            by_cases hb : inBom z n k = true
            · exact .inr hb
            · rw [if_neg hb] at hx; rw [← hx]; exact .inl hsp)
          have R := brel_next hlt hcs.1 (hI.skip hlt hcs.2.1 hcs.2.2) ho hb
          have HR : Hid (BRel w z n g cap (n + 2 - (k + 1)) (.int .u8 last) (.int .i64 comma) (.int .i64 ((k : Int) + 1)) wr) := R
          clear R hcs hI hst hx
          rcases sp_cases hsp with hv | hv | hv | hv
          all_goals
            rw [hv] at hold
            clear hv hsp
            go_wp2_with fail
            go_roundg (n + 2 - (k + 1))
            case measure => go_light; omega
            case rel => exact HR.out
        · have hnb : ¬ inBom z n k = true := by
            intro hb
            rw [if_pos hb] at hx
            rw [hx] at hsp
            exact hsp rfl
          rw [if_neg hnb] at hx
          rw [hx] at hold hsp
          have hsn := sp_not hsp
          obtain ⟨s1, s2, s3, s4⟩ := hsn
          have hah : ∀ p, k ≤ p → p < n → out p = z p := by
            intro p h1 h2
            rw [hI.ahead h2 h1, if_neg]
            intro hb
            obtain ⟨b1, b2⟩ := inBom_true.1 hb
            exact hnb (inBom_true.2 ⟨b1, by omega⟩)
          by_cases hcm : cm z n k = true
          · have hc47 : z k = 47 ∧ k + 1 < n ∧ z (k + 1) = 47 := by simpa [cm] using hcm
            obtain ⟨e47, hk1, e47'⟩ := hc47
            have c1 : wr.cell? ⟨g, k + 1, none⟩ = some (.int .u8 47) := by rw [owns_cell ho hk1, hah (k + 1) (by omega) hk1, e47']
            have c3 : (k : Int) + 1 < (n : Int) := by omega
            have hcc := code_cm hst hnb hsp hcm
            rw [e47] at hold
            have HH : Hid ((z k = 47 ∧ st z n (k + 1) = 3 ∧ kind z n k = 2) ∧ ¬ inBom z n k = true ∧ Inv z n k out last comma) := ⟨⟨e47, hcc⟩, hnb, hI⟩
            clear hI hst hx hah hcm s1 s2 s3 s4 hnb hsp e47 e47' hcc hk1
            go_wp2_with fail
            go_loopg [6] (n + 1) (fun gk i wr => ∃ (l : Nat) (out : Nat → Int), k ≤ l ∧ l ≤ n ∧ n + 1 - l ≤ gk ∧ i = .int .i64 l ∧ (l = k ∨ st z n l = 3) ∧ Inv z n l out last comma ∧
              wr.ownsRow w.heap.size 5 1 (.slice (some ⟨g, 0, none⟩) n cap) n (cellsF out n) ∧ Below w.heap.size w wr)
            case atStart => exact ⟨k, out, Nat.le_refl _, by omega, by omega, rfl, .inl rfl, HH.out.2.2, ho, hb⟩
            case round =>
              clear ho hb hold c1
              obtain ⟨l, out, hkl, hln, hgl, rfl, hsl, hI, ho, hb⟩ := hrel
              obtain ⟨⟨e47, hs3, hk2⟩, hnb, _⟩ := HH.out
              clear HH
              by_cases hl : l < n
              · have hxl : out l = z l := by
                  rw [hI.ahead hl (Nat.le_refl _), if_neg]
                  intro hb
                  obtain ⟨b1, b2⟩ := inBom_true.1 hb
                  exact hnb (inBom_true.2 ⟨b1, by omega⟩)
                have hold := owns_cell ho hl
                rw [hxl] at hold
                have hli : (l : Int) < (n : Int) := by omega
                by_cases h10 : z l = 10
                · have hce := com_end (show st z n l = 3 by
                    rcases hsl with e | e
                    · rw [e, e47] at h10; exact absurd h10 (by decide)
                    · exact e) h10
                  have R := brel_next hl hce.1 (hI.skip hl (by rw [hce.2]; decide) (by rw [hce.2]; decide)) ho hb
                  have HR : Hid (BRel w z n g cap (n + 2 - (l + 1)) (.int .u8 last) (.int .i64 comma) (.int .i64 ((l : Int) + 1)) wr) := R
                  rw [h10] at hold
                  clear R hce hI hsl hxl h10 e47 hs3 hk2 hnb
                  go_wp2_with fail
                  go_roundg (n + 2 - (l + 1))
                  case measure => go_light; omega
                  case rel => exact HR.out
                · have hco : st z n (l + 1) = 3 ∧ kind z n l = 2 := by
                    rcases hsl with e | e
                    · rw [e]; exact ⟨hs3, hk2⟩
                    · exact com_on e h10
                  have HR : Hid (∃ (l' : Nat) (out : Nat → Int), k ≤ l' ∧ l' ≤ n ∧ n + 1 - l' ≤ n + 1 - (l + 1) ∧ Value.int .i64 ((l : Int) + 1) = .int .i64 l' ∧ (l' = k ∨ st z n l' = 3) ∧ Inv z n l' out last comma ∧
                    (wr.setCell ⟨g, l, none⟩ (.int .u8 32)).ownsRow w.heap.size 5 1 (.slice (some ⟨g, 0, none⟩) n cap) n (cellsF out n) ∧ Below w.heap.size w (wr.setCell ⟨g, l, none⟩ (.int .u8 32))) :=
                    ⟨l + 1, _, by omega, by omega, Nat.le_refl _, by go_num, .inr hco.1, hI.comment hl hco.2, owns_store ho l 32, hb.setCell (owns_lt ho).1 _⟩
                  have hfro := ho.frozenAt l
                  have h10' : (z l == 10) = false := by simpa using h10
                  have h10'' : (z l != 10) = true := by simpa using h10
                  clear hco hI hsl hxl h10 e47 hs3 hk2 hnb
                  go_wp2_with fail
                  go_roundg (n + 1 - (l + 1))
                  case measure => go_light; omega
                  case rel => exact HR.out
              · have hln' : l = n := by omega
                have R : BRel w z n g cap (n + 2 - (l + 1)) (.int .u8 last) (.int .i64 comma) (.int .i64 ((l : Int) + 1)) wr :=
                  brel_mk (by omega) (by omega) (fun h => by omega) (by rw [show min (l + 1) n = l by omega]; exact hI) ho hb
                have HR : Hid (BRel w z n g cap (n + 2 - (l + 1)) (.int .u8 last) (.int .i64 comma) (.int .i64 ((l : Int) + 1)) wr) := R
                have hli : decide ((l : Int) < (n : Int)) = false := decide_eq_false (by omega)
                clear R hI hsl hln' e47 hs3 hk2 hnb
                go_wp2_with fail
                go_roundg (n + 2 - (l + 1))
                case measure => go_light; omega
                case rel => exact HR.out
          by_cases hq : z k = 34
          · have hcq := code_quote hst hnb hq
            have hI1 : Inv z n (k + 1) out 34 (-1) := by
              have := hI.sig_keep hlt hcq.2 (fun hh => by rcases hh.1 with e | e <;> omega) (c' := -1) (.inr ⟨rfl, fun hh => by have := hh.1; omega⟩)
              rwa [hq] at this
            rw [hq] at hold
            have HH : Hid (st z n (k + 1) = 1 ∧ Inv z n (k + 1) out 34 (-1) ∧ ∀ p, k ≤ p → p < n → out p = z p) := ⟨hcq.1, hI1, hah⟩
            clear hI hst hx hah hcm s1 s2 s3 s4 hnb hsp hq hcq hI1
            go_wp2_with fail
            go_loopg [6] (n + 2) (fun gk i wq => ∃ l : Nat, k + 1 ≤ l ∧ l ≤ n + 1 ∧ n + 2 - l ≤ gk ∧ i = .int .i64 l ∧ (l < n → st z n l = 1) ∧ Inv z n (min l n) out 34 (-1) ∧ wq = wr)
            case atStart => exact ⟨k + 1, Nat.le_refl _, by omega, by omega, by go_num, fun _ => HH.out.1, by rw [Nat.min_eq_left (by omega)]; exact HH.out.2.1, rfl⟩
            case round =>
              obtain ⟨l, hkl, hln, hgl, rfl, hsl, hI, rfl⟩ := hrel
              obtain ⟨_, _, hah⟩ := HH.out
              clear HH hold
              by_cases hl : l < n
              · rw [Nat.min_eq_left (by omega)] at hI
                have hold := owns_cell ho hl
                rw [hah l (by omega) hl] at hold
                have hli : (l : Int) < (n : Int) := by omega
                have hss := str_any (hsl hl)
                by_cases h34 : z l = 34
                · rw [h34, if_neg (by decide), if_pos rfl] at hss
                  have R := brel_next hl hss.2 (hI.skip hl (by rw [hss.1]; decide) (by rw [hss.1]; decide)) ho hb
                  have HR : Hid (BRel w z n g cap (n + 2 - (l + 1)) (.int .u8 34) (.int .i64 (-1)) (.int .i64 ((l : Int) + 1)) wr) := R
                  rw [h34] at hold
                  clear R hss hI hsl hah h34
                  go_wp2_with fail
                  go_roundg (n + 2 - (l + 1))
                  case measure => go_light; omega
                  case rel => exact HR.out
                by_cases h92 : z l = 92
                · rw [h92, if_pos rfl] at hss
                  have hI2 := hI.skip hl (by rw [hss.1]; decide) (by rw [hss.1]; decide)
                  have HR : Hid (∃ l' : Nat, k + 1 ≤ l' ∧ l' ≤ n + 1 ∧ n + 2 - l' ≤ n + 2 - (l + 2) ∧ Value.int .i64 ((l : Int) + 1 + 1) = .int .i64 l' ∧ (l' < n → st z n l' = 1) ∧ Inv z n (min l' n) out 34 (-1)) := by
                    refine ⟨l + 2, by omega, by omega, Nat.le_refl _, by go_num, fun h => (esc_any hss.2).2, ?_⟩
                    by_cases h1 : l + 1 < n
                    · rw [Nat.min_eq_left (by omega)]
                      have hes := esc_any hss.2
                      exact hI2.skip h1 (by rw [hes.1]; decide) (by rw [hes.1]; decide)
                    · rw [show min (l + 2) n = l + 1 by omega]
                      exact hI2
                  rw [h92] at hold
                  clear hss hI hI2 hsl hah h34 h92
                  go_wp2_with fail
                  go_roundg (n + 2 - (l + 2))
                  case measure => go_light; omega
                  case rel => obtain ⟨l', p1, p2, p3, p4, p5, p6⟩ := HR.out; exact ⟨l', p1, p2, p3, p4, p5, p6, rfl⟩
                rw [if_neg h92, if_neg h34] at hss
                have HR : Hid (∃ l' : Nat, k + 1 ≤ l' ∧ l' ≤ n + 1 ∧ n + 2 - l' ≤ n + 2 - (l + 1) ∧ Value.int .i64 ((l : Int) + 1) = .int .i64 l' ∧ (l' < n → st z n l' = 1) ∧ Inv z n (min l' n) out 34 (-1)) := by
                  refine ⟨l + 1, by omega, by omega, Nat.le_refl _, by go_num, fun h => hss.2, ?_⟩
                  rw [Nat.min_eq_left (by omega)]
                  exact hI.skip hl (by rw [hss.1]; decide) (by rw [hss.1]; decide)
                have h34' : (z l == 34) = false := by simpa using h34
                have h34'' : (z l != 34) = true := by simpa using h34
                have h92' : (z l == 92) = false := by simpa using h92
                clear hss hI hsl hah h34 h92
                go_wp2_with fail
                go_roundg (n + 2 - (l + 1))
                case measure => go_light; omega
                case rel => obtain ⟨l', p1, p2, p3, p4, p5, p6⟩ := HR.out; exact ⟨l', p1, p2, p3, p4, p5, p6, rfl⟩
              · have R : BRel w z n g cap (n + 2 - (l + 1)) (.int .u8 34) (.int .i64 (-1)) (.int .i64 ((l : Int) + 1)) wr :=
                  brel_mk (by omega) (by omega) (fun h => by omega) (by rw [show min (l + 1) n = min l n by omega]; exact hI) ho hb
                have HR : Hid (BRel w z n g cap (n + 2 - (l + 1)) (.int .u8 34) (.int .i64 (-1)) (.int .i64 ((l : Int) + 1)) wr) := R
                have hli : decide ((l : Int) < (n : Int)) = false := decide_eq_false (by omega)
                clear R hI hsl hah
                go_wp2_with fail
                go_roundg (n + 2 - (l + 1))
                case measure => go_light; omega
                case rel => exact HR.out
          have hsg := code_sig hst hnb hsp hcm hq
          have hq' : (z k == 34) = false := by simpa using hq
          by_cases hcl : (z k = 93 ∨ z k = 125) ∧ 0 ≤ comma
          · obtain ⟨hcl1, hcl2⟩ := hcl
            obtain ⟨hr, hI'⟩ := hI.sig_close hlt hsg.2 hcl1 hcl2
            obtain ⟨r, rfl⟩ : ∃ r : Nat, comma = (r : Int) := ⟨comma.toNat, by omega⟩
            rw [Int.toNat_natCast] at hr hI'
            have hri : (r : Int) < (n : Int) := by omega
            have hold2 := owns_cell ho hr
            have hfro := ho.frozenAt r
            have R := brel_next hlt hsg.1 hI' (owns_store ho r 32) (hb.setCell (owns_lt ho).1 _)
            rcases hcl1 with hv | hv
            all_goals
              have HR : Hid (BRel w z n g cap (n + 2 - (k + 1)) (.int .u8 (z k)) (.int .i64 (-1)) (.int .i64 ((k : Int) + 1)) (wr.setCell ⟨g, r, none⟩ (.int .u8 32))) := R
              rw [hv] at hold HR
              clear R hI hI' hst hx hah hcm hq hq' hv s1 s2 s3 s4 hsg hnb hsp
              go_wp2_with fail
              go_roundg (n + 2 - (k + 1))
              case measure => go_light; omega
              case rel => exact HR.out
          · by_cases h44 : z k = 44
            · by_cases hl : last = 91 ∨ last = 123
              · have R := brel_next hlt hsg.1 (hI.sig_keep hlt hsg.2 hcl (c' := -1) (.inr ⟨rfl, fun hh => by rcases hl with e | e; exact hh.2.1 e; exact hh.2.2 e⟩)) ho hb
                have HR : Hid (BRel w z n g cap (n + 2 - (k + 1)) (.int .u8 (z k)) (.int .i64 (-1)) (.int .i64 ((k : Int) + 1)) wr) := R
                rw [h44] at hold HR
                clear R hI hst hx hah hcm hq hq' h44 s1 s2 s3 s4 hsg hnb hsp hcl
                rcases hl with rfl | rfl
                all_goals
                  go_wp2_with fail
                  go_roundg (n + 2 - (k + 1))
                  case measure => go_light; omega
                  case rel => exact HR.out
              · have hl1 : last ≠ 91 := fun e => hl (.inl e)
                have hl2 : last ≠ 123 := fun e => hl (.inr e)
                have R := brel_next hlt hsg.1 (hI.sig_keep hlt hsg.2 hcl (c' := (k : Int)) (.inl ⟨rfl, h44, hl1, hl2⟩)) ho hb
                have HR : Hid (BRel w z n g cap (n + 2 - (k + 1)) (.int .u8 (z k)) (.int .i64 (k : Int)) (.int .i64 ((k : Int) + 1)) wr) := R
                rw [h44] at hold HR
                have l1 : (last == 91) = false := by simpa using hl1
                have l2 : (last == 123) = false := by simpa using hl2
                have l3 : (last != 91) = true := by simpa using hl1
                have l4 : (last != 123) = true := by simpa using hl2
                clear R hI hst hx hah hcm hq hq' h44 s1 s2 s3 s4 hsg hnb hsp hcl hl hl1 hl2
                go_wp2_with fail
                go_roundg (n + 2 - (k + 1))
                case measure => go_light; omega
                case rel => exact HR.out
            · have R := brel_next hlt hsg.1 (hI.sig_keep hlt hsg.2 hcl (c' := -1) (.inr ⟨rfl, fun hh => h44 hh.1⟩)) ho hb
              have HR : Hid (BRel w z n g cap (n + 2 - (k + 1)) (.int .u8 (z k)) (.int .i64 (-1)) (.int .i64 ((k : Int) + 1)) wr) := R
              have h44' : (z k == 44) = false := by simpa using h44
              clear R
              by_cases h47 : z k = 47
              · rw [h47] at hold HR
                by_cases hk1 : k + 1 < n
                · have c1 : wr.cell? ⟨g, k + 1, none⟩ = some (.int .u8 (z (k + 1))) := by rw [owns_cell ho hk1, hah (k + 1) (by omega) hk1]
                  have c2 : (z (k + 1) == 47) = false := by
                    simp [cm, h47, hk1] at hcm
                    simpa using hcm
                  have c3 : (k : Int) + 1 < (n : Int) := by omega
                  clear hI hst hx hah hcm hq hq' h44 h44' h47 s1 s2 s3 s4 hsg hnb hsp hcl hk1
                  go_wp2_with fail
                  go_roundg (n + 2 - (k + 1))
                  case measure => go_light; omega
                  case rel => exact HR.out
                · have c3 : decide ((k : Int) + 1 < (n : Int)) = false := decide_eq_false (by omega)
                  clear hI hst hx hah hcm hq hq' h44 h44' h47 s1 s2 s3 s4 hsg hnb hsp hcl
                  go_wp2_with fail
                  go_roundg (n + 2 - (k + 1))
                  case measure => go_light; omega
                  case rel => exact HR.out
              · have h47' : (z k == 47) = false := by simpa using h47
                by_cases h93 : z k = 93
                · have hcn : decide (0 ≤ comma) = false := decide_eq_false (fun e => hcl ⟨.inl h93, e⟩)
                  have hcn2 : comma < 0 := by simpa using hcn
                  rw [h93] at hold HR
                  clear hI hst hx hah hcm hq hq' h44 h44' h47 h47' s1 s2 s3 s4 hsg hnb hsp hcl h93
                  go_wp2_with fail
                  go_roundg (n + 2 - (k + 1))
                  case measure => go_light; omega
                  case rel => exact HR.out
                by_cases h125 : z k = 125
                · have hcn : decide (0 ≤ comma) = false := decide_eq_false (fun e => hcl ⟨.inr h125, e⟩)
                  have hcn2 : comma < 0 := by simpa using hcn
                  rw [h125] at hold HR
                  clear hI hst hx hah hcm hq hq' h44 h44' h47 h47' s1 s2 s3 s4 hsg hnb hsp hcl h93 h125
                  go_wp2_with fail
                  go_roundg (n + 2 - (k + 1))
                  case measure => go_light; omega
                  case rel => exact HR.out
                have h93' : (z k == 93) = false := by simpa using h93
                have h125' : (z k == 125) = false := by simpa using h125
                clear hI hst hx hah hcm hq h44 h47 hsg hnb hsp hcl h93 h125
                go_wp2_with fail
                go_roundg (n + 2 - (k + 1))
                case measure => go_light; omega
                case rel => exact HR.out
      · have hkn : min k n = n := by omega
        rw [hkn] at hI
        have hbl := hI.blanked
        clear hI
        go_wp2_with fail
        go_ret
        exact ⟨g, cap, out, rfl, ho, hbl, hb⟩

set_option maxRecDepth 8000 in
theorem blank_nil (n c : Nat) (w : World) :
    Calls Try.prog 16 #[.slice none n c] w fun e w' => e = .returned (.slice none 0 0) ∧ Below w.heap.size w w' := by
  have kc := fun (w : World) (C : Array Value) (n c : Nat) => Lib.run_convert_bytes_const (P := Try.prog) w 22 5 C n c Try.underlying22 Try.underlying5
  go_enter Try.func16, Try.ntmps16
  go_wp2_with fail
  refine (Try.bytes_Clone_nil n c w).mono ?_
  rintro e w1 ⟨rfl, rfl⟩
  go_wp2_with fail
  refine (Try.bytes_HasPrefix_all none (some ⟨w1.heap.size, 0, none⟩) 0 0 3 3 [] [239, 187, 191] _ rfl rfl (Nat.le_refl _) (Lib.BytesIn.nil _ _ _) (bom_cells w1)).mono ?_
  rintro e w2 ⟨rfl, hw2⟩
  have hb : Below w1.heap.size w1 w2 := by rw [hw2]; exact (Below.refl _ _).alloc (Nat.le_refl _) _
  rw [show Lib.hasPrefix (Lib.bytesOf []) (Lib.bytesOf [239, 187, 191]) = false from rfl]
  clear kc hw2
  go_wp2_with fail
  go_loopg [4, 5, 6] 1 (fun gk l c i wr => i = .int .i64 0 ∧ wr = w2)
  case atStart => exact ⟨rfl, rfl⟩
  case round =>
    obtain ⟨rfl, rfl⟩ := hrel
    go_wp2_with fail
    go_ret
    exact ⟨rfl, hb⟩

theorem zzblank_some (x : Addr) (n c : Nat) (z : Nat → Int) (w : World) (hn : n ≤ 4194304) (hz : ∀ i, i < n → 0 ≤ z i ∧ z i < 256) (h : Rd w w.heap.size (some x) n z) :
    Calls Try.prog 8 #[.slice (some x) n c] w fun e w' => ∃ g cap y, e = .returned (.slice (some ⟨g, 0, none⟩) n cap) ∧ w'.ownsRow w.heap.size 5 1 (.slice (some ⟨g, 0, none⟩) n cap) n (cellsF y n) ∧ Blanked z n y ∧ Below w.heap.size w w' := by
  go_enter Try.func8, Try.ntmps8
  go_wp2_with fail
  refine (blank_some x n c z w hn hz h).mono ?_
  rintro e w1 ⟨g, cap, y, rfl, h1, h2, h3⟩
  go_wp2_with fail
  go_ret
  exact ⟨g, cap, y, rfl, h1, h2, h3⟩

theorem zzblank_nil (n c : Nat) (w : World) :
    Calls Try.prog 8 #[.slice none n c] w fun e w' => e = .returned (.slice none 0 0) ∧ Below w.heap.size w w' := by
  go_enter Try.func8, Try.ntmps8
  go_wp2_with fail
  refine (blank_nil n c w).mono ?_
  rintro e w1 ⟨rfl, h3⟩
  go_wp2_with fail
  go_ret
  exact ⟨rfl, h3⟩
end Go.Proofs.Qxb6617893a
