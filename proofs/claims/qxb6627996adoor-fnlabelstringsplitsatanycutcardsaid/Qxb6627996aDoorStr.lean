/-
  The walk of (Label).String.
-/
import Derived.Test.Qxb6627996aDoorMake
import Derived.Test.Qxb6627996aDoorShelf
import Derived.Lib.AppendIntMem
import Derived.Lib.OthersKept
import Derived.Laws.IdiomStrings
namespace Go.Proofs.Qxb6627996aDoor
open Go.RowKit
open Go.Lib (decDigits)

/-- The table of powers of ten, by its name. -/
def tabName : String := Rows.fnLabelStringDecodesToPartsRow.named.headD ""
def Tab (B : Nat) (w : World) : Prop := Lib.TabBelow Tryd.prog B w tabName .u64 Lib.pow10Tab
theorem Tab.on {B : Nat} {w w' : World} (h : Tab B w) (hb : Below B w w') : Tab B w' := Lib.TabBelow.on h hb

theorem info5 : (Tryd.prog.info? 5).map (fun i => (i.zero, i.size, i.bytes)) = some (some (.int .u8 0), 1, 1) := by kernel_rfl

theorem appendInt_z (B n : Nat) (i : Int) (sv : Value) (xs : List Value) (w : World) (i0 : 0 ≤ i) (i1 : i ≤ 9223372036854775807) (hown : w.ownsRow B 5 1 sv n xs) (hB : B ≤ w.heap.size) (hlim : n + 21 ≤ 140737488355328) (hT : Tab B w) :
    Calls Tryd.prog 13 #[sv, .int .i64 i, .int .i64 10] w fun e w' => ∃ v', e = .returned v' ∧ w'.ownsRow B 5 1 v' (n + (decDigits i.toNat).length) (xs ++ Lib.byteCells (decDigits i.toNat)) ∧ Below B w w' ∧ Lib.OthersKept 5 none w w' := by
  have h := Any.strconv_AppendInt_10 Tryd.laysM176 B n i (by omega) i1 sv xs w hown hB hlim hT
  have e : Lib.itoa i = decDigits i.toNat := by unfold Lib.itoa; rw [if_neg (by omega)]
  rw [e] at h
  exact h

set_option maxHeartbeats 400000 in
theorem appendUint_z (B n : Nat) (i : Int) (sv : Value) (xs : List Value) (w : World) (i0 : 0 ≤ i) (i1 : i ≤ 18446744073709551615) (hown : w.ownsRow B 5 1 sv n xs) (hB : B ≤ w.heap.size) (hlim : n + 21 ≤ 140737488355328) (hT : Tab B w) :
    Calls Tryd.prog 14 #[sv, .int .u64 i, .int .i64 10] w fun e w' => ∃ v', e = .returned v' ∧ w'.ownsRow B 5 1 v' (n + (decDigits i.toNat).length) (xs ++ Lib.byteCells (decDigits i.toNat)) ∧ Below B w w' ∧ Lib.OthersKept 5 none w w' := by
  have h := Any.internal_strconv_AppendUint_10 Tryd.laysM288 B n i.toNat (by omega) sv xs w hown hB (by omega) hT.here
  have e : ((i.toNat : Nat) : Int) = i := by omega
  rw [e] at h
  have h' : Calls Tryd.prog 17 #[sv, .int .u64 i, .int .i64 10] w fun e w' => ∃ v', e = .returned v' ∧ w'.ownsRow B 5 1 v' (n + (decDigits i.toNat).length) (xs ++ Lib.byteCells (decDigits i.toNat)) ∧ Below B w w' ∧ Lib.OthersKept 5 none w w' := h
  clear h e hT i0 i1 hown
  go_enter Tryd.func14, Tryd.ntmps14
  go_wp2_with fail
  refine h'.mono ?_
  rintro e w1 ⟨v, rfl, h1, h2, h3⟩
  go_wp2
  go_ret
  exact ⟨v, rfl, h1, h2, h3⟩

theorem own_kind {w : World} {B : Nat} {e : TypeId} {v : Value} {n : Nat} {xs : List Value} (h : w.ownsRow B e 1 v n xs) : ∀ g, v.ownBlock = some g → ∃ c fz, w.heap[g]? = some (.cells c e fz) := by
  intro g hg
  rcases h.2 with ⟨rfl, _⟩ | ⟨g', cap, cur, rfl, _, hgg, _⟩
  · simp [Value.ownBlock] at hg
  · simp [Value.ownBlock] at hg
    subst hg
    exact ⟨cur, _, hgg⟩

theorem own_ge {w : World} {base : Nat} {e size : Nat} {v : Value} {n : Nat} {xs : List Value} (h : w.ownsRow base e size v n xs) : ∀ k, v.ownBlock = some k → base ≤ k := by
  intro k hk
  rcases h.2 with ⟨rfl, _⟩ | ⟨g, cap, cur, rfl, hg, _⟩
  · simp [Value.ownBlock] at hk
  · simp [Value.ownBlock] at hk
    omega

/-- The box that holds one part. -/
def Box (p : Nat) (x y : Int) (w : World) : Prop := w.heap[p]? = some (.cells #[.int .i64 x, .int .u64 y] 36 (0, 0))

theorem Box.cells {p : Nat} {x y : Int} {w : World} (h : Box p x y w) : w.cell? ⟨p, 0, none⟩ = some (.int .i64 x) ∧ w.cell? ⟨p, 1, none⟩ = some (.int .u64 y) := by
  unfold Box at h
  constructor <;> (unfold World.cell?; simp [h])

theorem Box.kept {p : Nat} {x y : Int} {w w' : World} (h : Box p x y w) (k : Lib.OthersKept 5 none w w') : Box p x y w' :=
  k p _ h (by simp) (fun c fz e => by simp at e)

theorem box_new (w : World) (x y : Int) : Box w.heap.size x y (w.alloc (.cells #[.int .i64 x, .int .u64 y] 36)) := by
  show (w.heap.push _)[w.heap.size]? = _
  simp

set_option maxHeartbeats 400000 in
theorem str_zero (a : Option Addr) (c : Nat) (w : World) :
    Calls Tryd.prog 7 #[.agg #[.slice a 0 c]] w fun e w' => e = .returned (.string ⟨#[48]⟩) ∧ Below w.heap.size w w' := by
  go_enter Tryd.func7, Tryd.ntmps7
  go_wp2
  go_ret
  exact ⟨rfl, (Below.refl _ _).alloc (Nat.le_refl _) _⟩

set_option maxRecDepth 20000 in
set_option maxHeartbeats 1000000 in
theorem str_some (b off n c : Nat) (R C : Nat → Int) (w : World) (hn : n ≤ 65536) (hn0 : 0 < n) (hb0 : b < w.heap.size) (hf : Fits n R C) (hT : Tab w.heap.size w)
    (hP : ∀ i, i < n → w.cell? ⟨b, off + i * 2, none⟩ = some (.int .i64 (R i)) ∧ w.cell? ⟨b, off + i * 2 + 1, none⟩ = some (.int .u64 (C i))) :
    Calls Tryd.prog 7 #[.agg #[.slice (some ⟨b, off, none⟩) n c]] w fun e w' => e = .returned (.string ⟨(txt R C n).toArray⟩) ∧ Below w.heap.size w w' := by
  obtain ⟨i0, hi, hz0, hz1, hz2⟩ := info_parts info5
  have hne : ((n : Int) == 0) = false := by rw [beq_eq_false_iff_ne]; omega
  have HT : Hid (Tab w.heap.size w) := hT
  have hlen : ∀ k, k ≤ n → (txt R C k).length ≤ 4194304 := by
    intro k hk
    have h1 := lab_len R C k ⟨fun i hi => hf.r0 i (by omega), fun i hi => hf.r1 i (by omega), fun i hi => hf.c0 i (by omega), fun i hi => hf.c1 i (by omega)⟩ (by omega)
    by_cases h0 : k = 0
    · subst h0; simp [txt]
    · simpa [lab, h0] using h1
  clear hT
  go_enter Tryd.func7, Tryd.ntmps7
  go_wp2
  clear hne
  go_loopw [3, 13] (fun v i wr => ∃ k : Nat, k ≤ n ∧ i = .int .i64 k ∧ wr.ownsRow w.heap.size 5 1 v (txt R C k).length (Lib.byteCells (txt R C k)) ∧ Below w.heap.size w wr) (fun _ i _ => n - (intOf i).toNat)
  case atStart => exact ⟨0, Nat.zero_le _, rfl, World.ownsRow_nil _ _ _ _, (Below.refl _ _).alloc (Nat.le_refl _) _⟩
  case round =>
    obtain ⟨k, hk, rfl, hown, hb⟩ := hrel
    by_cases hlt : k < n
    · have c1 := (hb.cell (p := ⟨b, off + k * 2, none⟩) (by exact hb0)).trans (hP k hlt).1
      have c2 := (hb.cell (p := ⟨b, off + k * 2 + 1, none⟩) (by exact hb0)).trans (hP k hlt).2
      have r0 := hf.r0 k hlt
      have r1 := hf.r1 k hlt
      have d0 := hf.c0 k hlt
      have d1 := hf.c1 k hlt
      have hl := hlen k hk
      have hle : (sep k).length ≤ 1 := by unfold sep; split <;> simp
      have hnr := Lib.nDigits_le20 (R k).toNat (by omega)
      rw [← Lib.decDigits_length] at hnr
      obtain ⟨L1, hL1⟩ : ∃ L1, L1 = txt R C k ++ sep k := ⟨_, rfl⟩
      have HL1 : Hid (L1 = txt R C k ++ sep k) := hL1
      have hl1 : L1.length ≤ 4194305 := by rw [hL1, List.length_append]; omega
      have HN : Hid (txt R C (k + 1) = L1 ++ (decDigits (R k).toNat ++ 58 :: decDigits (C k).toNat)) := by show _ = _; rw [hL1]; simp [txt, part]
      clear hL1 hle hP hf
      by_cases hk0 : k = 0
      case' pos =>
        have hkt : ¬ (0 : Int) < (k : Int) := by omega
        have eL : L1 = txt R C k := by rw [HL1.out]; unfold sep; rw [if_pos hk0, List.append_nil]
        rw [← eL] at hown
        have hown1 := hown.alloc (.cells #[.int .i64 (R k), .int .u64 (C k)] 36)
        have hb1 : Below w.heap.size w (wr.alloc (.cells #[.int .i64 (R k), .int .u64 (C k)] 36)) := hb.alloc hb.size _
        have hbox1 := box_new wr (R k) (C k)
        clear hk0 hown eL
        go_wp2_with fail
      case' neg =>
        have hkt : (0 : Int) < (k : Int) := by omega
        have eL : L1 = txt R C k ++ [44] := by rw [HL1.out]; unfold sep; rw [if_neg hk0]
        have EL : Hid (L1 = txt R C k ++ [44]) := eL
        clear eL
        go_wp2_with (at_builtin; refine wpList_append_own _ rfl (.tmp 20) (.tmp 21) 37 rfl w.heap.size 5 i0 (.int .u8 0) 1 1 Tryd.underlying37 hi hz0 hz1 hz2 rfl (by decide) _ _ _ rfl ((hown.alloc _).alloc _) ⟨wr.heap.size + 1, 0, none⟩ 1 1 [Value.int .u8 44] rfl rfl (by intro j u' hj; match j, hj with | 0, hj => simp at hj; subst hj; simp [Addr.add]) (by intro u' hu'; simp at hu'; subst hu'; rfl) (by unfold maxLen; omega) (by omega) (by have := hb.size; simp; omega) ?_)
        intro v1 w1 hown1 hgrow1 _
        have hb1 : Below w.heap.size w w1 := ((hb.alloc hb.size _).alloc (by have := hb.size; simp; omega) _).grown hgrow1 (by have := hb.size; simp; omega) (own_ge hown)
        have hbox1 : Box wr.heap.size (R k) (C k) w1 := (box_new wr (R k) (C k)).kept (((Lib.OthersKept.refl _ _ _).alloc _).grown hgrow1 (own_kind ((hown.alloc _).alloc _)))
        have e1 : (txt R C k).length + 1 = L1.length := by rw [EL.out, List.length_append]; rfl
        have e2 : Lib.byteCells (txt R C k) ++ [Value.int .u8 44] = Lib.byteCells L1 := by rw [EL.out]; simp [Lib.byteCells]
        rw [e1, e2] at hown1
        have c3 := hbox1.cells.1
        clear hgrow1 hown e1 e2 hk0
        go_wp2_with fail
      all_goals
        refine (appendInt_z w.heap.size L1.length (R k) _ _ _ r0 r1 hown1 hb1.size (by omega) (HT.out.on hb1)).mono ?_
        rintro e w2 ⟨v2, rfl, hown2, hb2, ho2⟩
        have hB2 := hb1.trans hb2
        have hbox2 := hbox1.kept ho2
        clear hown1 ho2 hbox1
        go_wp2_with (at_builtin; refine wpList_append_own _ rfl (.tmp 27) (.tmp 28) 37 rfl w.heap.size 5 i0 (.int .u8 0) 1 1 Tryd.underlying37 hi hz0 hz1 hz2 rfl (by decide) _ _ _ rfl (hown2.alloc _) ⟨w2.heap.size, 0, none⟩ 1 1 [Value.int .u8 58] rfl rfl (by intro j u' hj; match j, hj with | 0, hj => simp at hj; subst hj; simp [Addr.add]) (by intro u' hu'; simp at hu'; subst hu'; rfl) (by unfold maxLen; omega) (by omega) (by have := hB2.size; simp; omega) ?_)
        intro v3 w3 hown3 hgrow3 _
        have hB3 : Below w.heap.size w w3 := (hB2.alloc hB2.size _).grown hgrow3 (by have := hB2.size; simp; omega) (own_ge hown2)
        have hbox3 : Box wr.heap.size (R k) (C k) w3 := hbox2.kept (((Lib.OthersKept.refl _ _ _).alloc _).grown hgrow3 (own_kind (hown2.alloc _)))
        have c4 := hbox3.cells.2
        clear hgrow3 hown2 hbox2 hbox3
        go_wp2_with fail
        refine (appendUint_z w.heap.size _ (C k) _ _ _ d0 d1 hown3 hB3.size (by omega) (HT.out.on hB3)).mono ?_
        rintro e w4 ⟨v4, rfl, hown4, hb4, _⟩
        have hB4 := hB3.trans hb4
        have hown5 : w4.ownsRow w.heap.size 5 1 v4 (txt R C (k + 1)).length (Lib.byteCells (txt R C (k + 1))) := by
          have e1 : L1.length + (decDigits (R k).toNat).length + 1 + (decDigits (C k).toNat).length = (txt R C (k + 1)).length := by rw [HN.out]; simp; omega
          have e2 : Lib.byteCells L1 ++ (Lib.byteCells (decDigits (R k).toNat) ++ ([Value.int .u8 58] ++ Lib.byteCells (decDigits (C k).toNat))) = Lib.byteCells (txt R C (k + 1)) := by rw [HN.out]; simp [Lib.byteCells]
          simp only [List.append_assoc] at hown4
          rw [e1, e2] at hown4
          exact hown4
        clear hown3 hown4 c4 c1 c2 r0 r1 d0 d1
        go_wp2
        go_roundw
        case rel => exact ⟨k + 1, by omega, by go_num, hown5, hB4⟩
        case measure => simp [intOf]; omega
    · obtain rfl : k = n := by omega
      obtain ⟨T, hTx⟩ : ∃ T, T = txt R C k := ⟨_, rfl⟩
      rw [← hTx] at hown
      have HX : Hid (T = txt R C k) := hTx
      have hpos : 0 < T.length := by
        obtain ⟨j, rfl⟩ : ∃ j, k = j + 1 := ⟨k - 1, by omega⟩
        rw [hTx]
        simp only [txt, part, List.length_append, List.length_cons]
        omega
      clear hTx hP hf hlen
      rcases hown.2 with ⟨_, h0⟩ | ⟨g, cap, cur, rfl, _⟩
      · omega
      have hcv := run_convert_bytes_back (P := Tryd.prog) wr 37 9 5 ⟨g, 0, none⟩ cap T Tryd.underlying37 Tryd.underlying5 Tryd.underlying9 (fun j hj => by
        have := hown.cellAt j (by omega)
        rw [Go.WideShapes.add_plain, Nat.zero_add, this]
        simp [Lib.byteCells, hj])
      go_wp2
      go_ret
      rw [← HX.out]
      exact ⟨rfl, hb⟩

theorem str_any (n c : Nat) (a : Option Addr) (R C : Nat → Int) (w : World) (hn : n ≤ 65536) (hf : Fits n R C) (hT : Tab w.heap.size w) (hP : PR w a n R C) :
    Calls Tryd.prog 7 #[.agg #[.slice a n c]] w fun e w' => e = .returned (.string ⟨(lab R C n).toArray⟩) ∧ Below w.heap.size w w' := by
  by_cases h0 : n = 0
  · subst h0
    exact str_zero a c w
  · rcases hP with h | ⟨b, off, rfl, hb, hP⟩
    · exact absurd h h0
    have := str_some b off n c R C w hn (by omega) hb hf hT hP
    unfold lab
    rw [if_neg h0]
    exact this

end Go.Proofs.Qxb6627996aDoor
