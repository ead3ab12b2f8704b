/-
  Seat b6001179a. 'Rows.FnCutASCIIExactSaid'. The frame: the seat's shell (proof-skeleton.mjs), its end turned from 'Grown' to 'Below'.
-/
import Derived.Test.Qxb6001179aRows
import Derived.Test.Qxb6001179aCut
import Derived.WalkKit
import Derived.ProofKit
import Derived.OpenShut
import Derived.ShutString
import Derived.Below
import Derived.Deep.OwnRows
import Derived.Laws.BytesArg
import Derived.Laws.BitsAllLaws
namespace Go.Proofs.Qxb6001179a.fnCutASCIIExact
open Go.ChangeShapes Go.WideShapes Go.ChangeAt Go.RowKit
open Go.ChangeMaps (open_string shut_string)
set_option linter.unusedVariables false      -- a walk need not use every 'w<i>' (that an integer argument fits its kind)

theorem own : ownKnob Try.prog.godebug = none := by kernel_rfl

theorem info5 : (Try.prog.info? 5).map (fun i => (i.zero, i.size, i.bytes)) = some (some (.int .u8 0), 1, 1) := by kernel_rfl

/-! ### THE PLAIN PART -/
theorem ret_bool {a b : Bool} (h : a = b) : Ending.returned (.bool a) = .returned (.bool b) := by rw [h]

theorem mask_bd (x : UInt8) : 0 ≤ bits .and .u8 (x.toNat : Int) 127 ∧ bits .and .u8 (x.toNat : Int) 127 < 128 := by
  have h := u8_and_nat x.toNat 127 x.toNat_lt (by decide)
  have e : ((127 : Nat) : Int) = 127 := rfl
  rw [e] at h
  rw [h]
  have := Nat.and_le_right (n := x.toNat) (m := 127)
  omega

/-- The numbers of a row of which every cell holds a number below 128, as a list. -/
def nums (g : Nat → Int) (n : Nat) : List Int := (List.range n).map g
theorem nums_length (g : Nat → Int) (n : Nat) : (nums g n).length = n := by simp [nums]
theorem nums_getD (g : Nat → Int) (n i : Nat) (h : i < n) : (nums g n).getD i 0 = g i := by simp [nums, h]
theorem nums_ascii (g : Nat → Int) (n : Nat) (hg : ∀ j, 0 ≤ g j ∧ g j < 128) (i : Nat) (h : i < (strOfNums (nums g n)).size) : ((strOfNums (nums g n))[i]'h).toNat < 128 := by
  have hi : i < n := by rw [strOfNums_size, nums_length] at h; exact h
  have e : (strOfNums (nums g n))[i]'h = UInt8.ofNat (g i).toNat := by
    show (strOfNums (nums g n)).data[i] = _
    simp [strOfNums, nums]
  rw [e]
  have := hg i
  simp
  omega

/-- What the loop that masks keeps: the new row holds numbers below 128; nothing old has turned. -/
structure Kept (n : Nat) (w wr : World) : Prop where
  row : ∃ g : Nat → Int, (∀ j, 0 ≤ g j ∧ g j < 128) ∧ wr.rowIs w.heap.size 5 n (fun j => .int .u8 (g j))
  old : Below w.heap.size w wr

theorem kept_made (n : Nat) (w : World) : Kept n w (w.alloc (.cells (madeCells #[.int .u8 0] n) 5)) :=
  ⟨⟨fun _ => 0, fun _ => by simp, World.rowIs_made w _ n 5⟩, (Below.refl _ _).alloc (Nat.le_refl _) _⟩

theorem kept_set {n : Nat} {w wr : World} (h : Kept n w wr) (k : Nat) (x : Int) (h0 : 0 ≤ x) (h1 : x < 128) : Kept n w (wr.setCell ⟨w.heap.size, k, none⟩ (.int .u8 x)) := by
  obtain ⟨⟨g, hg, hr⟩, ho⟩ := h
  refine ⟨⟨fun j => if j = k then x else g j, fun j => ?_, (hr.set k _).congr (fun j _ => ?_)⟩, ho.setCell (Nat.le_refl _) _⟩
  · show 0 ≤ (if j = k then x else g j) ∧ (if j = k then x else g j) < 128
    split
    · exact ⟨h0, h1⟩
    · exact hg j
  · show (if j = k then Value.int .u8 x else Value.int .u8 (g j)) = Value.int .u8 (if j = k then x else g j)
    split <;> rfl

theorem kept_cell {n : Nat} {w wr : World} (h : Kept n w wr) (k : Nat) (hk : k < n) : (∃ y, wr.cell? ⟨w.heap.size, k, none⟩ = some (.int .u8 y)) ∧ wr.frozen? ⟨w.heap.size, k, none⟩ = false := by
  obtain ⟨⟨g, hg, hr⟩, ho⟩ := h
  exact ⟨⟨_, hr.cell hk⟩, hr.frozen k⟩

/-! ### THE WALK: the Go text returns true, and writes nothing that was there. -/
theorem bytes_yes (s : ByteArray) (w : World) (hs : s.size ≤ 1048576) :
    Calls Try.prog 12 #[.string s] w fun e w' => e = .returned (.bool true) ∧ w = w' := by
  go_enter Try.func12, Try.ntmps12
  go_wp2
  go_ret
  exact ⟨rfl, rfl⟩
theorem bytes_no (s : ByteArray) (w : World) (hs : 1048576 < s.size) (hm : s.size ≤ maxLen) :
    Calls Try.prog 12 #[.string s] w fun e w' => e = .returned (.bool false) ∧ w = w' := by
  unfold maxLen at hm
  go_enter Try.func12, Try.ntmps12
  go_wp2
  go_ret
  exact ⟨rfl, rfl⟩

set_option maxHeartbeats 1000000 in
theorem walk (a0 : ByteArray) (w0 : a0.size ≤ maxLen) (w : World) :
    Calls Try.prog 5 #[.string a0] w fun e w' => e = .returned (.bool true) ∧ Below w.heap.size w w' := by
  by_cases hs : a0.size ≤ 1048576
  · clear w0
    have hmk := run_make_row' (P := Try.prog) 24 5 (.int .u8 0) 1 Try.underlying24 info5 rfl .i64 .i64 a0.size (by omega) (by omega)
    go_enter Try.func5, Try.ntmps5
    go_wp2_with (first | (go_at_call 12; refine (bytes_yes _ _ hs).mono ?_; rintro e w' ⟨rfl, rfl⟩))
    clear hmk
    go_loopw [4] (fun i wr => ∃ k : Nat, k ≤ a0.size ∧ i = .int .i64 k ∧ Kept a0.size w wr) (fun i _ => a0.size - (intOf i).toNat)
    case atStart => exact ⟨0, Nat.zero_le _, rfl, kept_made _ _⟩
    case round =>
      obtain ⟨k, hk, rfl, hK⟩ := hrel
      by_cases hlt : k < a0.size
      · obtain ⟨⟨y, hy⟩, hf⟩ := kept_cell hK k hlt
        have hm := mask_bd (a0[k]'hlt)
        have HK : Hid (Kept a0.size w wr) := hK
        have HM : Hid (0 ≤ bits .and .u8 ((a0[k]'hlt).toNat : Int) 127 ∧ bits .and .u8 ((a0[k]'hlt).toNat : Int) 127 < 128) := hm
        clear hK hm
        go_wp2
        go_roundw
        case rel => exact ⟨k + 1, by omega, by go_num, kept_set HK.out k _ HM.out.1 HM.out.2⟩
        case measure => simp [intOf]; omega
      · have hkk : k = a0.size := by omega
        subst hkk
        obtain ⟨⟨g, hg, hr⟩, ho⟩ := hK
        have hcv := run_convert_bytes_arg (P := Try.prog) wr 24 5 Try.underlying24 Try.underlying5 w.heap.size 0 a0.size a0.size (nums g a0.size) (nums_length _ _) (fun i hi => by rw [Nat.zero_add, hr.cell hi, nums_getD _ _ _ hi]) 9 Try.underlying9
        have ha := nums_ascii g a0.size hg
        have hsz : (strOfNums (nums g a0.size)).size = a0.size := by rw [strOfNums_size, nums_length]
        have HO : Hid (Below w.heap.size w wr) := ho
        have hcut := fun wx => zzcut_ascii (strOfNums (nums g a0.size)) wx (by rw [hsz]; exact hs) ha
        rw [hsz] at hcut
        clear ha hg hr ho
        generalize strOfNums (nums g a0.size) = t at *
        by_cases hbig : 10000 < a0.size
        · have e1 : min a0.size 10000 = 10000 := by omega
          rw [e1] at hcut
          clear e1
          go_wp2_with (first | (go_at_call 10; refine (hcut _).mono ?_; rintro e w' ⟨rfl, hb⟩))
          go_ret
          exact ⟨ret_bool (by simp), HO.out.trans (hb.mono HO.out.size)⟩
        · have e1 : min a0.size 10000 = a0.size := by omega
          rw [e1] at hcut
          clear e1
          go_wp2_with (first | (go_at_call 10; refine (hcut _).mono ?_; rintro e w' ⟨rfl, hb⟩))
          go_ret
          exact ⟨ret_bool (by simp), HO.out.trans (hb.mono HO.out.size)⟩
  · go_enter Try.func5, Try.ntmps5
    go_wp2_with (first | (go_at_call 12; refine (bytes_no _ _ (by omega) w0).mono ?_; rintro e w' ⟨rfl, rfl⟩))
    go_ret
    exact ⟨rfl, Below.refl _ _⟩

/-! ### THE ROW's STEP: WRITTEN OUT: LEAVE IT -/
set_option maxRecDepth 100000 in
theorem lifted (os : Os) (started : os.Started) (H : Type) (enc : TypeId × Value → H) :
    ReturnsInHanded {} Try.checked os 5 .any (Rows.fnCutASCIIExactSpec.pre6 enc Try.prog Try.f5 Rows.fnCutASCIIExactRow.domain false) (Rows.fnCutASCIIExactSpec.post enc Try.prog Try.f5 false true false false) := by
  refine returnsInHanded_of_change (C := Try.checked) own started (by kernel_rfl) Try.func5
    (ChangeSpec.witness6 (enc := enc) (C := Try.checked) false ⟨#[], #[.string ByteArray.empty], []⟩ 8 (by kernel_rfl) (by kernel_rfl) (by kernel_rfl) (by kernel_rfl)) ?_
  intro W base args ds gs before hval0 hW hcnd _
  have hval : ∀ (j : Nat) t v, Try.f5.params[j]? = some t → args[j]? = some v → Value.okWide Try.prog W .any base t v := hval0
  have hW' := hW
  obtain ⟨p, q, hA0, hV, rfl, hfz, hnd⟩ := hW
  have hA : DataW.TrodAll enc Try.prog W 0 (fun _ => true) true Try.f5.params.toList args.toList ds p := hA0
  rw [Try.params5] at hA hval
  obtain ⟨v0, vs0, d0, ds0, p0, q0, hargs, rfl, rfl, h0, r0⟩ := trodAll_cons hA
  obtain ⟨rfl, rfl, rfl⟩ := trodAll_nil r0
  obtain rfl : args = #[v0] := by cases args; simp_all
  obtain ⟨rfl, rfl⟩ := trodVars_none hV
  obtain ⟨a0, rfl, rfl, rfl, w0⟩ := open_string Try.underlying9 (hval 0 9 v0 rfl rfl) h0
  clear hA0 hval0
  refine (walk a0 w0 W).mono fun e W' ⟨he, bel⟩ => ?_
  subst he
  exact ⟨_, rfl, _, _, _, [], _, [], hW', trodAll_mk1 (shut_bool Try.underlying4 _), (trodAll_cons_mk (shut_string Try.underlying9 w0) trodAll_mk0), rfl, bel.frame _, fun h => by cases h⟩

theorem over : Rows.fnCutASCIIExactRow.holds Try.pinned (OpenSpec.ofChange Rows.fnCutASCIIExactSpec) :=
  OpenClaim.holds_of_wide 5 Try.f5 rfl rfl rfl rfl rfl rfl rfl ⟨rfl, rfl, rfl, rfl, rfl⟩ rfl rfl rfl rfl rfl (by kernel_rfl) Try.func5 (by kernel_rfl)
    (of_decide_eq_true (by kernel_rfl)) (by unfold Func.isWrapper; first | (rw [if_pos (by decide +kernel)]; kernel_rfl) | (rw [if_neg (by decide +kernel)]; exact ⟨rfl, rfl⟩))
    (fun os started H enc _ => lifted os started H enc)

/-- ████ THE STATEMENT ████ -/
theorem proved : Rows.FnCutASCIIExactSaid :=
  over
end Go.Proofs.Qxb6001179a.fnCutASCIIExact
