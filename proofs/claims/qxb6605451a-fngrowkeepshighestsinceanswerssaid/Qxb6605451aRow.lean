/- Rows of ints in a walk; THE WALKS of zzIsPow2, zzCopyInts, zzTreeOK and the guards: functions 17, 9, 8, 7, 15, 18. -/
import Derived.Test.Qxb6605451aRows
import Derived.WalkKit
import Derived.WalkSpells
import Derived.WalkLawsBesides
import Derived.Deep.CutRange
import Derived.Deep.CutBlock
import Derived.Deep.QuietTactic
import Derived.BigQuiet
import Derived.Laws.CopyOwn
namespace Go.Proofs.Qxb6605451a
open Go.RowKit
/-- A block of cells, whole. -/
def Blk (w : World) (g : Nat) (cs : Array Value) (t : TypeId) : Prop := w.heap[g]? = some (.cells cs t (0, 0))
theorem Blk.cell {w : World} {g : Nat} {cs : Array Value} {t : TypeId} (h : Blk w g cs t) (j : Nat) : w.cell? ⟨g, j, none⟩ = cs[j]? := cell_of_row w g j cs t _ h
theorem Blk.frozen {w : World} {g : Nat} {cs : Array Value} {t : TypeId} (h : Blk w g cs t) (j : Nat) : w.frozen? ⟨g, j, none⟩ = false := frozen_of_row w g j cs t h
theorem Blk.set {w : World} {g : Nat} {cs : Array Value} {t : TypeId} (h : Blk w g cs t) (i : Nat) (v : Value) : Blk (w.setCell ⟨g, i, none⟩ v) g (cs.setIfInBounds i v) t := heap_setCell_same w g i cs t v h
theorem Blk.far {w : World} {g : Nat} {cs : Array Value} {t : TypeId} (h : Blk w g cs t) (a : Addr) (v : Value) (hn : g ≠ a.block) : Blk (w.setCell a v) g cs t := by unfold Blk; rw [heap_setCell_other w a g v hn]; exact h
theorem Blk.drew {w : World} {g : Nat} {cs : Array Value} {t : TypeId} (h : Blk w g cs t) : Blk w.drew g cs t := h
theorem Blk.drewN {w : World} {g : Nat} {cs : Array Value} {t : TypeId} (h : Blk w g cs t) (n : Nat) : Blk (w.drewN n) g cs t := h
theorem Blk.new (w : World) (cs : Array Value) (t : TypeId) : Blk (w.alloc (.cells cs t)) w.heap.size cs t := heap_alloc_new w _
theorem Blk.lt {w : World} {g : Nat} {cs : Array Value} {t : TypeId} (h : Blk w g cs t) : g < w.heap.size := (Array.getElem?_eq_some_iff.1 h).1
theorem Blk.old {w : World} {g : Nat} {cs : Array Value} {t : TypeId} (h : Blk w g cs t) (o : Obj) : Blk (w.alloc o) g cs t := by
  have hl := h.lt
  show (w.alloc o).heap[g]? = _
  rw [Below.heap_alloc w o g hl]; exact h
theorem Blk.newAt (w : World) (cs : Array Value) (t : TypeId) (g : Nat) (hg : g = w.heap.size) : Blk (w.alloc (.cells cs t)) g cs t := hg ▸ Blk.new w cs t
theorem Blk.eq {w : World} {g : Nat} {cs cs' : Array Value} {t : TypeId} (h : Blk w g cs t) (e : cs = cs') : Blk w g cs' t := e ▸ h
theorem Blk.below {w w' : World} {B g : Nat} {cs : Array Value} {t : TypeId} (h : Blk w g cs t) (hb : Below B w w') (hg : g < B) : Blk w' g cs t := by
  unfold Blk; rw [hb.block g hg]; exact h

/-- A slice of 'len' ints whose numbers are f 0, f 1, ..: where there is one at all its address is plain. -/
def Row (w : World) (a : Option Addr) (len : Nat) (f : Nat → Int) : Prop :=
  ∀ k, k < len → ∃ b off, a = some ⟨b, off, none⟩ ∧ ∀ j, j < len → w.cell? ⟨b, off + j, none⟩ = some (.int .i64 (f j))
theorem Row.below {w w' : World} {a : Option Addr} {len : Nat} {f : Nat → Int} (h : Row w a len f) (hb : Below w.heap.size w w') : Row w' a len f := fun k hk => by
  obtain ⟨b, off, e, hc⟩ := h k hk
  exact ⟨b, off, e, fun j hj => (hb.cell (p := ⟨b, off + j, none⟩) (World.block_lt_of_cell? w _ (hc j hj))).trans (hc j hj)⟩
theorem Row.drewN {w : World} {a : Option Addr} {len : Nat} {f : Nat → Int} (h : Row w a len f) (n : Nat) : Row (w.drewN n) a len f := h
theorem Row.blk {w : World} {g len : Nat} {cs : Array Value} {t : TypeId} {f : Nat → Int} (hb : Blk w g cs t) (h : ∀ j, j < len → cs[j]? = some (.int .i64 (f j))) : Row w (some ⟨g, 0, none⟩) len f := fun k _ =>
  ⟨g, 0, rfl, fun j hj => by rw [Nat.zero_add]; exact (hb.cell j).trans (h j hj)⟩
theorem Row.eq {w : World} {a : Option Addr} {len : Nat} {f f' : Nat → Int} (h : Row w a len f) (e : ∀ j, j < len → f j = f' j) : Row w a len f' := fun k hk => by
  obtain ⟨b, off, ea, hc⟩ := h k hk
  exact ⟨b, off, ea, fun j hj => by rw [← e j hj]; exact hc j hj⟩

/-! ### powers of two -/
def pow2N (x : Nat) : Bool := (x &&& (x - 1)) == 0
theorem pow2N_iff (x : Nat) (h : 0 < x) : pow2N x = true ↔ ∃ e, x = 2 ^ e := by
  have := Nat.and_sub_one_eq_zero_iff_isPowerOfTwo (n := x) (by omega)
  unfold pow2N
  rw [beq_iff_eq, this]
  rfl
theorem wraps_i64 (n : Int) (h0 : 0 ≤ n) (h1 : n < 2 ^ 62) : IntKind.i64.wrap n = n := by rw [IntKind.wrap_i64]; omega
theorem and_i64 (x : Nat) (h : 0 < x) (h2 : x ≤ 1048576) : (bits .and .i64 (x : Int) ((x : Int) - 1) == 0) = pow2N x := by
  have e : ((x : Int) - 1) = ((x - 1 : Nat) : Int) := by omega
  rw [e, (bits_nat .i64 62 (by decide) wraps_i64 x (x - 1) (by omega) (by omega)).1]
  unfold pow2N
  cases h : (x &&& (x - 1) == 0)
  · rw [beq_eq_false_iff_ne] at h ⊢; omega
  · rw [beq_iff_eq] at h ⊢; omega
set_option maxHeartbeats 400000 in
theorem pow2_any (x : Nat) (w : World) (h : 0 < x) (h2 : x ≤ 1048576) : Calls Try.prog 17 #[.int .i64 x] w fun e w' => e = .returned (.bool (pow2N x)) ∧ w = w' := by
  have HK : Hid _ := and_i64 x h h2
  go_enter Try.func17, Try.ntmps17
  go_wp2
  go_ret
  exact ⟨by rw [← HK.out]; rfl, rfl⟩
/-- The larger of two. -/
def mxT (a b : Int) : Int := if a < b then b else a
/-- lastRead's invariant over L leaves. -/
def Inner (L : Nat) (T : Nat → Int) : Prop := ∀ i, 1 ≤ i → i < L → T i = mxT (T (2 * i)) (T (2 * i + 1))
def TreeP (L len : Nat) (T : Nat → Int) : Prop := (∃ e, L = 2 ^ e) ∧ len = 2 * L ∧ Inner L T
set_option maxHeartbeats 400000 in
theorem tree_zero (a : Option Addr) (len cap : Nat) (w : World) : Calls Try.prog 8 #[.int .i64 0, .slice a len cap] w fun e w' => e = .returned (.bool true) ∧ w = w' := by
  go_enter Try.func8, Try.ntmps8
  go_wp2
  go_ret
  exact ⟨rfl, rfl⟩
/-- What zzTreeOK answers: the invariant holds, or it doesn't. -/
def TreeRet (L len : Nat) (T : Nat → Int) (w : World) (e : Ending) (w' : World) : Prop := ∃ b, e = .returned (.bool b) ∧ (b = true ↔ TreeP L len T) ∧ w = w'
theorem TreeRet.no {L len : Nat} {T : Nat → Int} {w : World} {e : Ending} (he : e = .returned (.bool false)) (h : ¬ TreeP L len T) : TreeRet L len T w e w := ⟨false, he, ⟨fun h => (by cases h), fun q => absurd q h⟩, rfl⟩
theorem TreeRet.yes {L len : Nat} {T : Nat → Int} {w : World} {e : Ending} (he : e = .returned (.bool true)) (h : TreeP L len T) : TreeRet L len T w e w := ⟨true, he, ⟨fun _ => h, fun _ => rfl⟩, rfl⟩
set_option maxHeartbeats 1000000 in
theorem tree_any (L : Nat) (a : Option Addr) (len cap : Nat) (T : Nat → Int) (w : World) (hL : 0 < L) (hL2 : L ≤ 65536) (hlen : len ≤ 1048576) (hr : Row w a len T) :
    Calls Try.prog 8 #[.int .i64 L, .slice a len cap] w fun e w' => TreeRet L len T w e w' := by
  have HR : Hid _ := hr
  clear hr
  have z0 : ((L : Int) == 0) = false := by rw [beq_eq_false_iff_ne]; omega
  have z1 : decide ((L : Int) < 0) = false := by simp
  have z2 : decide (65536 < (L : Int)) = false := by simp; omega
  cases hp : pow2N L
  · have HF : Hid (¬ TreeP L len T) := fun h => by
      have := (pow2N_iff L hL).2 h.1
      rw [hp] at this; cases this
    go_enter Try.func8, Try.ntmps8
    go_wp2_with fail
    refine (pow2_any L _ hL (by omega)).mono ?_
    rintro e w' ⟨rfl, rfl⟩
    rw [hp]
    go_wp2_with fail
    go_ret
    exact TreeRet.no rfl HF.out
  · by_cases hl : len = 2 * L
    · have z3 : ((len : Int) != 2 * (L : Int)) = false := by rw [bne_eq_false_iff_eq]; omega
      go_enter Try.func8, Try.ntmps8
      go_wp2_with fail
      refine (pow2_any L _ hL (by omega)).mono ?_
      rintro e w' ⟨rfl, rfl⟩
      rw [hp]
      have hl' : 2 * L = len := hl.symm
      clear hl
      go_wp2_with fail
      go_loop [5] (fun s5 => ∃ i : Nat, 1 ≤ i ∧ i ≤ L ∧ s5 = .int .i64 i ∧ Hid (∀ j, 1 ≤ j → j < i → T j = mxT (T (2 * j)) (T (2 * j + 1)))) (fun i => L - (intOf i).toNat)
      case atStart => exact ⟨1, by omega, by omega, rfl, fun j h1 h2 => by omega⟩
      case round =>
        obtain ⟨i, hi1, hi2, rfl, HA⟩ := hrel
        by_cases hlt : i < L
        · obtain ⟨b, off, rfl, hc⟩ := HR.out i (by omega)
          have c0 := hc i (by omega)
          have c1 := hc (2 * i) (by omega)
          have c2 := hc (2 * i + 1) (by omega)
          clear hc
          by_cases hgt : T (2 * i) < T (2 * i + 1)
          · have HM : Hid (mxT (T (2 * i)) (T (2 * i + 1)) = T (2 * i + 1)) := if_pos hgt
            by_cases hq : T i = T (2 * i + 1)
            · have zq : (T i != T (2 * i + 1)) = false := by rw [bne_eq_false_iff_eq]; exact hq
              have HQ : Hid _ := hq.trans HM.out.symm
              clear hq
              go_wp2
              go_round
              case rel => exact ⟨i + 1, by omega, by omega, by go_num, fun j h1 h2 => by
                by_cases e : j = i
                · subst e; exact HQ.out
                · exact HA.out j h1 (by omega)⟩
              case measure => simp [intOf]; omega
            · have zq : (T i != T (2 * i + 1)) = true := by rw [bne_iff_ne]; exact hq
              have HF : Hid (¬ TreeP L len T) := fun h => hq ((h.2.2 i hi1 hlt).trans HM.out)
              clear hq
              go_wp2
              go_ret
              exact TreeRet.no rfl HF.out
          · have HM : Hid (mxT (T (2 * i)) (T (2 * i + 1)) = T (2 * i)) := if_neg hgt
            by_cases hq : T i = T (2 * i)
            · have zq : (T i != T (2 * i)) = false := by rw [bne_eq_false_iff_eq]; exact hq
              have HQ : Hid _ := hq.trans HM.out.symm
              clear hq
              go_wp2
              go_round
              case rel => exact ⟨i + 1, by omega, by omega, by go_num, fun j h1 h2 => by
                by_cases e : j = i
                · subst e; exact HQ.out
                · exact HA.out j h1 (by omega)⟩
              case measure => simp [intOf]; omega
            · have zq : (T i != T (2 * i)) = true := by rw [bne_iff_ne]; exact hq
              have HF : Hid (¬ TreeP L len T) := fun h => hq ((h.2.2 i hi1 hlt).trans HM.out)
              clear hq
              go_wp2
              go_ret
              exact TreeRet.no rfl HF.out
        · obtain rfl : L = i := by omega
          have HT : Hid (TreeP L len T) := ⟨(pow2N_iff L hL).1 hp, hl'.symm, HA.out⟩
          go_wp2
          go_ret
          exact TreeRet.yes rfl HT.out
    · have z3 : ((len : Int) != 2 * (L : Int)) = true := by rw [bne_iff_ne]; omega
      have HF : Hid (¬ TreeP L len T) := fun h => hl h.2.1
      go_enter Try.func8, Try.ntmps8
      go_wp2_with fail
      refine (pow2_any L _ hL (by omega)).mono ?_
      rintro e w' ⟨rfl, rfl⟩
      rw [hp]
      clear hl
      go_wp2_with fail
      go_ret
      exact TreeRet.no rfl HF.out
theorem info3 : ∃ i, Try.prog.info? 3 = some i ∧ i.zero = some (.int .i64 0) ∧ i.size = 1 ∧ i.bytes = 8 := by
  have h : (Try.prog.info? 3).map (fun i => (i.zero, i.size, i.bytes)) = some (some (.int .i64 0), 1, 8) := by kernel_rfl
  cases hq : Try.prog.info? 3 with
  | none => simp [hq] at h
  | some i =>
    simp [hq] at h
    exact ⟨i, rfl, h.1, h.2.1, h.2.2⟩
/-- make of n ints: zeros in a new block. -/
theorem make3 (w : World) (n : Nat) (h : n ≤ 1048576) : (Instr.makeSlice 22 (.int .i64 n) (.int .i64 n)).run Try.prog w = .ok (.slice (some ⟨w.heap.size, 0, none⟩) n n) (w.alloc (.cells (madeCells #[.int .i64 0] n) 3)) := by
  obtain ⟨i, hi, hz, hs, hby⟩ := info3
  have hr := run_make (P := Try.prog) w 22 3 i _ Try.underlying22 hi hz .i64 .i64 n n (by omega) (by omega) (by rw [hby]; omega) (by omega)
  rw [hs, Nat.mul_one] at hr
  simp only [Int.toNat_natCast] at hr
  exact hr
theorem made_at (n j : Nat) (h : j < n) : (madeCells #[.int .i64 0] n)[j]? = some (.int .i64 0) := by
  unfold madeCells
  simp [h]
  rw [show j % 1 = 0 from Nat.mod_one j]
  rfl
theorem put1 (cs : Array Value) (k n j : Nat) (v : Value) (f : Nat → Int) (hsz : cs.size = n) (hk : k < n) (hj : j < k + 1)
    (h : ∀ j, j < k → cs[j]? = some (.int .i64 (f j))) (hv : v = .int .i64 (f k)) : (cs.setIfInBounds k v)[j]? = some (.int .i64 (f j)) := by
  by_cases e : j = k
  · subst e
    rw [Array.getElem?_setIfInBounds_self_of_lt (by omega), hv]
  · rw [Array.getElem?_setIfInBounds_ne (by omega)]
    exact h j (by omega)
/-- What zzCopyInts hands back: the same numbers. -/
def CopyRet (len : Nat) (f : Nat → Int) (w : World) (e : Ending) (w' : World) : Prop := ∃ a', e = .returned (.slice a' len len) ∧ Below w.heap.size w w' ∧ Row w' a' len f
set_option maxHeartbeats 1000000 in
theorem copy_any (a : Option Addr) (len cap : Nat) (f : Nat → Int) (w : World) (hlen : len ≤ 1048576) (hr : Row w a len f) (hn : a = none → len = 0) :
    Calls Try.prog 9 #[.slice a len cap] w fun e w' => CopyRet len f w e w' := by
  have hnn : ∀ (W : World) (q : Option Addr) (n c : Nat), (binOp .eql 22 (.slice q n c) (.slice none 0 0)).run Try.prog W = .ok (.bool q.isNone) W := fun W q n c => Lib.run_eql_slice_nil W 22 _ q n c 0 0 Try.underlying22
  rcases a with _ | ad
  · obtain rfl := hn rfl
    clear hn
    go_enter Try.func9, Try.ntmps9
    go_wp2
    go_ret
    exact ⟨none, rfl, Below.refl _ _, fun k hk => by omega⟩
  · have hmk := make3 w len hlen
    have HR : Hid _ := hr
    clear hr hn
    go_enter Try.func9, Try.ntmps9
    go_wp2
    go_loopw [4] (fun s4 wr => ∃ k : Nat, k ≤ len ∧ s4 = .int .i64 k ∧ Below w.heap.size w wr ∧ ∃ cs, Blk wr w.heap.size cs 3 ∧ cs.size = len ∧ Hid (∀ j, j < k → cs[j]? = some (.int .i64 (f j)))) (fun i _ => len - (intOf i).toNat)
    case atStart => exact ⟨0, by omega, rfl, (Below.refl _ _).alloc (Nat.le_refl _) _, _, Blk.new _ _ _, size_madeCells _ _, fun j h => by omega⟩
    case round =>
      clear hmk
      obtain ⟨k, hk, rfl, hb, cs, bk, hsz, HC⟩ := hrel
      by_cases hlt : k < len
      · obtain ⟨b, off, hab, hc⟩ := HR.out k hlt
        obtain rfl := Option.some.inj hab
        clear hab
        have c1 := hc k hlt
        have d1 := (hb.cell (p := ⟨b, off + k, none⟩) (World.block_lt_of_cell? w _ c1)).trans c1
        obtain ⟨z1, e1⟩ : ∃ z, wr.cell? ⟨w.heap.size, k, none⟩ = some z := ⟨_, (bk.cell k).trans (Array.getElem?_eq_getElem (show k < cs.size by omega))⟩
        have hf := bk.frozen
        have hltI : (k : Int) < (len : Int) := by omega
        have HB : Hid _ := And.intro hb (And.intro bk hsz)
        clear c1 hc hb bk hsz
        go_wp2
        go_roundw
        case rel =>
          obtain ⟨hb, bk, hsz⟩ := HB.out
          exact ⟨k + 1, by omega, by go_num, hb.setCell (p := ⟨w.heap.size, k, none⟩) (Nat.le_refl _) _, _, bk.set _ _, by simp [hsz], fun j hj => put1 cs k len j _ f hsz hlt hj HC.out rfl⟩
        case measure => simp [intOf]; omega
      · obtain rfl : len = k := by omega
        have HB : Hid _ := And.intro hb (And.intro bk hsz)
        clear hb bk hsz
        go_wp2
        go_ret
        exact ⟨_, rfl, HB.out.1, Row.blk HB.out.2.1 HC.out⟩
set_option maxHeartbeats 400000 in
theorem bytesH_yes (x : Int) (a : Option Addr) (len cap : Nat) (y z : Int) (w : World) (h : len ≤ 1048576) : Calls Try.prog 7 #[.int .i64 x, .slice a len cap, .int .i64 y, .int .i64 z] w fun e w' => e = .returned (.bool true) ∧ w = w' := by
  go_enter Try.func7, Try.ntmps7
  go_wp2
  go_ret
  exact ⟨rfl, rfl⟩
set_option maxHeartbeats 400000 in
theorem bytesH_no (x : Int) (a : Option Addr) (len cap : Nat) (y z : Int) (w : World) (h : ¬ len ≤ 1048576) : Calls Try.prog 7 #[.int .i64 x, .slice a len cap, .int .i64 y, .int .i64 z] w fun e w' => e = .returned (.bool false) ∧ w = w' := by
  go_enter Try.func7, Try.ntmps7
  go_wp2
  go_ret
  exact ⟨rfl, rfl⟩
set_option maxHeartbeats 400000 in
theorem bytesG_yes (x : Int) (a : Option Addr) (len cap : Nat) (y : Int) (w : World) (h : len ≤ 1048576) : Calls Try.prog 15 #[.int .i64 x, .slice a len cap, .int .i64 y] w fun e w' => e = .returned (.bool true) ∧ w = w' := by
  go_enter Try.func15, Try.ntmps15
  go_wp2
  go_ret
  exact ⟨rfl, rfl⟩
set_option maxHeartbeats 400000 in
theorem bytesG_no (x : Int) (a : Option Addr) (len cap : Nat) (y : Int) (w : World) (h : ¬ len ≤ 1048576) : Calls Try.prog 15 #[.int .i64 x, .slice a len cap, .int .i64 y] w fun e w' => e = .returned (.bool false) ∧ w = w' := by
  go_enter Try.func15, Try.ntmps15
  go_wp2
  go_ret
  exact ⟨rfl, rfl⟩
set_option maxHeartbeats 400000 in
theorem bytesK_yes (x : Int) (a : Option Addr) (len cap : Nat) (y z u : Int) (w : World) (h : len ≤ 1048576) : Calls Try.prog 18 #[.int .i64 x, .slice a len cap, .int .i64 y, .int .i64 z, .int .i64 u] w fun e w' => e = .returned (.bool true) ∧ w = w' := by
  go_enter Try.func18, Try.ntmps18
  go_wp2
  go_ret
  exact ⟨rfl, rfl⟩
set_option maxHeartbeats 400000 in
theorem bytesK_no (x : Int) (a : Option Addr) (len cap : Nat) (y z u : Int) (w : World) (h : ¬ len ≤ 1048576) : Calls Try.prog 18 #[.int .i64 x, .slice a len cap, .int .i64 y, .int .i64 z, .int .i64 u] w fun e w' => e = .returned (.bool false) ∧ w = w' := by
  go_enter Try.func18, Try.ntmps18
  go_wp2
  go_ret
  exact ⟨rfl, rfl⟩
end Go.Proofs.Qxb6605451a
