import PyProof.Rows.All
import Wide.All
import OpenK.KSplit
import OpenK.KNot
import OpenK.KApp
import KE.KPop
import KE.KListMore
import KE.RegKMod
import KE.KDictOf
import KE.KDictMeth
import KE.KEqSeq
import KE.KSlice
import KE.GnPush
import KE.KSorted
import KE.KJoinElse
import KE.RegTryLedger
import KE.KTops
import KE.RegKSuper
import KE.KSort
import KE.KDictLoop
import KE.RegLcTurns
import KE.RegLcAnyAll
import KE.KCat
import KE.KTemps
import KE.KTup
import KE.KxMul
import KE.KxSplit
import KE.KxIndex
import KE.KxText
import KE.KCells
import KE.KPassesOwn
import KE.RegKIsNot
import KE.KTempsTwo
import KE.KSetInts
import KE.KSortedL
import KE.KxBytes
import KE.KClos
import KE.KNestStore
import KE.KOwnIter
import KE.KStopIter
import KE.RegKBase
import KE.KDictOne
import KE.RegKMathG
import KE.KDictAny
import KE.RegKCallOwn
import KE.KSliceW
import KE.KxDecode
import KE.RegKMathGB
import KE.KLam
import KE.KDictBranch
import KE.KTree
import KE.KTreeB
import KE.KNestM
import KE.KDflt
import KE.KOwnIterCall
import KE.KSortedM
import KE.KTurns
import KE.KEqText
import KE.KxLen
import KE.RegKMathGC
import KE.KIsClose
import KE.KEqDict
import KE.KDisp
import KE.KDictAnyGet
import KE.KDictObj
import KE.KSetIn
import KE.KRevSl
import KE.KEqDeep
import KE.KAnyBase
import KE.KBoundM
import KE.KWhile
import KE.KRevIter
import KE.KCount
import KE.KTreeR
import KE.KxStill
import KE.KFinally
import KE.KTopLam
import KE.KWithOwn
import KE.KCases
import KE.KOpsOwn
import KE.KDictNew
import KE.KDictList
import KE.KDictIter
import KE.RegKUnpackStar
import KE.KSortAsk
import KE.KWhileD
import KE.KLcTest
import KE.KSumEnd
import KE.KPopAny
import KE.KGrown
import KE.KItemAt
import KE.KTextLit
import KE.KTupDict
import KE.KFmtOwn
import KE.KUnrMore
import KE.KMinKey
import KE.KTurnsDict
import KE.KExtendNil
import KE.KMethU
import KE.BytesMul
import KE.KCompFold
import KE.KDictSum
import KE.KDictName
import KE.KDictSym
import KE.KTurnsAny
import KE.KDictAnyTail
import KE.RegKStar
import KE.RegKParD
import KE.RegKTupTruth
import KE.RegKTupSum
import KE.KCallJoin
import KE.KMethJoin
import KE.KPathRangeEnd
import KE.KStateW
import KE.RegKParC
import KE.KxWritten
import KE.KxAdd
import KE.KxAffix
import KE.KxField
import KE.RegKIsAll
import KE.RegKMatchCls
import KE.KLcPair
import KE.RegKTryDeep
import KE.KJoinL
import KE.RegKNeg
import KE.KxPercentT
import KE.KBytesCut
import KE.KCellOne
import KE.KCompIf
import KE.KMenu
import KE.KxFormat
import KE.KTypeName
import KE.KCompText
import KE.BytesMulAny
import KE.KDictSymLen
import KE.KSortTup
import KE.KPairAssign
import KE.KTypeOf
import KE.KFinEnd
import KE.KMulAny
import KE.KBytesMenu
import KE.KTextDict
import KE.KPathShort
import KE.KSplitRange
import KE.KKinds
import KE.KxPart
import KE.KRangeItem
import KE.KDictLetter
import KE.KRangeNest
import KE.KSetAt
import KE.KWords
import KE.KxTruthy
import KE.KPairRows
import KE.KBytesMore
import KE.RegKStateDown
import KE.KItemsList
import KE.KRangePlain
import KE.KStateGiven
import KE.KBitsMul
import KE.KTextTable
import KE.KForList
import KE.KIdxIf
import KE.KAssignIn
import KE.KFirstTurn
import KE.KOwnRange
import KE.KLooksOwn
import KE.KDictWord
import KE.KStrOpen
import KE.KTurnsGround
import KE.KListEnd
import KE.KSearch
import KE.KFinFacts
import KE.RegKTryOn
import KE.KCenter
import KE.KStrWords
import KE.KStateTextK
import KE.KBools
import KE.KStateWGiven
import KE.KData
import KE.KCallTup
import KE.KTreeD
import KE.KTreeF
import KE.KEndWord
import KE.KStateBytes
import KE.KRangeEnd
import KE.KOf
import KE.KRepItem
import KE.KListLetter
import KE.KSliceSign
import KE.KCallBy
import KE.KToBytes
import KE.KPathText
import KE.KMinBuiltin
import KE.KFromBytes
import KE.KEqDat
import KE.KBytesUnr
import KE.KIsBytes
import KE.KCallRec
import KE.KEndW
import KE.RegLGe
import KE.RegLGeC
import Wide.FinOn
import Wide.FinOn
import PySem.Challenge.RW_sn0051_01
open PySem PySem.W PyProof.Rows
set_option Elab.async false
set_option maxRecDepth 100000
set_option maxHeartbeats 8000000
set_option rowWalk.seconds 0
set_option linter.all false
set_option genSizeOf false
set_option genSizeOfSpec false
set_option genInjectivity false
theorem Mine.said : OpenLaw.wellSaid PySem.Challenge.rw_sn0051_01 = true := by decide +kernel
local macro_rules | `(tactic| o_law) => `(tactic| refine holds_law Mine.said fun said => ?_)
open_top hd for PySem.Challenge.rw_sn0051_01
theorem Mine.walk_off : True := by
  w_top off
  trivial
local macro_rules | `(tactic| walk_at $s:str) => `(tactic| k_extra $s)
local macro_rules | `(tactic| k_ne) => `(tactic| k_extra "k_ne")
local macro_rules | `(tactic| k_all) => `(tactic| k_extra "k_all")
local macro_rules | `(tactic| k_mem) => `(tactic| k_extra "k_mem")
/-! PP -/
namespace Mine
section
theorem pL1 {a0 p q : Prop} (h : a0 ∧ p ∧ q) : p := h.2.1
theorem pL2 {a0 a1 p q : Prop} (h : a0 ∧ a1 ∧ p ∧ q) : p := h.2.2.1
theorem pR2 {a0 a1 p : Prop} (h : a0 ∧ a1 ∧ p) : p := h.2.2
theorem pL3 {a0 a1 a2 p q : Prop} (h : a0 ∧ a1 ∧ a2 ∧ p ∧ q) : p := h.2.2.2.1
theorem pR3 {a0 a1 a2 p : Prop} (h : a0 ∧ a1 ∧ a2 ∧ p) : p := h.2.2.2
theorem pL4 {a0 a1 a2 a3 p q : Prop} (h : a0 ∧ a1 ∧ a2 ∧ a3 ∧ p ∧ q) : p := h.2.2.2.2.1
theorem pR4 {a0 a1 a2 a3 p : Prop} (h : a0 ∧ a1 ∧ a2 ∧ a3 ∧ p) : p := h.2.2.2.2
theorem pL5 {a0 a1 a2 a3 a4 p q : Prop} (h : a0 ∧ a1 ∧ a2 ∧ a3 ∧ a4 ∧ p ∧ q) : p := h.2.2.2.2.2.1
theorem pR5 {a0 a1 a2 a3 a4 p : Prop} (h : a0 ∧ a1 ∧ a2 ∧ a3 ∧ a4 ∧ p) : p := h.2.2.2.2.2
theorem pL6 {a0 a1 a2 a3 a4 a5 p q : Prop} (h : a0 ∧ a1 ∧ a2 ∧ a3 ∧ a4 ∧ a5 ∧ p ∧ q) : p := h.2.2.2.2.2.2.1
theorem pR6 {a0 a1 a2 a3 a4 a5 p : Prop} (h : a0 ∧ a1 ∧ a2 ∧ a3 ∧ a4 ∧ a5 ∧ p) : p := h.2.2.2.2.2.2
theorem pL7 {a0 a1 a2 a3 a4 a5 a6 p q : Prop} (h : a0 ∧ a1 ∧ a2 ∧ a3 ∧ a4 ∧ a5 ∧ a6 ∧ p ∧ q) : p := h.2.2.2.2.2.2.2.1
theorem pR7 {a0 a1 a2 a3 a4 a5 a6 p : Prop} (h : a0 ∧ a1 ∧ a2 ∧ a3 ∧ a4 ∧ a5 ∧ a6 ∧ p) : p := h.2.2.2.2.2.2.2
theorem pL8 {a0 a1 a2 a3 a4 a5 a6 a7 p q : Prop} (h : a0 ∧ a1 ∧ a2 ∧ a3 ∧ a4 ∧ a5 ∧ a6 ∧ a7 ∧ p ∧ q) : p := h.2.2.2.2.2.2.2.2.1
theorem pR8 {a0 a1 a2 a3 a4 a5 a6 a7 p : Prop} (h : a0 ∧ a1 ∧ a2 ∧ a3 ∧ a4 ∧ a5 ∧ a6 ∧ a7 ∧ p) : p := h.2.2.2.2.2.2.2.2
theorem pL9 {a0 a1 a2 a3 a4 a5 a6 a7 a8 p q : Prop} (h : a0 ∧ a1 ∧ a2 ∧ a3 ∧ a4 ∧ a5 ∧ a6 ∧ a7 ∧ a8 ∧ p ∧ q) : p := h.2.2.2.2.2.2.2.2.2.1
theorem pR9 {a0 a1 a2 a3 a4 a5 a6 a7 a8 p : Prop} (h : a0 ∧ a1 ∧ a2 ∧ a3 ∧ a4 ∧ a5 ∧ a6 ∧ a7 ∧ a8 ∧ p) : p := h.2.2.2.2.2.2.2.2.2
theorem pL10 {a0 a1 a2 a3 a4 a5 a6 a7 a8 a9 p q : Prop} (h : a0 ∧ a1 ∧ a2 ∧ a3 ∧ a4 ∧ a5 ∧ a6 ∧ a7 ∧ a8 ∧ a9 ∧ p ∧ q) : p := h.2.2.2.2.2.2.2.2.2.2.1
theorem pR10 {a0 a1 a2 a3 a4 a5 a6 a7 a8 a9 p : Prop} (h : a0 ∧ a1 ∧ a2 ∧ a3 ∧ a4 ∧ a5 ∧ a6 ∧ a7 ∧ a8 ∧ a9 ∧ p) : p := h.2.2.2.2.2.2.2.2.2.2
theorem pL11 {a0 a1 a2 a3 a4 a5 a6 a7 a8 a9 a10 p q : Prop} (h : a0 ∧ a1 ∧ a2 ∧ a3 ∧ a4 ∧ a5 ∧ a6 ∧ a7 ∧ a8 ∧ a9 ∧ a10 ∧ p ∧ q) : p := h.2.2.2.2.2.2.2.2.2.2.2.1
theorem pR11 {a0 a1 a2 a3 a4 a5 a6 a7 a8 a9 a10 p : Prop} (h : a0 ∧ a1 ∧ a2 ∧ a3 ∧ a4 ∧ a5 ∧ a6 ∧ a7 ∧ a8 ∧ a9 ∧ a10 ∧ p) : p := h.2.2.2.2.2.2.2.2.2.2.2
theorem pL12 {a0 a1 a2 a3 a4 a5 a6 a7 a8 a9 a10 a11 p q : Prop} (h : a0 ∧ a1 ∧ a2 ∧ a3 ∧ a4 ∧ a5 ∧ a6 ∧ a7 ∧ a8 ∧ a9 ∧ a10 ∧ a11 ∧ p ∧ q) : p := h.2.2.2.2.2.2.2.2.2.2.2.2.1
theorem pR12 {a0 a1 a2 a3 a4 a5 a6 a7 a8 a9 a10 a11 p : Prop} (h : a0 ∧ a1 ∧ a2 ∧ a3 ∧ a4 ∧ a5 ∧ a6 ∧ a7 ∧ a8 ∧ a9 ∧ a10 ∧ a11 ∧ p) : p := h.2.2.2.2.2.2.2.2.2.2.2.2
theorem pL13 {a0 a1 a2 a3 a4 a5 a6 a7 a8 a9 a10 a11 a12 p q : Prop} (h : a0 ∧ a1 ∧ a2 ∧ a3 ∧ a4 ∧ a5 ∧ a6 ∧ a7 ∧ a8 ∧ a9 ∧ a10 ∧ a11 ∧ a12 ∧ p ∧ q) : p := h.2.2.2.2.2.2.2.2.2.2.2.2.2.1
theorem pR13 {a0 a1 a2 a3 a4 a5 a6 a7 a8 a9 a10 a11 a12 p : Prop} (h : a0 ∧ a1 ∧ a2 ∧ a3 ∧ a4 ∧ a5 ∧ a6 ∧ a7 ∧ a8 ∧ a9 ∧ a10 ∧ a11 ∧ a12 ∧ p) : p := h.2.2.2.2.2.2.2.2.2.2.2.2.2
theorem pL14 {a0 a1 a2 a3 a4 a5 a6 a7 a8 a9 a10 a11 a12 a13 p q : Prop} (h : a0 ∧ a1 ∧ a2 ∧ a3 ∧ a4 ∧ a5 ∧ a6 ∧ a7 ∧ a8 ∧ a9 ∧ a10 ∧ a11 ∧ a12 ∧ a13 ∧ p ∧ q) : p := h.2.2.2.2.2.2.2.2.2.2.2.2.2.2.1
theorem pR14 {a0 a1 a2 a3 a4 a5 a6 a7 a8 a9 a10 a11 a12 a13 p : Prop} (h : a0 ∧ a1 ∧ a2 ∧ a3 ∧ a4 ∧ a5 ∧ a6 ∧ a7 ∧ a8 ∧ a9 ∧ a10 ∧ a11 ∧ a12 ∧ a13 ∧ p) : p := h.2.2.2.2.2.2.2.2.2.2.2.2.2.2
end
end Mine
/-! P1 -/
namespace Mine
section
theorem allNe_lt {d e : Nat} : ∀ {l : List (Addr × Obj)}, AllLt d l → d ≤ e → ∀ p ∈ l, p.1 ≠ e
  | [], _, _, _, hp => nomatch hp
  | q :: r, h, hle, p, hp => by
    rcases List.mem_cons.mp hp with rfl | hp
    · exact Nat.ne_of_lt (Nat.lt_of_lt_of_le h.1 hle)
    · exact allNe_lt h.2 hle p hp

theorem to_add {lo mid : Int} (h0 : 0 ≤ lo) (h1 : lo ≤ mid) : mid.toNat = lo.toNat + (mid - lo).toNat := by
  rw [Nat.add_comm, ← Int.toNat_add (Int.sub_nonneg_of_le h1) h0, Int.sub_add_cancel]
theorem sub_split {lo mid hi : Int} (h1 : lo ≤ mid) (h2 : mid ≤ hi) : (hi - lo).toNat = (mid - lo).toNat + (hi - mid).toNat := by
  rw [Nat.add_comm, ← Int.toNat_add (Int.sub_nonneg_of_le h2) (Int.sub_nonneg_of_le h1), ← Int.add_sub_assoc, Int.sub_add_cancel]
theorem mul_w {lo mid : Int} (W : Nat) (h1 : lo ≤ mid) : ((mid - lo) * (W : Int)).toNat = W * (mid - lo).toNat := by
  have : (mid - lo) = ((mid - lo).toNat : Int) := (Int.toNat_of_nonneg (Int.sub_nonneg_of_le h1)).symm
  generalize (mid - lo).toNat = k at this
  rw [this, ← Int.natCast_mul, Int.toNat_natCast, Nat.mul_comm]
theorem sub_one {lo hi : Int} (e : lo + 1 = hi) : (hi - lo).toNat = 1 := by rw [← e, Int.add_comm, Int.add_sub_cancel]; rfl
theorem to_lt {lo hi : Int} {n : Nat} (h0 : 0 ≤ lo) (e : lo + 1 = hi) (hl : hi ≤ n) : lo.toNat < n := (Int.toNat_lt h0).mpr (Int.lt_of_lt_of_le (Int.lt_succ lo) (e.symm ▸ hl))
theorem xor_low {x : Int} (hx : 0 ≤ x) (s : Nat) : Builtin.bitXor x (x.fdiv (2 ^ s) * 2 ^ s) = x % 2 ^ s := by
  have hp : (0 : Int) < 2 ^ s := Int.pow_pos (by decide)
  rw [bitXor_and, Int.fdiv_eq_ediv_of_nonneg _ (Int.le_of_lt hp)]
  obtain ⟨n, rfl⟩ : ∃ n : Nat, x = n := Int.eq_ofNat_of_zero_le hx
  have e1 : (n : Int) / 2 ^ s * 2 ^ s = ((n / 2 ^ s * 2 ^ s : Nat) : Int) := by simp
  have e2 : Builtin.bitAnd (n : Int) ((n / 2 ^ s * 2 ^ s : Nat) : Int) = ((n / 2 ^ s * 2 ^ s : Nat) : Int) := by
    unfold Builtin.bitAnd
    have h1 : decide (0 ≤ (n : Int)) = true := decide_eq_true (Int.natCast_nonneg _)
    have h2 : decide (0 ≤ ((n / 2 ^ s * 2 ^ s : Nat) : Int)) = true := decide_eq_true (Int.natCast_nonneg _)
    rw [h1, h2]
    show (((n : Int).toNat &&& ((n / 2 ^ s * 2 ^ s : Nat) : Int).toNat : Nat) : Int) = _
    rw [Int.toNat_natCast, Int.toNat_natCast]
    congr 1
    apply Nat.eq_of_testBit_eq
    intro i
    rw [Nat.testBit_and, Nat.testBit_mul_two_pow, Nat.testBit_div_two_pow]
    by_cases hi : s ≤ i
    · simp [hi, Nat.sub_add_cancel hi]
    · simp [hi]
  rw [e1, e2, ← e1]
  have := Int.emod_add_mul_ediv (n : Int) (2 ^ s)
  rw [Int.mul_comm] at this
  exact Int.sub_eq_iff_eq_add.mpr (by rw [Int.two_mul, ← Int.add_assoc, this])
noncomputable def digs (w : Nat) (x : Int) : Nat → List Int
  | 0 => []
  | n + 1 => x % 2 ^ w :: digs w (x / 2 ^ w) n
theorem digs_length (w : Nat) : ∀ (n : Nat) (x : Int), (digs w x n).length = n
  | 0, _ => rfl
  | n + 1, x => by show (digs w (x / 2 ^ w) n).length + 1 = n + 1; rw [digs_length w n]
theorem digs_add (w : Nat) : ∀ (a b : Nat) (x : Int), digs w x (a + b) = digs w (x % 2 ^ (w * a)) a ++ digs w (x / 2 ^ (w * a)) b
  | 0, b, x => by simp [digs]
  | a + 1, b, x => by
    have hp : (0 : Int) < 2 ^ w := Int.pow_pos (by decide)
    have e : a + 1 + b = (a + b) + 1 := Nat.succ_add a b
    rw [e]
    show x % 2 ^ w :: digs w (x / 2 ^ w) (a + b) = (x % 2 ^ (w * (a + 1))) % 2 ^ w :: digs w (x % 2 ^ (w * (a + 1)) / 2 ^ w) a ++ _
    have e2 : (2 : Int) ^ (w * (a + 1)) = 2 ^ w * 2 ^ (w * a) := by rw [← Int.pow_add]; congr 1; rw [Nat.mul_add, Nat.mul_one, Nat.add_comm]
    rw [digs_add w a b]
    have e3 : x % 2 ^ (w * (a + 1)) % 2 ^ w = x % 2 ^ w := by rw [e2]; exact Int.emod_emod_of_dvd _ ⟨_, rfl⟩
    have e4 : x % 2 ^ (w * (a + 1)) / 2 ^ w = x / 2 ^ w % 2 ^ (w * a) := by
      rw [e2]
      have hq : (0 : Int) < 2 ^ (w * a) := Int.pow_pos (by decide)
      generalize (2 : Int) ^ w = p at *
      generalize (2 : Int) ^ (w * a) = q at *
      rw [Int.emod_def, Int.emod_def, ← Int.ediv_ediv_of_nonneg (Int.le_of_lt hp), Int.mul_assoc, Int.sub_eq_add_neg, ← Int.mul_neg, Int.add_mul_ediv_left _ _ (Int.ne_of_gt hp), Int.sub_eq_add_neg]
    have e5 : x / 2 ^ w / 2 ^ (w * a) = x / 2 ^ (w * (a + 1)) := by rw [e2, Int.ediv_ediv_of_nonneg (Int.le_of_lt hp)]
    rw [e3, e4, e5]
    rfl
theorem digs_one {w : Nat} {x : Int} (h0 : 0 ≤ x) (h : x < 2 ^ w) : digs w x 1 = [x] := by
  show [x % 2 ^ w] = [x]
  rw [Int.emod_eq_of_lt h0 h]
noncomputable def dval (w : Nat) : List Int → Int
  | [] => 0
  | d :: r => d + dval w r * 2 ^ w
theorem dval_digs (w : Nat) : ∀ (n : Nat) (x : Int), 0 ≤ x → x < 2 ^ (w * n) → dval w (digs w x n) = x
  | 0, x, h0, h => by
    have : x < 1 := by simpa using h
    show (0 : Int) = x
    lia
  | n + 1, x, h0, h => by
    have hp : (0 : Int) < 2 ^ w := Int.pow_pos (by decide)
    show x % 2 ^ w + dval w (digs w (x / 2 ^ w) n) * 2 ^ w = x
    rw [Nat.mul_add, Nat.mul_one, Int.pow_add] at h
    rw [dval_digs w n _ (Int.ediv_nonneg h0 (Int.le_of_lt hp)) (Int.ediv_lt_of_lt_mul hp h)]
    have := Int.emod_add_mul_ediv x (2 ^ w)
    rw [Int.mul_comm] at this
    exact this
theorem digs_bound (w : Nat) : ∀ (n : Nat) (x : Int), ∀ d ∈ digs w x n, 0 ≤ d ∧ d < 2 ^ w
  | 0, _, _, h => nomatch h
  | n + 1, x, d, h => by
    have hp : (0 : Int) < 2 ^ w := Int.pow_pos (by decide)
    rcases List.mem_cons.mp h with rfl | h
    · exact ⟨Int.emod_nonneg _ (Int.ne_of_gt hp), Int.emod_lt_of_pos _ hp⟩
    · exact digs_bound w n _ d h

/-- ds with new laid from place lo on -/
noncomputable def lay (ds : List Int) (lo : Nat) (new : List Int) : List Int := ds.take lo ++ new ++ ds.drop (lo + new.length)
theorem lay_length {ds : List Int} {lo : Nat} {new : List Int} (h : lo + new.length ≤ ds.length) : (lay ds lo new).length = ds.length := by
  unfold lay
  rw [List.length_append, List.length_append, List.length_take, List.length_drop, Nat.min_eq_left (Nat.le_trans (Nat.le_add_right ..) h)]
  exact Nat.add_sub_of_le h
theorem lay_one {ds : List Int} {lo : Nat} {x : Int} (h : lo < ds.length) : ds.set lo x = lay ds lo [x] := by
  unfold lay
  rw [List.set_eq_take_append_cons_drop, if_pos h]
  simp
theorem lay_two {ds : List Int} {lo : Nat} {xs ys : List Int} (h : lo + xs.length + ys.length ≤ ds.length) : lay (lay ds lo xs) (lo + xs.length) ys = lay ds lo (xs ++ ys) := by
  unfold lay
  have e1 : (ds.take lo ++ xs).length = lo + xs.length := by rw [List.length_append, List.length_take, Nat.min_eq_left (Nat.le_trans (Nat.le_add_right ..) (Nat.le_trans (Nat.le_add_right ..) h))]
  have e2 : (ds.take lo ++ xs ++ ds.drop (lo + xs.length)).take (lo + xs.length) = ds.take lo ++ xs := by rw [← e1, List.take_left]
  have e3 : (ds.take lo ++ xs ++ ds.drop (lo + xs.length)).drop (lo + xs.length + ys.length) = ds.drop (lo + (xs ++ ys).length) := by
    rw [← List.drop_drop]
    have : (ds.take lo ++ xs ++ ds.drop (lo + xs.length)).drop (lo + xs.length) = ds.drop (lo + xs.length) := by
      conv => lhs; arg 1; rw [← e1]
      rw [List.drop_left]
    rw [this, List.drop_drop, List.length_append, Nat.add_assoc]
  rw [e2, e3]
  simp
theorem lay_whole {ds new : List Int} (h : new.length = ds.length) : lay ds 0 new = new := by
  unfold lay
  simp [h]
theorem digs_split {W : Nat} {x lo mid hi : Int} (h0 : 0 ≤ x) (h1 : lo ≤ mid) (h2 : mid ≤ hi) :
    digs W (x % 2 ^ ((mid - lo) * (W : Int)).toNat) (mid - lo).toNat ++ digs W (x.fdiv (2 ^ ((mid - lo) * (W : Int)).toNat)) (hi - mid).toNat = digs W x (hi - lo).toNat := by
  have e1 := mul_w W h1
  have e2 := sub_split h1 h2
  rw [e1, e2, digs_add, Int.fdiv_eq_ediv_of_nonneg _ (Int.le_of_lt (Int.pow_pos (by decide)))]
theorem low_lt {W : Nat} {x lo mid : Int} (h1 : lo ≤ mid) : 0 ≤ x % 2 ^ ((mid - lo) * (W : Int)).toNat ∧ x % 2 ^ ((mid - lo) * (W : Int)).toNat < 2 ^ (W * (mid - lo).toNat) := by
  have e1 := mul_w W h1
  have hp : (0 : Int) < 2 ^ (W * (mid - lo).toNat) := Int.pow_pos (by decide)
  rw [e1]
  exact ⟨Int.emod_nonneg _ (Int.ne_of_gt hp), Int.emod_lt_of_pos _ hp⟩
theorem up_lt {W : Nat} {x lo mid hi : Int} (h0 : 0 ≤ x) (h : x < 2 ^ (W * (hi - lo).toNat)) (h1 : lo ≤ mid) (h2 : mid ≤ hi) : 0 ≤ x.fdiv (2 ^ ((mid - lo) * (W : Int)).toNat) ∧ x.fdiv (2 ^ ((mid - lo) * (W : Int)).toNat) < 2 ^ (W * (hi - mid).toNat) := by
  have e1 := mul_w W h1
  have hp : (0 : Int) < 2 ^ (W * (mid - lo).toNat) := Int.pow_pos (by decide)
  have e2 := (sub_split h1 h2).trans (Nat.add_comm ..)
  rw [e1, Int.fdiv_eq_ediv_of_nonneg _ (Int.le_of_lt hp)]
  rw [e2, Nat.mul_add, Int.pow_add] at h
  exact ⟨Int.ediv_nonneg h0 (Int.le_of_lt hp), Int.ediv_lt_of_lt_mul hp h⟩
theorem bits_pow {x : Int} {k n : Nat} (h0 : 0 ≤ x) (h : x < 2 ^ k) (hk : k ≤ n) : Builtin.Int.intBits x ≤ n := by
  refine intBits_le_iff.mpr ?_
  have e : (2 : Nat) ^ k ≤ 2 ^ n := Nat.pow_le_pow_right (by decide) hk
  have e2 : ((2 ^ k : Nat) : Int) = (2 : Int) ^ k := by simp
  rw [← e2] at h
  lia
theorem mid_imp {lo hi : Int} (h0 : 0 ≤ lo) (h1 : lo < hi) (h2 : lo + 1 ≠ hi) : lo < (lo+hi).fdiv (2 ^ Int.toNat 1) ∧ (lo+hi).fdiv (2 ^ Int.toNat 1) < hi := by
  have e : (2 : Int) ^ Int.toNat 1 = 2 := rfl
  rw [e, Int.fdiv_eq_ediv_of_nonneg _ (by decide)]
  lia
theorem fdiv_bits {x : Int} {k n s : Nat} (h0 : 0 ≤ x) (h : x < 2 ^ k) (hk : k ≤ n) : Builtin.Int.intBits (x.fdiv (2 ^ s)) ≤ n := by
  have hp : (0 : Int) < 2 ^ s := Int.pow_pos (by decide)
  rw [Int.fdiv_eq_ediv_of_nonneg _ (Int.le_of_lt hp)]
  refine bits_pow (Int.ediv_nonneg h0 (Int.le_of_lt hp)) (Int.lt_of_le_of_lt ?_ h) hk
  exact Int.ediv_le_self _ h0
theorem wk_le {W : Nat} {d : Int} (hW : W ≤ 100) (h : d ≤ 64) : W * d.toNat ≤ 6400 := Nat.le_trans (Nat.mul_le_mul hW (Int.toNat_le.mpr h)) (by decide)
theorem lay_base {W : Nat} {ds : List Int} {x lo hi : Int} (h0 : 0 ≤ lo) (e : lo + 1 = hi) (hl : hi ≤ ds.length) (hx : 0 ≤ x) (hx2 : x < 2 ^ (W * (hi - lo).toNat)) : ds.set lo.toNat x = lay ds lo.toNat (digs W x (hi - lo).toNat) := by
  have e1 := sub_one e
  rw [e1, Nat.mul_one] at hx2
  rw [e1, digs_one hx hx2, lay_one (to_lt h0 e hl)]
theorem lay_step {W : Nat} {ds : List Int} {x lo mid hi : Int} (h0 : 0 ≤ lo) (h1 : lo ≤ mid) (h2 : mid ≤ hi) (hl : hi ≤ ds.length) (hx : 0 ≤ x) :
    lay (lay ds lo.toNat (digs W (x % 2 ^ ((mid - lo) * (W : Int)).toNat) (mid - lo).toNat)) mid.toNat (digs W (x.fdiv (2 ^ ((mid - lo) * (W : Int)).toNat)) (hi - mid).toNat) = lay ds lo.toNat (digs W x (hi - lo).toNat) := by
  rw [← digs_split (W := W) hx h1 h2]
  have e : mid.toNat = lo.toNat + (digs W (x % 2 ^ ((mid - lo) * (W : Int)).toNat) (mid - lo).toNat).length := by rw [digs_length]; exact to_add h0 h1
  rw [e]
  exact lay_two (by rw [digs_length, digs_length, ← to_add h0 h1, ← to_add (Int.le_trans h0 h1) h2]; exact Int.toNat_le.mpr hl)
noncomputable def qI : PySem.Str := PySem.Str.ofString "_int2digits.<locals>.inner"
theorem bits_pos {y : Int} (hy : 0 < y) : 0 < Builtin.Int.intBits y := by
  refine Nat.pos_of_ne_zero fun h => ?_
  have := intBits_le_iff.mp (Nat.le_of_eq h)
  simp at this
  lia
theorem bits_lt {y : Int} (hy : 0 ≤ y) : y < 2 ^ Builtin.Int.intBits y := by
  have := intBits_le_iff.mp (Nat.le_refl (Builtin.Int.intBits y))
  have e2 : ((2 ^ Builtin.Int.intBits y : Nat) : Int) = (2 : Int) ^ Builtin.Int.intBits y := by simp
  rw [← e2]
  lia
noncomputable def remFold (W : Nat) (b : Int) (ds : List Int) : Int := ds.foldl (fun r d => (r * 2 ^ W + d).fmod b) 0
theorem remFold_add {W : Nat} {b d : Int} {ds : List Int} : remFold W b (ds ++ [d]) = (remFold W b ds * 2 ^ W + d).fmod b := by
  unfold remFold
  rw [List.foldl_append]
  rfl
theorem remFold_bound {W : Nat} {b : Int} (hb : 0 < b) : ∀ ds : List Int, 0 ≤ remFold W b ds ∧ remFold W b ds < b := by
  intro ds
  cases h : ds.reverse with
  | nil =>
    have : ds = [] := by simpa using h
    subst this
    exact ⟨Int.le_refl _, hb⟩
  | cons d r =>
    have : ds = r.reverse ++ [d] := by
      have := congrArg List.reverse h
      simpa using this
    rw [this, remFold_add]
    exact ⟨Int.fmod_nonneg_of_pos _ hb, Int.fmod_lt_of_pos _ hb⟩
/-- the rest of the whole -/
theorem remFold_val {W : Nat} {b : Int} (hb : 0 < b) : ∀ ds : List Int, remFold W b ds.reverse = (dval W ds) % b
  | [] => by simp [remFold, dval]
  | d :: r => by
    rw [List.reverse_cons, remFold_add, remFold_val hb r, Int.fmod_eq_emod_of_nonneg _ (Int.le_of_lt hb)]
    show _ = (d + dval W r * 2 ^ W) % b
    rw [Int.add_comm d, Int.add_emod, Int.mul_emod, Int.emod_emod, ← Int.mul_emod, ← Int.add_emod]
theorem qr_bounds {y r d : Int} (hr : 0 ≤ r ∧ r < y) (hd : 0 ≤ d ∧ d < 2 ^ Builtin.Int.intBits y) :
    0 ≤ (r * 2 ^ ((Builtin.Int.intBits y : Nat) : Int).toNat + d).fdiv y ∧ (r * 2 ^ ((Builtin.Int.intBits y : Nat) : Int).toNat + d).fdiv y < 2 ^ Builtin.Int.intBits y := by
  have hy : 0 < y := by lia
  rw [Int.toNat_natCast, Int.fdiv_eq_ediv_of_nonneg _ (Int.le_of_lt hy)]
  have hp : (0 : Int) < 2 ^ Builtin.Int.intBits y := Int.pow_pos (by decide)
  generalize (2 : Int) ^ Builtin.Int.intBits y = p at *
  have h1 : 0 ≤ r * p := Int.mul_nonneg hr.1 (Int.le_of_lt hp)
  have h2 : (r + 1) * p ≤ y * p := Int.mul_le_mul_of_nonneg_right (by lia) (Int.le_of_lt hp)
  rw [Int.add_mul, Int.one_mul] at h2
  refine ⟨Int.ediv_nonneg (by lia) (by lia), Int.ediv_lt_of_lt_mul hy ?_⟩
  rw [Int.mul_comm p y]
  lia
theorem np_of_bits {x y : Int} (h : Builtin.Int.intBits y ≤ 100) : Builtin.divisionGoesByPylong x y = false := by
  refine PyProof.noPylong_of_log2 ?_
  have h1 := intBits_le_iff.mp h
  by_cases h0 : y.natAbs = 0
  · rw [h0]; decide +kernel
  · have : y.natAbs.log2 < 100 := (Nat.log2_lt h0).mpr h1
    lia
theorem rd_bits {y r d : Int} (hr : 0 ≤ r ∧ r < y) (hd : 0 ≤ d ∧ d < 2 ^ Builtin.Int.intBits y) (hW : Builtin.Int.intBits y ≤ 100) :
    (Builtin.Int.intBits (r * 2 ^ ((Builtin.Int.intBits y : Nat) : Int).toNat + d) : Int) - ((Builtin.Int.intBits y : Nat) : Int) ≤ 4000 := by
  have hy : 0 < y := by lia
  have hyb := bits_lt (Int.le_of_lt hy)
  have : Builtin.Int.intBits (r * 2 ^ ((Builtin.Int.intBits y : Nat) : Int).toNat + d) ≤ 200 := by
    rw [Int.toNat_natCast]
    have hp : (0 : Int) < 2 ^ Builtin.Int.intBits y := Int.pow_pos (by decide)
    refine bits_pow (k := Builtin.Int.intBits y + Builtin.Int.intBits y) ?_ ?_ (by lia)
    · have h1 : 0 ≤ r * 2 ^ Builtin.Int.intBits y := Int.mul_nonneg hr.1 (Int.le_of_lt hp)
      lia
    · rw [Int.pow_add]
      generalize (2 : Int) ^ Builtin.Int.intBits y = p at *
      have h2 : (r + 1) * p ≤ p * p := Int.mul_le_mul_of_nonneg_right (by lia) (Int.le_of_lt hp)
      rw [Int.add_mul, Int.one_mul] at h2
      lia
  lia
theorem dm_state {y r d : Int} {pre qs : List Int} (hy : 0 < y) (h1 : r = remFold (Builtin.Int.intBits y) y pre) (h2 : qs.length = pre.length) (h3 : ∀ q ∈ qs, 0 ≤ q ∧ q < 2 ^ Builtin.Int.intBits y)
    (hq : 0 ≤ (r * 2 ^ ((Builtin.Int.intBits y : Nat) : Int).toNat + d).fdiv y ∧ (r * 2 ^ ((Builtin.Int.intBits y : Nat) : Int).toNat + d).fdiv y < 2 ^ Builtin.Int.intBits y) :
    (r * 2 ^ ((Builtin.Int.intBits y : Nat) : Int).toNat + d).fmod y = remFold (Builtin.Int.intBits y) y (pre ++ [d]) ∧ (qs ++ [(r * 2 ^ ((Builtin.Int.intBits y : Nat) : Int).toNat + d).fdiv y]).length = (pre ++ [d]).length ∧
      ∀ q ∈ qs ++ [(r * 2 ^ ((Builtin.Int.intBits y : Nat) : Int).toNat + d).fdiv y], 0 ≤ q ∧ q < 2 ^ Builtin.Int.intBits y := by
  refine ⟨?_, by simp [h2], fun q hm => ?_⟩
  · rw [remFold_add, ← h1, Int.toNat_natCast]
  · rcases List.mem_append.mp hm with hm | hm
    · exact h3 q hm
    · rw [List.mem_singleton.mp hm]; exact hq

theorem dval_append (w : Nat) : ∀ xs ys : List Int, dval w (xs ++ ys) = dval w xs + dval w ys * 2 ^ (w * xs.length)
  | [], ys => by simp [dval]
  | d :: r, ys => by
    show d + dval w (r ++ ys) * 2 ^ w = _
    rw [dval_append w r ys]
    show _ = d + dval w r * 2 ^ w + _
    rw [List.length_cons, Nat.mul_add, Nat.mul_one, Int.pow_add, Int.add_mul, Int.mul_assoc, Int.add_assoc]
theorem dval_bound (w : Nat) : ∀ xs : List Int, (∀ d ∈ xs, 0 ≤ d ∧ d < 2 ^ w) → 0 ≤ dval w xs ∧ dval w xs < 2 ^ (w * xs.length)
  | [], _ => by simp [dval]
  | d :: r, h => by
    have h1 := h d (.head _)
    have h2 := dval_bound w r fun x hx => h x (.tail _ hx)
    show 0 ≤ d + dval w r * 2 ^ w ∧ d + dval w r * 2 ^ w < _
    rw [List.length_cons, Nat.mul_add, Nat.mul_one, Int.pow_add]
    have hp : (0 : Int) < 2 ^ w := Int.pow_pos (by decide)
    generalize (2 : Int) ^ w = p at *
    generalize (2 : Int) ^ (w * r.length) = q at *
    generalize dval w r = x at *
    have e1 : 0 ≤ x * p := Int.mul_nonneg h2.1 (Int.le_of_lt hp)
    have e2 : (x + 1) * p ≤ q * p := Int.mul_le_mul_of_nonneg_right (by lia) (Int.le_of_lt hp)
    rw [Int.add_mul, Int.one_mul] at e2
    lia
noncomputable def dseg (w : Nat) (ds : List Int) (lo hi : Int) : Int := dval w ((ds.drop lo.toNat).take (hi - lo).toNat)
theorem dseg_bits {w : Nat} {ds : List Int} (h : ∀ d ∈ ds, 0 ≤ d ∧ d < 2 ^ w) {lo hi : Int} (h0 : 0 ≤ lo) (hK : hi - lo ≤ 64) (hw : w ≤ 100) : Builtin.Int.intBits (dseg w ds lo hi) ≤ 6400 := by
  have b := dval_bound w ((ds.drop lo.toNat).take (hi - lo).toNat) fun d hd => h d (List.mem_of_mem_drop (List.mem_of_mem_take hd))
  refine intBits_le_iff.mpr ?_
  unfold dseg
  have hl : w * ((ds.drop lo.toNat).take (hi - lo).toNat).length ≤ 6400 := by
    have : ((ds.drop lo.toNat).take (hi - lo).toNat).length ≤ 64 := Nat.le_trans (List.length_take_le _ _) (Int.toNat_le.mpr hK)
    exact Nat.le_trans (Nat.mul_le_mul hw this) (by decide)
  have e : (2 : Nat) ^ (w * ((ds.drop lo.toNat).take (hi - lo).toNat).length) ≤ 2 ^ 6400 := Nat.pow_le_pow_right (by decide) hl
  refine Nat.lt_of_lt_of_le ?_ e
  have b2 := b.2
  have : ((2 : Nat) ^ (w * ((ds.drop lo.toNat).take (hi - lo).toNat).length) : Int) = (2 : Int) ^ (w * ((ds.drop lo.toNat).take (hi - lo).toNat).length) := by simp
  rw [← this] at b2
  have b1 := b.1
  lia
theorem dseg_one {w : Nat} {ds : List Int} {lo hi : Int} (h0 : 0 ≤ lo) (e : lo + 1 = hi) (hl : hi ≤ ds.length) : ds.getD lo.toNat 0 = dseg w ds lo hi := by
  have e1 := sub_one e
  have hlt := to_lt h0 e hl
  unfold dseg
  rw [e1, List.drop_eq_getElem_cons hlt]
  show ds.getD lo.toNat 0 = ds[lo.toNat] + dval w (List.take 0 _) * 2 ^ w
  simp [dval, List.getD_eq_getElem?_getD, hlt]
theorem dseg_two {w : Nat} {ds : List Int} {lo mid hi : Int} (h0 : 0 ≤ lo) (h1 : lo ≤ mid) (h2 : mid ≤ hi) (hl : hi ≤ ds.length) :
    dseg w ds mid hi * 2 ^ ((mid - lo) * (w : Int)).toNat + dseg w ds lo mid = dseg w ds lo hi := by
  have e1 := mul_w w h1
  have e2 : (ds.drop lo.toNat).take (hi - lo).toNat = (ds.drop lo.toNat).take (mid - lo).toNat ++ (ds.drop mid.toNat).take (hi - mid).toNat := by
    rw [sub_split h1 h2, List.take_add, List.drop_drop, ← to_add h0 h1]
  have e3 : ((ds.drop lo.toNat).take (mid - lo).toNat).length = (mid - lo).toNat := by
    rw [List.length_take, List.length_drop]
    refine Nat.min_eq_left (Nat.le_sub_of_add_le ?_)
    rw [Nat.add_comm, ← to_add h0 h1]
    exact Int.toNat_le.mpr (Int.le_trans h2 hl)
  unfold dseg
  rw [e2, dval_append, e3, e1, Int.add_comm]
theorem mid_lt {lo hi : Int} (h0 : 0 ≤ lo) (h1 : lo < hi) (h2 : lo + 1 ≠ hi) : lo < (lo+hi).fdiv (2 ^ Int.toNat 1) ∧ (lo+hi).fdiv (2 ^ Int.toNat 1) < hi := mid_imp h0 h1 h2
theorem shift_ok {d : Int} {W : Nat} (h0 : 0 ≤ d) (h1 : d ≤ 64) (hW : W ≤ 100) : 0 ≤ d * (W : Int) ∧ d * (W : Int) ≤ 6400 :=
  ⟨Int.mul_nonneg h0 (by lia), Int.le_trans (Int.mul_le_mul h1 (by lia : (W : Int) ≤ 100) (by lia) (by lia)) (by decide)⟩
/-- what the middle of a stretch keeps -/
structure Half (lo hi mid N : Int) (K : Nat) : Prop where
  a0 : 0 ≤ mid
  a1 : lo < mid
  a2 : mid < hi
  a3 : mid ≤ N
  a4 : mid - lo ≤ K
  a5 : hi - mid ≤ K
  a6 : 0 ≤ mid - lo
  a7 : mid - lo ≤ 64
theorem half_ok {lo hi mid N : Int} {K : Nat} (h0 : 0 ≤ lo) (hN : hi ≤ N) (hK : hi - lo ≤ ((K + 1 : Nat) : Int)) (h64 : N ≤ 64) (hm : lo < mid ∧ mid < hi) : Half lo hi mid N K := by
  obtain ⟨h1, h2⟩ := hm
  exact ⟨by lia, h1, h2, by lia, by lia, by lia, by lia, by lia⟩
theorem room_k {dp K : Nat} (h : dp + (K + 1) + 1 < recursionLimit) : dp + 1 + K + 1 < recursionLimit := by rw [Nat.add_right_comm dp 1 K]; exact h
theorem unit_k {un K : Nat} (h : un + 8 * (K + 1) + 8 < cLine) : un + 3 + 8 * K + 8 < cLine := by lia
theorem room_64 {dp : Nat} (h : dp + 70 < recursionLimit) : dp + 1 + 64 + 1 < recursionLimit := by lia
theorem unit_64 {un : Nat} (h : un + 600 < cLine) : un + 3 + 8 * 64 + 8 < cLine := by lia
theorem half_len {lo hi mid N : Int} {K n : Nat} (h0 : 0 ≤ lo) (H : Half lo hi mid N K) (hn : (n : Int) = N) : lo.toNat + (mid - lo).toNat ≤ n := by
  rw [← to_add h0 (Int.le_of_lt H.a1)]
  exact Int.toNat_le.mpr (hn ▸ H.a3)
theorem sub_64 {lo hi N : Int} (h0 : 0 ≤ lo) (hN : hi ≤ N) (h64 : N ≤ 64) : hi - lo ≤ 64 := Int.le_trans (Int.sub_le_self hi h0) (Int.le_trans hN h64)
theorem shl_fit {a : Nat} {b : Int} (h1 : a ≤ 6400) (h2 : b ≤ 6400) : (a : Int) + b ≤ 2 ^ 27 := by lia
noncomputable def qD : PySem.Str := PySem.Str.ofString "_digits2int.<locals>.inner"
theorem dseg_all {w : Nat} {ds : List Int} : dseg w ds 0 ds.length = dval w ds := by
  unfold dseg
  simp
theorem dval_none {w : Nat} {ds : List Int} (h : ¬ 0 < ds.length) : dval w ds = 0 := by
  cases ds with
  | nil => rfl
  | cons d r => simp at h

end
end Mine
/-! P12 -/
namespace Mine
section

section
open PyProof.V PySem.Spec PySem.Calls
variable {prog : Program} {w : World} {A : Around} {E : Value → Shared → Prop} {s : Shared} {env : Env} {h₀ : Heap} {x : PySem.Str} {body : List Stmt} {Q : Flow → Shared → Prop}
theorem enum_rest {σ : Type} {elts : List PySem.Expr} {k : Nat} {pos : Pos} {I : Addr} {ns : List Int} {m₀ : PySem.Str → Option Value} {keep : List (Addr × Obj)} (Led : σ → List (Addr × Obj)) (ps : σ → List (PySem.Str × Value)) (Facts : σ → Prop) (stored : List PySem.Str) (P : List Int → σ → Prop) (adr : List Addr)
    (hx : stored.contains x = true) (hadr : ∀ a ∈ adr, a < I) (hkeep : ∀ c : σ, SubL keep (Led c)) (hled : ∀ c : σ, (Led c).map (·.1) = adr)
    (turn : ∀ (c : σ) pre post n t t' T (u : PySem.Str → Option Value) h tk own, ns = pre ++ n :: post → n ∈ ns → OwnOff own adr → Facts c → P pre c → IsTup h T #[.int ((pre.length : Nat) : Int) t', .int n t] →
      Fr h₀ env.locals h (kstB (fun z => if stored.contains z then u z else m₀ z) (ps c)) → News h₀ env.locals h (Led c ++ own) →
      wpAny (model prog w) A (assign (.Tuple elts k pos) env (.ref T)) (fun _ s₂ => wpAny (model prog w) A (execs body env) (InvPostN h₀ env.locals (KstS Led ps Facts x stored m₀ P (pre ++ [n])) own adr { s with heap := h, toks := tk } Q) E s₂) E { s with heap := h, toks := tk })
    (done : ∀ (c : σ) (u : PySem.Str → Option Value) h tk, Facts c → P ns c → Fr h₀ env.locals h (kstB (fun z => if stored.contains z then u z else m₀ z) (ps c)) → News h₀ env.locals h (Led c) → Q .next { s with heap := h, toks := tk }) :
    ∀ (vs : List Value) (pre post : List Int), ns = pre ++ post → IntsAre vs post → ∀ m nx, KstS Led ps Facts x stored m₀ P pre m nx →
      ItemsRest prog w A E h₀ env (.Tuple elts k pos) body Q s [(I + 1, "enumerate"), (I, "list_iterator")] keep (enumItems pre.length vs) m nx := by
  have hfr : ∀ {h : Heap} {m₁ : PySem.Str → Option Value} {c : σ}, (∀ p ∈ ps c, m₁ p.1 = some p.2) → (∀ z, z ≠ x → (∀ p ∈ ps c, z ≠ p.1) → stored.contains z = false → m₁ z = m₀ z) → Fr h₀ env.locals h m₁ →
      Fr h₀ env.locals h (kstB (fun z => if stored.contains z then m₁ z else m₀ z) (ps c)) := fun h1 h2 F => ksw_fr h1 (fun z a b => h2 z (fun e => by rw [e, hx] at b; cases b) a b) F
  intro vs
  induction vs with
  | nil =>
    intro pre post e hi m nx hS
    cases hi
    obtain ⟨c, rfl, hf, h1, h2, hp⟩ := hS
    rw [List.append_nil] at e
    rw [← e] at hp
    refine ItemsRest.zero fun h tk F N => ?_
    exact done c m h tk hf hp (hfr h1 h2 F) N
  | cons v r ih =>
    intro pre post e hi m nx hS
    cases hi with
    | @cons n t _ post' hr =>
    obtain ⟨c, rfl, hf, h1, h2, hp⟩ := hS
    show ItemsRest prog w A E h₀ env (.Tuple elts k pos) body Q s [(I + 1, "enumerate"), (I, "list_iterator")] keep (.pair (fun t => .int (pre.length : Int) t) (.int n t) :: enumItems (pre.length + 1) r) m (Led c)
    refine ItemsRest.pair fun T t' h tk hT F => ?_
    intro o1 hc1 o2 hc2 N
    have hown : OwnOff [(I + 1, o1), (I, o2)] adr := by
      intro p hp b hb
      have := hadr b hb
      rcases List.mem_cons.mp hp with rfl | hp
      · exact fun e => by subst e; exact absurd this (Nat.not_lt.mpr (Nat.le_succ _))
      · rw [List.mem_singleton.mp hp]
        exact fun e => by subst e; exact absurd this (Nat.lt_irrefl _)
    have q := turn c pre post' n t t' T m h tk [(I + 1, o1), (I, o2)] e (by rw [e]; simp) hown hf hp hT (hfr h1 h2 F) (fun p hp => N p (by
      rcases List.mem_append.mp hp with hp | hp
      · exact List.mem_append_right _ hp
      · exact List.mem_append_left _ hp))
    refine wpAny_mono q (fun _ s₂ q2 => wpAny_mono q2 (fun f s₃ q3 => ?_) fun _ _ e => e) fun _ _ e => e
    have fin : InvEndN h₀ env.locals (KstS Led ps Facts x stored m₀ P (pre ++ [n])) [(I + 1, o1), (I, o2)] adr { s with heap := h, toks := tk } s₃ →
        UnrEndW h₀ env.locals { s with heap := h, toks := tk } [(I + 1, o1), (I, o2)] (fun m' n' => SubL keep n' ∧ ItemsRest prog w A E h₀ env (.Tuple elts k pos) body Q s [(I + 1, "enumerate"), (I, "list_iterator")] keep (enumItems (pre.length + 1) r) m' n') s₃ := by
      rintro ⟨h', tk', m', news', nx', rfl, F', N', hn', ho', ha, hS⟩
      refine ⟨h', tk', m', nx', rfl, F', ?_, ?_, ?_, ?_⟩
      · intro p hp
        rcases List.mem_append.mp hp with hp | hp
        · exact N' p (ho' p hp)
        · exact N' p (hn' p hp)
      · intro p hp q hq e
        have : p.1 ∈ adr := by rw [← ha]; exact List.mem_map.mpr ⟨p, hp, rfl⟩
        exact hown q hq p.1 this e.symm
      · obtain ⟨c', rfl, _⟩ := hS
        exact hkeep c'
      · have z := ih (pre ++ [n]) post' (by rw [e]; simp) hr m' nx' hS
        rw [List.length_append] at z
        exact z
    cases f with
    | ret v => exact q3
    | brk => exact q3
    | next => exact fin q3
    | cont => exact fin q3
/-- a loop over enumerate(list of ints) -/
theorem kst_enum {σ : Type} {elts : List PySem.Expr} {k : Nat} {pos : Pos} {l : Addr} {vs : List Value} {ns : List Int} {nn : Nat} {m₀ : PySem.Str → Option Value} (Led : σ → List (Addr × Obj)) (ps : σ → List (PySem.Str × Value)) (Facts : σ → Prop) (stored : List PySem.Str) (P : List Int → σ → Prop) (c₀ : σ)
    (hx : stored.contains x = true) (hh : A.handled = none) (hl : ∀ c : σ, (l, listOf vs.toArray nn) ∈ Led c) (hled : ∀ c : σ, (Led c).map (·.1) = (Led c₀).map (·.1)) (hi : IntsAre vs ns) (F : Fr h₀ env.locals s.heap m₀) (N : News h₀ env.locals s.heap (Led c₀)) (hf : Facts c₀) (hk : ∀ p ∈ ps c₀, m₀ p.1 = some p.2) (hp : P [] c₀)
    (turn : ∀ (c : σ) pre post n t t' T (u : PySem.Str → Option Value) h tk own, ns = pre ++ n :: post → n ∈ ns → OwnOff own ((Led c₀).map (·.1)) → Facts c → P pre c → IsTup h T #[.int ((pre.length : Nat) : Int) t', .int n t] →
      Fr h₀ env.locals h (kstB (fun z => if stored.contains z then u z else m₀ z) (ps c)) → News h₀ env.locals h (Led c ++ own) →
      wpAny (model prog w) A (assign (.Tuple elts k pos) env (.ref T)) (fun _ s₂ => wpAny (model prog w) A (execs body env) (InvPostN h₀ env.locals (KstS Led ps Facts x stored m₀ P (pre ++ [n])) own ((Led c₀).map (·.1)) { s with heap := h, toks := tk } Q) E s₂) E { s with heap := h, toks := tk })
    (done : ∀ (c : σ) (u : PySem.Str → Option Value) h tk, Facts c → P ns c → Fr h₀ env.locals h (kstB (fun z => if stored.contains z then u z else m₀ z) (ps c)) → News h₀ env.locals h (Led c) → Q .next { s with heap := h, toks := tk }) :
    wpAny (model prog w) A (call (.type "enumerate") [.ref l]) (fun xv s₁ => wpAny (model prog w) A (pyIter xv) (fun it s₂ => TurnsAt prog w A h₀ env (.Tuple elts k pos) body Q E it s₂) E s₁) E s := by
  refine ktu_enum (lo := listOf vs.toArray nn) (vs := vs) (xs := enumItems 0 vs) hh F N (hl c₀) rfl rfl rfl fun I hI => ?_
  refine enum_rest (keep := [(l, listOf vs.toArray nn)]) Led ps Facts stored P ((Led c₀).map (·.1)) hx ?_ (fun c => ⟨hl c, trivial⟩) hled turn done vs [] ns rfl hi m₀ (Led c₀) ⟨c₀, rfl, hf, hk, fun _ _ _ _ => rfl, hp⟩
  intro a ha
  obtain ⟨p, hp', rfl⟩ := List.mem_map.mp ha
  exact hI p hp'
end

end
end Mine
/-! X_hea -/
namespace Mine
section
section
open PySem.Calls
theorem ki_setL_some : ∀ (us : List Value) (k : Nat) (v : Value), k < us.length → ki_setL us k v = some (us.set k v)
  | [], k, v, h => absurd h (Nat.not_lt_zero _)
  | _ :: r, 0, v, _ => rfl
  | x :: r, k + 1, v, h => by
    have q := ki_setL_some r k v (Nat.lt_of_succ_lt_succ h)
    unfold ki_setL
    rw [q]
    rfl
theorem ints_set {x : Int} {u : Tok} {us : List Value} {hs : List Int} (h : IntsAre us hs) : ∀ k : Nat, IntsAre (us.set k (.int x u)) (hs.set k x) := by
  induction h with
  | nil => intro k; exact .nil
  | cons n t h ih =>
    intro k
    cases k with
    | zero => exact .cons x u h
    | succ k => exact .cons n t (ih k)
variable {prog : Program} {w : World} {A : Around} {E : Value → Shared → Prop} {s : Shared} {h₀ : Heap} {L D : Addr} {m : PySem.Str → Option Value} {news news' : List (Addr × Obj)}
theorem kx_setInts {us : List Value} {hs : List Int} {nu : Nat} {k x : Int} {t u : Tok} {Q : Unit → Shared → Prop} (F : Fr h₀ L s.heap m) (N : News h₀ L s.heap news) (hi : IntsAre us hs) (h0 : 0 ≤ k ∧ k < 4) (h4 : hs.length = 4)
    (U : Upd D (listOf us.toArray nu) (listOf (us.set k.toNat (.int x u)).toArray nu) news news')
    (h : ∀ h', Fr h₀ L h' m → News h₀ L h' news' → IntsAre (us.set k.toNat (.int x u)) (hs.set k.toNat x) → Q () { s with heap := h' }) : wpAny (model prog w) A (setItem (.ref D) (.int k t) (.int x u)) Q E s := by
  have hl : us.length = 4 := by rw [hi.length]; exact h4
  exact ki_set (its := us.toArray) F N h0.1 (by lia) (ki_setL_some us k.toNat (.int x u) (by lia)) U fun h' F' N' => h h' F' N' (ints_set hi k.toNat)
theorem getD_bd {l : List Int} {B : Int} (k : Nat) (hB : 0 ≤ B) (h : ∀ z ∈ l, 0 ≤ z ∧ z ≤ B) : 0 ≤ l.getD k 0 ∧ l.getD k 0 ≤ B := by
  rw [List.getD_eq_getElem?_getD]
  cases e : l[k]? with
  | none => exact ⟨Int.le_refl _, hB⟩
  | some z => exact h z (List.mem_of_getElem? e)
theorem hea_state {hs pre : List Int} {n : Int} {k : Nat} (h4 : hs.length = 4) (hb : ∀ z ∈ hs, 0 ≤ z ∧ z ≤ 1357 + 1000000 * (pre.length : Int)) :
    (hs.set k (hs.getD k 0 + n.fmod (10 ^ Int.toNat 6))).length = 4 ∧ ∀ z ∈ hs.set k (hs.getD k 0 + n.fmod (10 ^ Int.toNat 6)), 0 ≤ z ∧ z ≤ 1357 + 1000000 * ((pre ++ [n]).length : Int) := by
  have e : ((pre ++ [n]).length : Int) = (pre.length : Int) + 1 := by simp
  have h1 : 0 ≤ n.fmod (10 ^ Int.toNat 6) ∧ n.fmod (10 ^ Int.toNat 6) < 1000000 := ⟨Int.fmod_nonneg_of_pos _ (by decide), Int.fmod_lt_of_pos _ (by decide)⟩
  have h2 := getD_bd k (by lia) hb
  refine ⟨by rw [List.length_set]; exact h4, fun z hz => ?_⟩
  rw [e]
  rcases List.mem_or_eq_of_mem_set hz with hz | rfl
  · have := hb z hz
    lia
  · lia
theorem fm4 {a : Int} {l : List Int} (h : l.length = 4) : 0 ≤ a.fmod (l.length : Int) ∧ a.fmod (l.length : Int) < 4 := by
  rw [h]
  exact ⟨Int.fmod_nonneg_of_pos _ (by decide), Int.fmod_lt_of_pos _ (by decide)⟩
end
theorem hea_ok {w : World} {loose : List PySem.Str} {mean : ExcName → Option Value} {mg mb : PySem.Str → Option Value}
    {dp un : Nat} {gd : Option (List Code)} {cn : PySem.Str} {cs : Scope} {a : Addr} {ccd : Value} {cl : List (PySem.Str × Addr)} {outer : List Env} {A₀ : Around} {base h₀ : Heap} {L : Addr} {m : PySem.Str → Option Value} {s : Shared} {Q E : Value → Shared → Prop} {news : List (Addr × Obj)}
    (B : Below A₀ base outer h₀) (F : Fr h₀ L s.heap m) (X : (hd.heap_1 w.params).In h₀) (N : News h₀ L s.heap news) (T : Top topProg loose mean mg mb h₀) (hk : cs.kind = .function)
    {sc : Addr} {vs : List Value} {ns : List Int} (hl : base.IsList sc vs.toArray) (hi : IntsAre vs ns) (hlen : ns.length ≤ 63) {D : Addr} {us : List Value} {hs : List Int} {nu : Nat} (hI : IntsAre us hs) (h4 : hs.length = 4) (hb : ∀ x ∈ hs, 0 ≤ x ∧ x ≤ 1357) (N0 : News h₀ L s.heap ((D, W.listOf us.toArray nu) :: news)) (hD : AllLt D news) 
    (hd1 : dp + 2 < recursionLimit) (hu : un + 64 < cLine)
    (hret : ∀ us1 hs1 nu1 h1 tk1, IntsAre us1 hs1 → hs1.length = 4 → (∀ x ∈ hs1, 0 ≤ x ∧ x ≤ 30000000) → Fr h₀ L h1 m → News h₀ L h1 ((D, W.listOf us1.toArray nu1) :: news) → Q (.ref D) { s with heap := h1, toks := tk1 }) :
    wpAny (model Challenge.rw_sn0051_01.row.prog w) (ktrTop dp un gd cn cs L a ccd cl outer) (call (.ref 126) [.ref sc, .ref D]) Q E s := by
  revert X
  k_fill
  intro X
  refine wpAny_call ?_
  k_with_none
  k_with "k_all" => first | assumption | (refine allNe_lt (by assumption) ?_; lia) | (exact List.forall_mem_append.mpr ⟨by k_all, by k_all⟩)
  k_with "setItem ref int" => (k_here; (with_reducible show wpAny _ _ (PySem.setItem (Value.ref _) (Value.int _ _) (Value.int _ _)) _ _ _); k_dflt (refine' kx_setInts ?x1qF ?x1qN ?x1qi ?x1qz ?x1qq ?x1qU ?_; (case x1qF => k_asm); (case x1qN => k_asm); (case x1qi => with_reducible assumption); (case x1qz => exact fm4 (by with_reducible assumption)); (case x1qq => with_reducible assumption); (case x1qU => k_upd)); intro h' F' N' hI'; (try dsimp only [List.nil_append, List.cons_append] at N'); (try k_sweep))
  k_with "exec For Tuple Call cons nil" => (k_here; (rename Fr _ _ _ _ => lF'); (with_unfolding_all refine' For_turns lF' ?_; k_whole))
  k_with "call type:enumerate" => k_extra "enum"
  k_with "state" => exact hea_state (by assumption) (by assumption)
  k_with "enum" => (rename_i D1 ws1 h1 lF' lN' hIt _ _ _; with_unfolding_all refine' kst_enum (x := PySem.Str.ofString "x") (fun c : List Value × List Int × Nat => (D, W.listOf c.1.toArray c.2.2) :: (D1, W.listOf ws1.toArray 0) :: news) (fun _ => []) (fun c => IntsAre c.1 c.2.1) [PySem.Str.ofString "place", PySem.Str.ofString "x"] (fun pre c => c.2.1.length = 4 ∧ ∀ z ∈ c.2.1, 0 ≤ z ∧ z ≤ 1357 + 1000000 * pre.length) (us, hs, nu) ?x ?hh ?hl ?hled hIt lF' ?N hI (fun _ h => nomatch h) ⟨h4, fun z hz => ⟨(hb z hz).1, by have := (hb z hz).2; simp only [List.length_nil]; lia⟩⟩ ?turn ?done; (case x => decide); (case hh => exact rfl); (case hl => exact fun _ => .tail _ (.head _)); (case hled => exact fun _ => rfl); (case N => exact kst_newsOf lN' (by kst_inAny)); (all_goals (clear lF' lN')); (all_goals (dsimp only)); (all_goals (first | (rintro ⟨us9, hs9, nu9⟩ pre9 post9 n9 t9 t9' T9 u9 h9 tk9 own9 he9 hn9 ho9 hf9 ⟨hp4, hpb⟩ hT9 F9 N9) | (rintro ⟨us9, hs9, nu9⟩ u9 h9 tk9 hf9 ⟨hp4, hpb⟩ F9 N9))); (all_goals (try dsimp only at hf9)); (all_goals (try dsimp only at hp4)); (all_goals (try dsimp only at hpb)); (all_goals (try dsimp only at F9)); (all_goals (try dsimp only at N9)); (all_goals (try simp only [List.map_cons] at ho9)))
  first
  | (k_dflt cell_enter)
  | (k_dflt (refine' code_def ?k1 ?k2 ?k3 ?k4 ?k5 ?kA ?kF ?kK ?k6 ?k7 ?k8 ?k9 ?kB ?_ ?c2 ?c3 ?c4 ?c5; (case kA => exact rfl); (case kF => exact rfl); (case kK => assumption); (case k1 => k_asm); (case k2 => k_asm); (case k3 => k_asm); (case k4 => k_asm); (case k5 => k_asm); (case k6 => k_is); (case k7 => k_is); (case k8 => ktr_room); (case k9 => first | exact BindsTo.of_eq rfl | exact binds_K (by k_in) rfl (by k_is) rfl rfl rfl); (case c5 => decide); (case kB => exact locs rfl); (case c2 => exact rfl); (case c3 => exact rfl); (case c4 => exact rfl); k_whole; intro g' L' h' FG' F' N' B' X' T'; (try dsimp only); (try k_lift B'); (try k_fold)))
  | (k_dflt (refine' code_defC ?k1 ?k2 ?k3 ?k4 ?k5 ?kA ?kF ?kK ?k6 ?k7 ?k8 ?k9 ?kB ?kD ?_ ?c2 ?c3 ?c4; (case kA => exact rfl); (case kF => exact rfl); (case kK => assumption); (case k1 => k_asm); (case k2 => k_asm); (case k3 => k_asm); (case k4 => k_asm); (case k5 => k_asm); (case k6 => k_is); (case k7 => k_is); (case k8 => ktr_room); (case k9 => first | exact BindsTo.of_eq rfl | exact binds_K (by k_in) rfl (by k_is) rfl rfl rfl); (case kB => exact rfl); (case kD => decide); (case c2 => exact rfl); (case c3 => exact rfl); (case c4 => exact rfl); k_whole; intro g' L' h' tk' cells' FG' F' N' Y' B' X' T' l'; (try dsimp only); (try k_cells Y'); (try simp only [List.nil_append, List.cons_append] at N'); (try k_lt l'); (try k_lift B'); (try k_fold)))
  k_steps
  · rename News _ _ _ _ => kN
    rename IntsAre _ _ => hJ
    refine' kst_end (⟨_, _, nu9⟩ : List Value × List Int × Nat) (by assumption) kN ?a ?b ?c hJ ?e ?f ?g
    · kst_in
    · first | (intro p hp; kst_mem) | kst_anyIn
    · rfl
    · kst_all
    · intro z z1 _ z3
      have z2 : z ≠ PySem.Str.ofString "place" := by
        intro e
        rw [e] at z3
        exact absurd z3 (by decide)
      simp only [if_neg z1, if_neg z2]
      exact if_neg (by rw [z3]; decide)
    · exact hea_state hp4 hpb
  · rename News _ _ _ _ => kN
    refine hret us9 hs9 nu9 _ _ hf9 hp4 (fun z hz => ⟨(hpb z hz).1, ?_⟩) (by k_asm) (kst_newsOf kN (by kst_inAny))
    have h7 := (hpb z hz).2
    have h8 := List.length_take_le 20 ns
    lia

end
end Mine
/-! P13 -/
namespace Mine
section

section
open PyProof.V PySem.Spec PySem.Calls
variable {prog : Program} {w : World} {A : Around} {E : Value → Shared → Prop} {s : Shared} {env : Env} {h₀ : Heap} {body : List Stmt} {Q : Flow → Shared → Prop}
theorem letGo_name {x : PySem.Str} {pos : Pos} {I : Addr} {v : Value} {Q' : Unit → Shared → Prop} {s' : Shared} {k : Nat} (h : Q' () s') :
    wpAny (model prog w) A (letOwnedTupleGo (.Name x pos) (.ref I) v) Q' E s' := by
  unfold letOwnedTupleGo
  exact wpAny_pure h
noncomputable def tokItems (a : Int) (i : Nat) : Nat → List Itm
  | 0 => []
  | n + 1 => .tok (fun t => .int (a + (i : Int)) t) :: tokItems a (i + 1) n
theorem tokItems_length (a : Int) : ∀ (n i : Nat), (tokItems a i n).length = n
  | 0, _ => rfl
  | n + 1, i => congrArg (· + 1) (tokItems_length a n (i + 1))
theorem tokItems_get (a : Int) : ∀ (n i j : Nat), j < n → (tokItems a i n)[j]? = some (.tok (fun t => .int (a + ((i + j : Nat) : Int)) t))
  | 0, _, _, h => absurd h (Nat.not_lt_zero _)
  | n + 1, i, 0, _ => rfl
  | n + 1, i, j + 1, h => by
    have q := tokItems_get a n (i + 1) j (Nat.lt_of_succ_lt_succ h)
    rw [show i + 1 + j = i + (j + 1) by lia] at q
    exact q
theorem iter_rangeTurns {x : PySem.Str} {pos : Pos} {r : Addr} {a₀ b₀ : Int} {t₀ u₀ v₀ : Tok} {n : Nat} {m₀ : PySem.Str → Option Value} {news : List (Addr × Obj)}
    (hh : A.handled = none) (hr : IsRange s.heap r a₀ b₀ 1 t₀ u₀ v₀) (hsmall : Builtin.Range.small a₀ b₀ 1 = true) (hn : Builtin.Range.rangeSize a₀ b₀ 1 = (n : Int)) (F : Fr h₀ env.locals s.heap m₀) (N : News h₀ env.locals s.heap news)
    (rest₀ : ∀ I : Addr, (∀ p ∈ news, p.1 < I) → ItemsRest prog w A E h₀ env (.Name x pos) body Q s [(I, "range_iterator")] [] (tokItems a₀ 0 n) m₀ news) :
    wpAny (model prog w) A (pyIter (.ref r)) (fun it s₂ => TurnsAt prog w A h₀ env (.Name x pos) body Q E it s₂) E s := by
  refine wpAny_pyIter_range hr hsmall ?_
  have rest := rest₀ s.heap.objs.size fun p hp => Heap.lt_size (N p hp).1
  have W : Walks prog w A s.heap.objs.size [s.heap.objs.size] [s.heap.objs.size] n (fun i v => i < n ∧ ∃ t, v = .int (a₀ + i * 1) t)
      (fun i h => IsRangeIter h s.heap.objs.size (a₀ + (i : Nat) * 1) ((n : Int) - (i : Nat)) 1) := (Walks.range hh _ a₀ 1 n).bound
  refine ktu_core (tk0 := s.toks) (keep := []) (KTurns.ofWalks W fun i v s Q E st q => letGo_name (k := 0) q) (tokItems_length a₀ n 0).symm (fun i v h hp => ?_) (fun i h st => ?_) (fun b hb => ?_) (fun b hb => by simpa using hb) (fun b hb => .inl (by simpa using hb)) ?_ (fun p hp hI => ?_) ?_ (F.push _) (fun p hp => ⟨Heap.get?_push_of_some _ (N p hp).1, (N p hp).2⟩) trivial rest
  · obtain ⟨hi, t, rfl⟩ := hp
    refine ⟨_, tokItems_get a₀ n 0 i hi, t, ?_⟩
    show Value.int _ _ = Value.int _ _
    rw [Int.mul_one, Nat.zero_add]
  · exact ⟨[(s.heap.objs.size, _)], ⟨⟨rfl, rfl⟩, trivial⟩, fun p hp => by rw [List.mem_singleton.mp hp]; exact st⟩
  · have hb' : b = s.heap.objs.size := by simpa using hb
    rw [hb']
    exact ⟨List.mem_cons_self .., next_is_new F⟩
  · intro hI
    exact absurd F.ns.lt ((List.mem_singleton.mp hI) ▸ Nat.lt_irrefl _)
  · exact absurd (Heap.lt_size (N p hp).1) ((List.mem_singleton.mp hI) ▸ Nat.lt_irrefl _)
  · show IsRangeIter _ _ _ _ _
    rw [hn]
    simpa using Heap.get?_push_size _ rfl
/-- the state of a loop over a range whose turn makes new objects -/
noncomputable def RngS {σ : Type} (Led : σ → List (Addr × Obj)) (stored : List PySem.Str) (m₀ : PySem.Str → Option Value) (P : Nat → σ → Prop) (i : Nat) (m : PySem.Str → Option Value) (nx : List (Addr × Obj)) : Prop :=
  ∃ c : σ, nx = Led c ∧ (∀ z, stored.contains z = false → m z = m₀ z) ∧ P i c
theorem rng_fr {L : Addr} {h : Heap} {stored : List PySem.Str} {m₀ m₁ : PySem.Str → Option Value} (h2 : ∀ z, stored.contains z = false → m₁ z = m₀ z) (F : Fr h₀ L h m₁) : Fr h₀ L h (fun z => if stored.contains z then m₁ z else m₀ z) := by
  have em : (fun z => if stored.contains z then m₁ z else m₀ z) = m₁ := by
    funext z
    cases e : stored.contains z with
    | true => simp
    | false => simp only [Bool.false_eq_true, if_false]; exact (h2 z e).symm
  rw [em]
  exact F
noncomputable def RngEnd (h₀ : Heap) (L : Addr) (s₁ : Shared) (I : Addr) (o : Obj) (rest : (PySem.Str → Option Value) → List (Addr × Obj) → Prop) (s₂ : Shared) : Prop :=
  ∃ h' tk m' news', s₂ = { s₁ with heap := h', toks := tk } ∧ Fr h₀ L h' m' ∧ News h₀ L h' ((I, o) :: news') ∧ (∀ p ∈ news', p.1 ≠ I) ∧ rest m' news'
noncomputable def RngPost (h₀ : Heap) (L : Addr) (s₁ : Shared) (I : Addr) (o : Obj) (rest : (PySem.Str → Option Value) → List (Addr × Obj) → Prop) (Q : Flow → Shared → Prop) (f : Flow) (s₂ : Shared) : Prop :=
  match f with
  | .ret v => Q (.ret v) s₂
  | .brk => Q .next s₂
  | _ => RngEnd h₀ L s₁ I o rest s₂
theorem rng_rest {σ : Type} {x : PySem.Str} {pos : Pos} {I : Addr} {a : Int} {n : Nat} {m₀ : PySem.Str → Option Value} (Led : σ → List (Addr × Obj)) (stored : List PySem.Str) (P : Nat → σ → Prop)
    (turn : ∀ (c : σ) (i : Nat) t (u : PySem.Str → Option Value) h tk o, i < n → P i c → o.cls = .type "range_iterator" → (∀ p ∈ Led c, p.1 ≠ I) →
      Fr h₀ env.locals h (fun z => if stored.contains z then u z else m₀ z) → News h₀ env.locals h ((I, o) :: Led c) →
      wpAny (model prog w) A (assign (.Name x pos) env (.int (a + (i : Int)) t)) (fun _ s₂ => wpAny (model prog w) A (execs body env) (RngPost h₀ env.locals { s with heap := h, toks := tk } I o (RngS Led stored m₀ P (i + 1)) Q) E s₂) E { s with heap := h, toks := tk })
    (done : ∀ (c : σ) (u : PySem.Str → Option Value) h tk, P n c → Fr h₀ env.locals h (fun z => if stored.contains z then u z else m₀ z) → News h₀ env.locals h (Led c) → Q .next { s with heap := h, toks := tk }) :
    ∀ (k i : Nat) m nx, i + k = n → (∀ p ∈ nx, p.1 ≠ I) → RngS Led stored m₀ P i m nx → ItemsRest prog w A E h₀ env (.Name x pos) body Q s [(I, "range_iterator")] [] (tokItems a i k) m nx
  | 0, i, m, nx, e, hoff, hS => by
    obtain ⟨c, rfl, h2, hp⟩ := hS
    have : i = n := by lia
    subst this
    exact ItemsRest.zero fun h tk F N => done c m h tk hp (rng_fr h2 F) N
  | k + 1, i, m, nx, e, hoff, hS => by
    obtain ⟨c, rfl, h2, hp⟩ := hS
    refine ItemsRest.tok fun t h tk F => ?_
    intro o hc N
    refine wpAny_mono (turn c i t m h tk o (by lia) hp hc hoff (rng_fr h2 F) N) (fun _ s₂ q2 => wpAny_mono q2 (fun f s₃ q3 => ?_) fun _ _ e => e) fun _ _ e => e
    have fin : RngEnd h₀ env.locals { s with heap := h, toks := tk } I o (RngS Led stored m₀ P (i + 1)) s₃ →
        UnrEndW h₀ env.locals { s with heap := h, toks := tk } [(I, o)] (fun m' n' => SubL [] n' ∧ ItemsRest prog w A E h₀ env (.Name x pos) body Q s [(I, "range_iterator")] [] (tokItems a (i + 1) k) m' n') s₃ := by
      rintro ⟨h', tk', m', news', rfl, F', N', ho', hS⟩
      refine ⟨h', tk', m', news', rfl, F', N', fun p hp q hq => ?_, trivial, rng_rest Led stored P turn done k (i + 1) m' news' (by lia) ho' hS⟩
      rw [List.mem_singleton.mp hq]
      exact ho' p hp
    cases f with
    | ret v => exact q3
    | brk => exact q3
    | next => exact fin q3
    | cont => exact fin q3
/-- a loop over a range whose turn makes new objects, by what holds of its state -/
theorem rng_loop {σ : Type} {x : PySem.Str} {pos : Pos} {r : Addr} {a₀ b₀ : Int} {t₀ u₀ v₀ : Tok} {n : Nat} {m₀ : PySem.Str → Option Value} (Led : σ → List (Addr × Obj)) (stored : List PySem.Str) (P : Nat → σ → Prop) (c₀ : σ)
    (hh : A.handled = none) (hr : IsRange s.heap r a₀ b₀ 1 t₀ u₀ v₀) (hsmall : Builtin.Range.small a₀ b₀ 1 = true) (hn : Builtin.Range.rangeSize a₀ b₀ 1 = (n : Int)) (F : Fr h₀ env.locals s.heap m₀) (N : News h₀ env.locals s.heap (Led c₀)) (hp : P 0 c₀)
    (turn : ∀ (I : Addr) (_ : ∀ p ∈ Led c₀, p.1 < I) (c : σ) (i : Nat) t (u : PySem.Str → Option Value) h tk o, i < n → P i c → o.cls = .type "range_iterator" → (∀ p ∈ Led c, p.1 ≠ I) →
      Fr h₀ env.locals h (fun z => if stored.contains z then u z else m₀ z) → News h₀ env.locals h ((I, o) :: Led c) →
      wpAny (model prog w) A (assign (.Name x pos) env (.int (a₀ + (i : Int)) t)) (fun _ s₂ => wpAny (model prog w) A (execs body env) (RngPost h₀ env.locals { s with heap := h, toks := tk } I o (RngS Led stored m₀ P (i + 1)) Q) E s₂) E { s with heap := h, toks := tk })
    (done : ∀ (c : σ) (u : PySem.Str → Option Value) h tk, P n c → Fr h₀ env.locals h (fun z => if stored.contains z then u z else m₀ z) → News h₀ env.locals h (Led c) → Q .next { s with heap := h, toks := tk }) :
    wpAny (model prog w) A (pyIter (.ref r)) (fun it s₂ => TurnsAt prog w A h₀ env (.Name x pos) body Q E it s₂) E s := by
  refine iter_rangeTurns hh hr hsmall hn F N fun I hI => ?_
  exact rng_rest Led stored P (turn I hI) done n 0 m₀ (Led c₀) (by lia) (fun p hp => Nat.ne_of_lt (hI p hp)) ⟨c₀, rfl, fun _ _ => rfl, hp⟩
theorem rng_loop0 {σ : Type} {x : PySem.Str} {pos : Pos} {r : Addr} {a₀ b₀ : Int} {t₀ u₀ v₀ : Tok} {n : Nat} {m₀ : PySem.Str → Option Value} (Led : σ → List (Addr × Obj)) (P : Nat → σ → Prop) (c₀ : σ)
    (hh : A.handled = none) (hr : IsRange s.heap r a₀ b₀ 1 t₀ u₀ v₀) (hsmall : Builtin.Range.small a₀ b₀ 1 = true) (hn : Builtin.Range.rangeSize a₀ b₀ 1 = (n : Int)) (F : Fr h₀ env.locals s.heap m₀) (N : News h₀ env.locals s.heap (Led c₀)) (hp : P 0 c₀)
    (turn : ∀ (I : Addr) (_ : ∀ p ∈ Led c₀, p.1 < I) (c : σ) (i : Nat) t h tk o, i < n → P i c → o.cls = .type "range_iterator" → (∀ p ∈ Led c, p.1 ≠ I) →
      Fr h₀ env.locals h m₀ → News h₀ env.locals h ((I, o) :: Led c) →
      wpAny (model prog w) A (assign (.Name x pos) env (.int (a₀ + (i : Int)) t)) (fun _ s₂ => wpAny (model prog w) A (execs body env) (RngPost h₀ env.locals { s with heap := h, toks := tk } I o (RngS Led [] m₀ P (i + 1)) Q) E s₂) E { s with heap := h, toks := tk })
    (done : ∀ (c : σ) h tk, P n c → Fr h₀ env.locals h m₀ → News h₀ env.locals h (Led c) → Q .next { s with heap := h, toks := tk }) :
    wpAny (model prog w) A (pyIter (.ref r)) (fun it s₂ => TurnsAt prog w A h₀ env (.Name x pos) body Q E it s₂) E s :=
  rng_loop Led [] P c₀ hh hr hsmall hn F N hp (fun I hI c i t u h tk o hi hp' hc ho F' N' => turn I hI c i t h tk o hi hp' hc ho F' N') fun c u h tk hp' F' N' => done c h tk hp' F' N'
end

end
end Mine
/-! Y_mem -/
namespace Mine
section
theorem band01 (x : Int) : Builtin.bitAnd x 1 = 0 ∨ Builtin.bitAnd x 1 = 1 := by
  have := bitAnd_range x (y := 1) (by decide)
  lia
theorem mulBand {a x : Int} : IntMulOk a (Builtin.bitAnd x 1) := by
  rcases band01 x with h | h <;> rw [h] <;> exact IntMulOk.of_right (by decide)
theorem ifT {c : Bool} {a b : List Int} (h : c = true) : (if c then a else b) = a := by rw [h]; rfl
theorem ifF {c : Bool} {a b : List Int} (h : c = false) : (if c then a else b) = b := by rw [h]; rfl
theorem pow_le8 {i n : Nat} (hi : i < n) (hn : n ≤ 4) : 2 ^ i ≤ 8 := Nat.pow_le_pow_right (n := 2) (by decide) (show i ≤ 3 by lia)
theorem mem_l8 {l : List Int} {i : Nat} (hi : i < 4) (h : l.length ≤ 2 ^ i) : l.length ≤ 8 := Nat.le_trans h (pow_le8 hi (by decide))
theorem mem_b8 {l : List Int} {i : Nat} (hi : i < 4) (h : ∀ x ∈ l, 0 ≤ x ∧ x < 2 ^ i) : ∀ x ∈ l, 0 ≤ x ∧ x < 8 := fun x hx => ⟨(h x hx).1, Int.lt_of_lt_of_le (h x hx).2 (by exact_mod_cast pow_le8 hi (by decide))⟩
theorem mem_i8 {i : Nat} (hi : i < 4) : (0 : Int) + (i : Int) < 4 := by lia
theorem mem_l16 {l : List Int} (h : l.length ≤ 2 ^ 4) : l.length ≤ 16 := h
theorem mem_b16 {l : List Int} (h : ∀ x ∈ l, 0 ≤ x ∧ x < 2 ^ 4) : ∀ x ∈ l, 0 ≤ x ∧ x < 16 := h
theorem off1_of {D : Nat} : ∀ {l : List (Addr × Obj)}, AllLt D l → LCg.Off1 D l
  | [], _ => trivial
  | _ :: _, h => ⟨Nat.ne_of_lt h.1, off1_of h.2⟩
theorem mem_off {a b c d D : Nat} {l : List (Addr × Obj)} (h : a < D ∧ b < D ∧ c < D ∧ d < D ∧ AllLt D l) : @Ne Nat a D ∧ @Ne Nat b D ∧ @Ne Nat c D ∧ @Ne Nat d D ∧ LCg.Off1 D l :=
  ⟨Nat.ne_of_lt h.1, Nat.ne_of_lt h.2.1, Nat.ne_of_lt h.2.2.1, Nat.ne_of_lt h.2.2.2.1, off1_of h.2.2.2.2⟩
theorem mem_off2 {a b c d D x y z : Nat} {l : List (Addr × Obj)} (h : x < D ∧ y < D ∧ z < D ∧ a < D ∧ b < D ∧ c < D ∧ d < D ∧ AllLt D l) : @Ne Nat a D ∧ @Ne Nat b D ∧ @Ne Nat c D ∧ @Ne Nat d D ∧ LCg.Off1 D l := mem_off h.2.2.2
theorem mem_off3 {a b c d D x y : Nat} {l : List (Addr × Obj)} (h : @Ne Nat x D ∧ @Ne Nat y D ∧ @Ne Nat a D ∧ @Ne Nat b D ∧ @Ne Nat c D ∧ @Ne Nat d D ∧ LCg.Off1 D l) : @Ne Nat a D ∧ @Ne Nat b D ∧ @Ne Nat c D ∧ @Ne Nat d D ∧ LCg.Off1 D l := h.2.2
theorem mem_f {f : Int → Int} {ms : List Int} {i : Nat} (h4 : ∀ x ∈ ms, 0 ≤ x ∧ x < 2 ^ i) (hf : ∀ x ∈ ms, f x = x ∨ f x = x + 2 ^ i) : ∀ y ∈ ms.map f, 0 ≤ y ∧ y < 2 ^ (i + 1) := by
  intro y hy
  obtain ⟨x, hx, rfl⟩ := List.mem_map.mp hy
  have := h4 x hx
  have e : (2 : Int) ^ (i + 1) = 2 ^ i + 2 ^ i := by rw [Int.pow_succ]; lia
  rcases hf x hx with h | h <;> lia
theorem mem_pw {i : Nat} : (1 : Int) * 2 ^ (0 + (i : Int)).toNat = 2 ^ i := by rw [Int.one_mul, Int.zero_add, Int.toNat_natCast]
theorem mem_f1 {ms : List Int} {i : Nat} (h4 : ∀ x ∈ ms, 0 ≤ x ∧ x < 2 ^ i) : ∀ x ∈ ms, (fun k' => if 0 ≤ k' then k' + 1 * 2 ^ (0 + (i : Int)).toNat else k') x = x ∨ (fun k' => if 0 ≤ k' then k' + 1 * 2 ^ (0 + (i : Int)).toNat else k') x = x + 2 ^ i := by
  intro x hx
  dsimp only
  rw [if_pos (h4 x hx).1, mem_pw]
  exact .inr rfl
theorem mem_f2 {ms : List Int} {i : Nat} {ch : Int} (h4 : ∀ x ∈ ms, 0 ≤ x ∧ x < 2 ^ i) : ∀ x ∈ ms, (fun k' => if 0 ≤ k' then k' + 1 * 2 ^ (0 + (i : Int)).toNat * Builtin.bitAnd (ch.fdiv (2 ^ (k' + (0 + (i : Int))).toNat)) 1 else k') x = x ∨ (fun k' => if 0 ≤ k' then k' + 1 * 2 ^ (0 + (i : Int)).toNat * Builtin.bitAnd (ch.fdiv (2 ^ (k' + (0 + (i : Int))).toNat)) 1 else k') x = x + 2 ^ i := by
  intro x hx
  dsimp only
  rw [if_pos (h4 x hx).1, mem_pw]
  rcases band01 (ch.fdiv (2 ^ (x + (0 + (i : Int))).toNat)) with h | h <;> rw [h]
  · left; lia
  · right; lia
theorem mem_w {i : Nat} : (2 : Int) ^ i ≤ 2 ^ (i + 1) := by
  have e : (2 : Int) ^ (i + 1) = 2 ^ i + 2 ^ i := by rw [Int.pow_succ]; lia
  have := Int.pow_pos (n := 2) (m := i) (by decide)
  lia
theorem mem_e1 {ms : List Int} {f : Int → Int} {i : Nat} (h2 : 0 < ms.length) (h3 : ms.length ≤ 2 ^ i) (h4 : ∀ x ∈ ms, 0 ≤ x ∧ x < 2 ^ i) (hf : ∀ x ∈ ms, f x = x ∨ f x = x + 2 ^ i) :
    0 < (ms ++ ms.map f).length ∧ (ms ++ ms.map f).length ≤ 2 ^ (i + 1) ∧ ∀ x ∈ ms ++ ms.map f, 0 ≤ x ∧ x < 2 ^ (i + 1) := by
  refine ⟨by rw [List.length_append]; lia, by rw [List.length_append, List.length_map, Nat.pow_succ]; lia, fun x hx => ?_⟩
  rcases List.mem_append.mp hx with hx | hx
  · exact ⟨(h4 x hx).1, Int.lt_of_lt_of_le (h4 x hx).2 mem_w⟩
  · exact mem_f h4 hf x hx
theorem mem_e2 {ms : List Int} {f : Int → Int} {i : Nat} (h2 : 0 < ms.length) (h3 : ms.length ≤ 2 ^ i) (h4 : ∀ x ∈ ms, 0 ≤ x ∧ x < 2 ^ i) (hf : ∀ x ∈ ms, f x = x ∨ f x = x + 2 ^ i) :
    0 < (ms.map f).length ∧ (ms.map f).length ≤ 2 ^ (i + 1) ∧ ∀ x ∈ ms.map f, 0 ≤ x ∧ x < 2 ^ (i + 1) := by
  refine ⟨by rw [List.length_map]; lia, by rw [List.length_map, Nat.pow_succ]; lia, mem_f h4 hf⟩
theorem foldl_filt (q : List Int) : ∀ (l acc : List Int), l.foldl (fun l k => if (q.any fun x => x == k) = true then l ++ [k] else l) acc = acc ++ l.filter fun k => q.any fun x => x == k
  | [], acc => by simp
  | k :: r, acc => by
    rw [List.foldl_cons, foldl_filt q r]
    cases e : (q.any fun x => x == k) with
    | true => rw [List.filter_cons_of_pos (by simpa using e)]; simp
    | false => rw [List.filter_cons_of_neg (by simp [e])]; simp
/-- what _law_members gives back -/
noncomputable def memL (q : List Int) : List Int := (rangeKs 0 16).filter fun k => q.any fun x => x == k
theorem memL_pos {q : List Int} (h : 0 < q.length) (hb : ∀ x ∈ q, 0 ≤ x ∧ x < 16) : 0 < (memL q).length := by
  cases q with
  | nil => cases h
  | cons x r =>
    have hx := hb x (List.mem_cons_self ..)
    refine List.length_pos_of_mem (a := x) (List.mem_filter.mpr ⟨?_, by simp⟩)
    rw [rangeKs, List.mem_map]
    exact ⟨x.toNat, List.mem_range.mpr (by lia), by lia⟩
theorem mem_set16 {q : List Int} {k : Nat} {s : Int} (hb : ∀ x ∈ q, 0 ≤ x ∧ x < 16) : ∀ x ∈ q.set k (s.fmod 16), 0 ≤ x ∧ x < 16 := by
  intro x hx
  rcases List.mem_or_eq_of_mem_set hx with hx | rfl
  · exact hb x hx
  · exact ⟨Int.fmod_nonneg_of_pos _ (by decide), Int.fmod_lt_of_pos _ (by decide)⟩
theorem mem_last {a b c d e D : Nat} {l : List (Addr × Obj)} (h : @Ne Nat e D ∧ @Ne Nat a D ∧ @Ne Nat b D ∧ @Ne Nat c D ∧ @Ne Nat d D ∧ LCg.Off1 D l) : LCg.Off1 D l := h.2.2.2.2.2
theorem mem_s1 : 0 < [(0 : Int)].length := by decide
theorem mem_s2 : [(0 : Int)].length ≤ 2 ^ 0 := by decide
theorem mem_s3 : ∀ x ∈ [(0 : Int)], 0 ≤ x ∧ x < 2 ^ 0 := by decide
theorem off1_ne {D : Nat} : ∀ {l : List (Addr × Obj)}, LCg.Off1 D l → ∀ p ∈ l, p.1 ≠ D
  | [], _, _, hp => nomatch hp
  | _ :: _, h, p, hp => by
    rcases List.mem_cons.mp hp with rfl | hp
    · exact h.1
    · exact off1_ne h.2 p hp
theorem allNe_of {d e : Nat} {l : List (Addr × Obj)} (h : ∀ p ∈ l, @LT.lt Nat _ p.1 d) (hle : d ≤ e) : ∀ p ∈ l, p.1 ≠ e := fun p hp => Nat.ne_of_lt (Nat.lt_of_lt_of_le (h p hp) hle)
theorem mem_ok {w : World} {loose : List PySem.Str} {mean : ExcName → Option Value} {mg mb : PySem.Str → Option Value}
    {dp un : Nat} {gd : Option (List Code)} {cn : PySem.Str} {cs : Scope} {a : Addr} {ccd : Value} {cl : List (PySem.Str × Addr)} {outer : List Env} {A₀ : Around} {base h₀ : Heap} {L : Addr} {m : PySem.Str → Option Value} {s : Shared} {Q E : Value → Shared → Prop} {news : List (Addr × Obj)}
    (B : Below A₀ base outer h₀) (F : Fr h₀ L s.heap m) (X : (hd.heap_1 w.params).In h₀) (N : News h₀ L s.heap news) (T : Top topProg loose mean mg mb h₀) (hk : cs.kind = .function)
    {lv ch sp : Int} {t1 t2 t3 : Tok} (h1 : 0 ≤ lv ∧ lv ≤ 30000000) (h2 : 0 ≤ ch ∧ ch ≤ 30000000) (h3 : 0 ≤ sp ∧ sp ≤ 30000000) 
    (hd1 : dp + 2 < recursionLimit) (hu : un + 64 < cLine)
    (hret : ∀ D us q nu h1 tk1, IntsAre us (memL q) → 0 < q.length → (∀ x ∈ q, 0 ≤ x ∧ x < 16) → Fr h₀ L h1 m → News h₀ L h1 ((D, W.listOf us.toArray nu) :: news) → LCg.Off1 D news → Q (.ref D) { s with heap := h1, toks := tk1 }) :
    wpAny (model Challenge.rw_sn0051_01.row.prog w) (ktrTop dp un gd cn cs L a ccd cl outer) (call (.ref 131) [.int lv t1, .int ch t2, .int sp t3]) Q E s := by
  revert X
  k_fill
  intro X
  refine wpAny_call ?_
  k_with_none
  k_with "k_ne" => (refine neN ?_; (try dsimp only); first | with_reducible assumption | (refine Nat.ne_of_lt ?_; first | with_reducible assumption | exact And.left (by with_reducible assumption) | exact And.left (And.right (by with_reducible assumption)) | exact And.right (by with_reducible assumption) | exact And.left (And.right (And.right (by with_reducible assumption))) | exact And.right (And.right (by with_reducible assumption)) | exact And.left (And.right (And.right (And.right (by with_reducible assumption)))) | exact And.right (And.right (And.right (by with_reducible assumption))) | exact And.left (And.right (And.right (And.right (And.right (by with_reducible assumption))))) | exact And.right (And.right (And.right (And.right (by with_reducible assumption)))) | exact And.left (And.right (And.right (And.right (And.right (And.right (by with_reducible assumption)))))) | exact And.right (And.right (And.right (And.right (And.right (by with_reducible assumption))))) | exact And.left (And.right (And.right (And.right (And.right (And.right (And.right (by with_reducible assumption))))))) | exact And.right (And.right (And.right (And.right (And.right (And.right (by with_reducible assumption)))))) | exact And.left (And.right (And.right (And.right (And.right (And.right (And.right (And.right (by with_reducible assumption)))))))) | exact And.right (And.right (And.right (And.right (And.right (And.right (And.right (by with_reducible assumption))))))) | exact And.left (And.right (And.right (And.right (And.right (And.right (And.right (And.right (And.right (by with_reducible assumption))))))))) | exact And.right (And.right (And.right (And.right (And.right (And.right (And.right (And.right (by with_reducible assumption)))))))) | exact And.left (And.right (And.right (And.right (And.right (And.right (And.right (And.right (And.right (And.right (by with_reducible assumption)))))))))) | exact And.right (And.right (And.right (And.right (And.right (And.right (And.right (And.right (And.right (by with_reducible assumption))))))))) | exact And.left (And.right (And.right (And.right (And.right (And.right (And.right (And.right (And.right (And.right (And.right (by with_reducible assumption))))))))))) | exact And.right (And.right (And.right (And.right (And.right (And.right (And.right (And.right (And.right (And.right (by with_reducible assumption)))))))))) | exact And.left (And.right (And.right (And.right (And.right (And.right (And.right (And.right (And.right (And.right (And.right (And.right (by with_reducible assumption)))))))))))) | exact And.right (And.right (And.right (And.right (And.right (And.right (And.right (And.right (And.right (And.right (And.right (by with_reducible assumption))))))))))) | exact And.left (And.right (And.right (And.right (And.right (And.right (And.right (And.right (And.right (And.right (And.right (And.right (And.right (by with_reducible assumption))))))))))))) | exact And.right (And.right (And.right (And.right (And.right (And.right (And.right (And.right (And.right (And.right (And.right (And.right (by with_reducible assumption)))))))))))) | exact And.left (And.right (And.right (And.right (And.right (And.right (And.right (And.right (And.right (And.right (And.right (And.right (And.right (And.right (by with_reducible assumption)))))))))))))) | exact And.right (And.right (And.right (And.right (And.right (And.right (And.right (And.right (And.right (And.right (And.right (And.right (And.right (by with_reducible assumption))))))))))))) | exact And.left (And.right (And.right (And.right (And.right (And.right (And.right (And.right (And.right (And.right (And.right (And.right (And.right (And.right (And.right (by with_reducible assumption))))))))))))))) | exact And.right (And.right (And.right (And.right (And.right (And.right (And.right (And.right (And.right (And.right (And.right (And.right (And.right (And.right (by with_reducible assumption))))))))))))))) | (refine Nat.ne_of_gt ?_; first | with_reducible assumption | exact And.left (by with_reducible assumption) | exact And.left (And.right (by with_reducible assumption)) | exact And.right (by with_reducible assumption) | exact And.left (And.right (And.right (by with_reducible assumption))) | exact And.right (And.right (by with_reducible assumption)) | exact And.left (And.right (And.right (And.right (by with_reducible assumption)))) | exact And.right (And.right (And.right (by with_reducible assumption))) | exact And.left (And.right (And.right (And.right (And.right (by with_reducible assumption))))) | exact And.right (And.right (And.right (And.right (by with_reducible assumption)))) | exact And.left (And.right (And.right (And.right (And.right (And.right (by with_reducible assumption)))))) | exact And.right (And.right (And.right (And.right (And.right (by with_reducible assumption))))) | exact And.left (And.right (And.right (And.right (And.right (And.right (And.right (by with_reducible assumption))))))) | exact And.right (And.right (And.right (And.right (And.right (And.right (by with_reducible assumption)))))) | exact And.left (And.right (And.right (And.right (And.right (And.right (And.right (And.right (by with_reducible assumption)))))))) | exact And.right (And.right (And.right (And.right (And.right (And.right (And.right (by with_reducible assumption))))))) | exact And.left (And.right (And.right (And.right (And.right (And.right (And.right (And.right (And.right (by with_reducible assumption))))))))) | exact And.right (And.right (And.right (And.right (And.right (And.right (And.right (And.right (by with_reducible assumption)))))))) | exact And.left (And.right (And.right (And.right (And.right (And.right (And.right (And.right (And.right (And.right (by with_reducible assumption)))))))))) | exact And.right (And.right (And.right (And.right (And.right (And.right (And.right (And.right (And.right (by with_reducible assumption))))))))) | exact And.left (And.right (And.right (And.right (And.right (And.right (And.right (And.right (And.right (And.right (And.right (by with_reducible assumption))))))))))) | exact And.right (And.right (And.right (And.right (And.right (And.right (And.right (And.right (And.right (And.right (by with_reducible assumption)))))))))) | exact And.left (And.right (And.right (And.right (And.right (And.right (And.right (And.right (And.right (And.right (And.right (And.right (by with_reducible assumption)))))))))))) | exact And.right (And.right (And.right (And.right (And.right (And.right (And.right (And.right (And.right (And.right (And.right (by with_reducible assumption))))))))))) | exact And.left (And.right (And.right (And.right (And.right (And.right (And.right (And.right (And.right (And.right (And.right (And.right (And.right (by with_reducible assumption))))))))))))) | exact And.right (And.right (And.right (And.right (And.right (And.right (And.right (And.right (And.right (And.right (And.right (And.right (by with_reducible assumption)))))))))))) | exact And.left (And.right (And.right (And.right (And.right (And.right (And.right (And.right (And.right (And.right (And.right (And.right (And.right (And.right (by with_reducible assumption)))))))))))))) | exact And.right (And.right (And.right (And.right (And.right (And.right (And.right (And.right (And.right (And.right (And.right (And.right (And.right (by with_reducible assumption))))))))))))) | exact And.left (And.right (And.right (And.right (And.right (And.right (And.right (And.right (And.right (And.right (And.right (And.right (And.right (And.right (And.right (by with_reducible assumption))))))))))))))) | exact And.right (And.right (And.right (And.right (And.right (And.right (And.right (And.right (And.right (And.right (And.right (And.right (And.right (And.right (by with_reducible assumption))))))))))))))) | (first | with_reducible assumption | exact And.left (by with_reducible assumption) | exact And.left (And.right (by with_reducible assumption)) | exact And.right (by with_reducible assumption) | exact And.left (And.right (And.right (by with_reducible assumption))) | exact And.right (And.right (by with_reducible assumption)) | exact And.left (And.right (And.right (And.right (by with_reducible assumption)))) | exact And.right (And.right (And.right (by with_reducible assumption))) | exact And.left (And.right (And.right (And.right (And.right (by with_reducible assumption))))) | exact And.right (And.right (And.right (And.right (by with_reducible assumption)))) | exact And.left (And.right (And.right (And.right (And.right (And.right (by with_reducible assumption)))))) | exact And.right (And.right (And.right (And.right (And.right (by with_reducible assumption))))) | exact And.left (And.right (And.right (And.right (And.right (And.right (And.right (by with_reducible assumption))))))) | exact And.right (And.right (And.right (And.right (And.right (And.right (by with_reducible assumption)))))) | exact And.left (And.right (And.right (And.right (And.right (And.right (And.right (And.right (by with_reducible assumption)))))))) | exact And.right (And.right (And.right (And.right (And.right (And.right (And.right (by with_reducible assumption))))))) | exact And.left (And.right (And.right (And.right (And.right (And.right (And.right (And.right (And.right (by with_reducible assumption))))))))) | exact And.right (And.right (And.right (And.right (And.right (And.right (And.right (And.right (by with_reducible assumption)))))))) | exact And.left (And.right (And.right (And.right (And.right (And.right (And.right (And.right (And.right (And.right (by with_reducible assumption)))))))))) | exact And.right (And.right (And.right (And.right (And.right (And.right (And.right (And.right (And.right (by with_reducible assumption))))))))) | exact And.left (And.right (And.right (And.right (And.right (And.right (And.right (And.right (And.right (And.right (And.right (by with_reducible assumption))))))))))) | exact And.right (And.right (And.right (And.right (And.right (And.right (And.right (And.right (And.right (And.right (by with_reducible assumption)))))))))) | exact And.left (And.right (And.right (And.right (And.right (And.right (And.right (And.right (And.right (And.right (And.right (And.right (by with_reducible assumption)))))))))))) | exact And.right (And.right (And.right (And.right (And.right (And.right (And.right (And.right (And.right (And.right (And.right (by with_reducible assumption))))))))))) | exact And.left (And.right (And.right (And.right (And.right (And.right (And.right (And.right (And.right (And.right (And.right (And.right (And.right (by with_reducible assumption))))))))))))) | exact And.right (And.right (And.right (And.right (And.right (And.right (And.right (And.right (And.right (And.right (And.right (And.right (by with_reducible assumption)))))))))))) | exact And.left (And.right (And.right (And.right (And.right (And.right (And.right (And.right (And.right (And.right (And.right (And.right (And.right (And.right (by with_reducible assumption)))))))))))))) | exact And.right (And.right (And.right (And.right (And.right (And.right (And.right (And.right (And.right (And.right (And.right (And.right (And.right (by with_reducible assumption))))))))))))) | exact And.left (And.right (And.right (And.right (And.right (And.right (And.right (And.right (And.right (And.right (And.right (And.right (And.right (And.right (And.right (by with_reducible assumption))))))))))))))) | exact And.right (And.right (And.right (And.right (And.right (And.right (And.right (And.right (And.right (And.right (And.right (And.right (And.right (And.right (by with_reducible assumption))))))))))))))) | (refine Ne.symm ?_; first | with_reducible assumption | exact And.left (by with_reducible assumption) | exact And.left (And.right (by with_reducible assumption)) | exact And.right (by with_reducible assumption) | exact And.left (And.right (And.right (by with_reducible assumption))) | exact And.right (And.right (by with_reducible assumption)) | exact And.left (And.right (And.right (And.right (by with_reducible assumption)))) | exact And.right (And.right (And.right (by with_reducible assumption))) | exact And.left (And.right (And.right (And.right (And.right (by with_reducible assumption))))) | exact And.right (And.right (And.right (And.right (by with_reducible assumption)))) | exact And.left (And.right (And.right (And.right (And.right (And.right (by with_reducible assumption)))))) | exact And.right (And.right (And.right (And.right (And.right (by with_reducible assumption))))) | exact And.left (And.right (And.right (And.right (And.right (And.right (And.right (by with_reducible assumption))))))) | exact And.right (And.right (And.right (And.right (And.right (And.right (by with_reducible assumption)))))) | exact And.left (And.right (And.right (And.right (And.right (And.right (And.right (And.right (by with_reducible assumption)))))))) | exact And.right (And.right (And.right (And.right (And.right (And.right (And.right (by with_reducible assumption))))))) | exact And.left (And.right (And.right (And.right (And.right (And.right (And.right (And.right (And.right (by with_reducible assumption))))))))) | exact And.right (And.right (And.right (And.right (And.right (And.right (And.right (And.right (by with_reducible assumption)))))))) | exact And.left (And.right (And.right (And.right (And.right (And.right (And.right (And.right (And.right (And.right (by with_reducible assumption)))))))))) | exact And.right (And.right (And.right (And.right (And.right (And.right (And.right (And.right (And.right (by with_reducible assumption))))))))) | exact And.left (And.right (And.right (And.right (And.right (And.right (And.right (And.right (And.right (And.right (And.right (by with_reducible assumption))))))))))) | exact And.right (And.right (And.right (And.right (And.right (And.right (And.right (And.right (And.right (And.right (by with_reducible assumption)))))))))) | exact And.left (And.right (And.right (And.right (And.right (And.right (And.right (And.right (And.right (And.right (And.right (And.right (by with_reducible assumption)))))))))))) | exact And.right (And.right (And.right (And.right (And.right (And.right (And.right (And.right (And.right (And.right (And.right (by with_reducible assumption))))))))))) | exact And.left (And.right (And.right (And.right (And.right (And.right (And.right (And.right (And.right (And.right (And.right (And.right (And.right (by with_reducible assumption))))))))))))) | exact And.right (And.right (And.right (And.right (And.right (And.right (And.right (And.right (And.right (And.right (And.right (And.right (by with_reducible assumption)))))))))))) | exact And.left (And.right (And.right (And.right (And.right (And.right (And.right (And.right (And.right (And.right (And.right (And.right (And.right (And.right (by with_reducible assumption)))))))))))))) | exact And.right (And.right (And.right (And.right (And.right (And.right (And.right (And.right (And.right (And.right (And.right (And.right (And.right (by with_reducible assumption))))))))))))) | exact And.left (And.right (And.right (And.right (And.right (And.right (And.right (And.right (And.right (And.right (And.right (And.right (And.right (And.right (And.right (by with_reducible assumption))))))))))))))) | exact And.right (And.right (And.right (And.right (And.right (And.right (And.right (And.right (And.right (And.right (And.right (And.right (And.right (And.right (by with_reducible assumption))))))))))))))) | lia)
  k_with "binaryOp Mult int int" => (k_here; refine mul_int ?_ mulBand)
  k_with "binaryOp RShift int int" => (k_here; refine rshift_int (by lia) ?_)
  k_with "CompEnd" => first | kcf_end | (with_unfolding_all exact LCg.CompEnd.intro (by assumption) (by assumption) _ (by kcf_all) (by first | assumption | (simp only [LCg.Off3, and_true]; done) | (simp only [LCg.Off3, and_true]; assumption)) (by first | lcg_src | assumption) (kci_no (ifF (by assumption)) rfl)) | (with_unfolding_all exact LCg.CompEnd.intro (by assumption) (by assumption) _ (by kcf_all) (by first | assumption | (simp only [LCg.Off3, and_true]; done) | (simp only [LCg.Off3, and_true]; assumption)) (by first | lcg_src | assumption) (kci_el (ifT (by assumption)) rfl rfl))
  k_with "CompSrcT" => k_extra "cst"
  k_with "CompSrc" => k_extra "cs"
  k_with "k_all" => first | assumption | exact off1_ne (by with_reducible assumption) | (refine allNe_of (by with_reducible assumption) ?_; lia) | (refine allNe_lt (by with_reducible assumption) ?_; lia) | (exact List.forall_mem_append.mpr ⟨by k_all, by k_all⟩)
  k_with "exec For Name Call cons nil" => (k_here; (rename Fr _ _ _ _ => lF'); (with_unfolding_all refine' For_turns lF' ?_; k_whole))
  k_with "pyIter ref" => (k_here; (with_reducible show wpAny _ _ (pyIter (Value.ref _)) (fun it s₂ => TurnsAt _ _ _ _ _ _ _ _ _ it s₂) _ _); k_extra "rng")
  k_with "cst" => (first | ((rename (Int.fmod sp 2 = 1) => hq9); (k_dflt (refine LCt.CompSrcT.range (by rfl) (by k_asm) (by k_asm) (by assumption) (by decide) (by first | exact rangeSize_nat _ _ | rfl) (by first | exact Nat.le_of_ble_eq_true rfl | size_fits) ?_; intro g'; (refine' kci_range (fun l k => if List.any (ms9.set ((sp.fdiv 2).fmod (ms9.length : Int)).toNat ((sp.fdiv 32).fmod 16)) (fun x => x == k) then l ++ [k] else l) (fun k' t' I' oI' C' oC' D' m' ys' l' h' tk' E' hlo' hhi' hI' hC' hx' F' N' off' ne' => ?_) ?_ ?_); (all_goals (try (simp only [LCg.Off3, and_true] at off'))); (all_goals (try ((show KPfMark → _); intro hMark'))); kcf_last))) | (k_dflt (refine LCt.CompSrcT.range (by rfl) (by k_asm) (by k_asm) (by assumption) (by decide) (by first | exact rangeSize_nat _ _ | rfl) (by first | exact Nat.le_of_ble_eq_true rfl | size_fits) ?_; intro g'; (refine' kci_range (fun l k => if List.any (ms9) (fun x => x == k) then l ++ [k] else l) (fun k' t' I' oI' C' oC' D' m' ys' l' h' tk' E' hlo' hhi' hI' hC' hx' F' N' off' ne' => ?_) ?_ ?_); (all_goals (try (simp only [LCg.Off3, and_true] at off'))); (all_goals (try ((show KPfMark → _); intro hMark'))); kcf_last)))
  k_with "cs" => ((try kcf_lens); k_dflt (refine LCg.CompSrc.ledger (by rfl) (by k_asm) (by k_asm) (by k_mem) (by kcf_size) ?_; intro g'; (refine' kcf_list _ (by first | assumption | l_ints) (fun k' t' I' oI' C' oC' D' m' ys' h' tk' E' hk' hC' hx' F' N' off' ne' hMark' => ?_) ?_); (all_goals (try (simp only [LCg.Off3, and_true] at off'))); (all_goals (try have hx9 := (hp4 _ hk').1)); kcf_last))
  k_with "rng" => (rename_i o1 o2 o3 o4 d1 d2 d3 d4 lD hA l1 hA2 oM FA NA dM hB tkB tB uB vB rB FB NB kB; with_unfolding_all refine' rng_loop0 (n := 4) (fun c : Addr × List Value × List Int × Nat × Obj × Obj × Obj => (c.1, W.listOf c.2.1.toArray c.2.2.2.1) :: (L' + 1 + 1 + 1 + 1, c.2.2.2.2.2.2) :: (L' + 1 + 1 + 1, c.2.2.2.2.1) :: (L' + 1 + 1, c.2.2.2.2.2.1) :: (L' + 1, o4) :: news) (fun i c => IntsAre c.2.1 c.2.2.1 ∧ 0 < c.2.2.1.length ∧ c.2.2.1.length ≤ 2 ^ i ∧ (∀ x ∈ c.2.2.1, 0 ≤ x ∧ x < 2 ^ i) ∧ (∃ v, c.2.2.2.2.1.data = Data.cell v) ∧ c.2.2.2.2.2.1.data = Data.cell (some (.ref c.1)) ∧ (∃ v, c.2.2.2.2.2.2.data = Data.cell v) ∧ (@Ne Nat (L' + 1 + 1 + 1 + 1) c.1 ∧ @Ne Nat (L' + 1 + 1 + 1) c.1 ∧ @Ne Nat (L' + 1 + 1) c.1 ∧ @Ne Nat (L' + 1) c.1 ∧ LCg.Off1 c.1 news)) (lD, [.int 0 tk'], [0], 0, o2, oM, o1) ?hh rB ?sm ?n FB ?N ⟨.cons 0 tk' .nil, mem_s1, mem_s2, mem_s3, ⟨_, d2⟩, dM, ⟨_, d1⟩, mem_off l1⟩ ?turn ?done; (case hh => exact rfl); (case sm => decide); (case n => rfl); (case N => exact NB); (all_goals (clear FA NA FB NB rB kB)); (all_goals (first | (rintro I9 hI9 ⟨lD9, us9, ms9, nu9, oL9, oM9, oS9⟩ i9 t9 h9 tk9 o9 hi9 ⟨hp1, hp2, hp3, hp4, ⟨vL9, hp5⟩, hp6, ⟨vS9, hp7⟩, hp8⟩ hc9 hoff9 F9 N9) | (rintro ⟨lD9, us9, ms9, nu9, oL9, oM9, oS9⟩ h9 tk9 ⟨hp1, hp2, hp3, hp4, ⟨vL9, hp5⟩, hp6, ⟨vS9, hp7⟩, hp8⟩ F9 N9))); (all_goals (try dsimp only at hp1)); (all_goals (try dsimp only at hp2)); (all_goals (try dsimp only at hp3)); (all_goals (try dsimp only at hp4)); (all_goals (try dsimp only at hp5)); (all_goals (try dsimp only at hp6)); (all_goals (try dsimp only at hp7)); (all_goals (try dsimp only at hp8));  (all_goals (try (have hI8 : @LT.lt Nat _ (L' + 1 + 1 + 1 + 1) I9 := hI9 (L' + 1 + 1 + 1 + 1, o1) (.tail _ (.head _))))); (all_goals (try dsimp only at N9)); (all_goals (try have hp9 := mem_l8 hi9 hp3)); (all_goals have hp11 := hp8.2.2.2.2); (all_goals (have d9 : o4.data = Data.cell (some (Value.int ch t2)) := d4)); (all_goals (clear d1 d2 d3 d4 dM)); (all_goals (try dsimp only at hoff9)))
  first
  | (k_dflt cell_enter)
  | (k_dflt (refine' code_def ?k1 ?k2 ?k3 ?k4 ?k5 ?kA ?kF ?kK ?k6 ?k7 ?k8 ?k9 ?kB ?_ ?c2 ?c3 ?c4 ?c5; (case kA => exact rfl); (case kF => exact rfl); (case kK => assumption); (case k1 => k_asm); (case k2 => k_asm); (case k3 => k_asm); (case k4 => k_asm); (case k5 => k_asm); (case k6 => k_is); (case k7 => k_is); (case k8 => ktr_room); (case k9 => first | exact BindsTo.of_eq rfl | exact binds_K (by k_in) rfl (by k_is) rfl rfl rfl); (case c5 => decide); (case kB => exact locs rfl); (case c2 => exact rfl); (case c3 => exact rfl); (case c4 => exact rfl); k_whole; intro g' L' h' FG' F' N' B' X' T'; (try dsimp only); (try k_lift B'); (try k_fold)))
  | (k_dflt (refine' code_defC ?k1 ?k2 ?k3 ?k4 ?k5 ?kA ?kF ?kK ?k6 ?k7 ?k8 ?k9 ?kB ?kD ?_ ?c2 ?c3 ?c4; (case kA => exact rfl); (case kF => exact rfl); (case kK => assumption); (case k1 => k_asm); (case k2 => k_asm); (case k3 => k_asm); (case k4 => k_asm); (case k5 => k_asm); (case k6 => k_is); (case k7 => k_is); (case k8 => ktr_room); (case k9 => first | exact BindsTo.of_eq rfl | exact binds_K (by k_in) rfl (by k_is) rfl rfl rfl); (case kB => exact rfl); (case kD => decide); (case c2 => exact rfl); (case c3 => exact rfl); (case c4 => exact rfl); k_whole; intro g' L' h' tk' cells' FG' F' N' Y' B' X' T' l'; (try dsimp only); (try k_cells Y'); (try simp only [List.nil_append, List.cons_append] at N'); (try k_lt l'); (try k_lift B'); (try k_fold)))
  k_with "fin" =>
    try (show LCg.CompEnd _ _ _ _ _ _ _ _ _ _ _ _ _ _)
    try dsimp only [RngPost]
    first
    | (rename News _ _ _ _ => kN
       rename IntsAre _ (ms9 ++ _) => kI
       rename _ = Data.cell (some (Value.int (0 + (i9 : Int)) _)) => dL
       rename _ = Data.cell (some (Value.int (1 * 2 ^ (0 + (i9 : Int)).toNat) _)) => dS
       rename _ = Data.cell (some (Value.ref _)) => dM
       have kE := mem_e1 hp2 hp3 hp4 (mem_f1 hp4)
       refine ⟨_, _, _, _, rfl, (by assumption), kst_newsOf kN ?sub, ?off, ⟨(_, _, _, 0, _, _, _), rfl, fun _ _ => rfl, kI, kE.1, kE.2.1, kE.2.2, ⟨_, dL⟩, dM, ⟨_, dS⟩, mem_off2 (by assumption)⟩⟩
       · kcf_all
       · refine List.forall_mem_cons.mpr ⟨by k_ne, List.forall_mem_cons.mpr ⟨by k_ne, List.forall_mem_cons.mpr ⟨by k_ne, List.forall_mem_cons.mpr ⟨by k_ne, List.forall_mem_cons.mpr ⟨by k_ne, fun p hp => hoff9 p ?_⟩⟩⟩⟩⟩
         exact .tail _ (.tail _ (.tail _ (.tail _ (.tail _ hp)))))
    | (rename News _ _ _ _ => kN
       rename IntsAre _ (List.map _ ms9) => kI
       rename _ = Data.cell (some (Value.int (0 + (i9 : Int)) _)) => dL
       rename _ = Data.cell (some (Value.int (1 * 2 ^ (0 + (i9 : Int)).toNat) _)) => dS
       rename _ = Data.cell (some (Value.ref _)) => dM
       have kE := mem_e2 hp2 hp3 hp4 (mem_f2 (ch := ch) hp4)
       refine ⟨_, _, _, _, rfl, (by assumption), kst_newsOf kN ?sub2, ?off2, ⟨(_, ys, _, ys.length, _, _, _), rfl, fun _ _ => rfl, kI, kE.1, kE.2.1, kE.2.2, ⟨_, dL⟩, dM, ⟨_, dS⟩, mem_off3 (by assumption)⟩⟩
       · kcf_all
       · refine List.forall_mem_cons.mpr ⟨by k_ne, List.forall_mem_cons.mpr ⟨by k_ne, List.forall_mem_cons.mpr ⟨by k_ne, List.forall_mem_cons.mpr ⟨by k_ne, List.forall_mem_cons.mpr ⟨by k_ne, fun p hp => hoff9 p ?_⟩⟩⟩⟩⟩
         exact .tail _ (.tail _ (.tail _ (.tail _ (.tail _ hp)))))
    | (rename News _ _ _ _ => kN
       rename IntsAre _ _ => kI
       rw [foldl_filt, List.nil_append] at kI
       exact hret _ _ (ms9.set ((sp.fdiv 2).fmod (ms9.length : Int)).toNat ((sp.fdiv 32).fmod 16)) _ _ _ kI (by rw [List.length_set]; exact hp2) (mem_set16 hp4) (by k_asm) (kst_newsOf kN (by kst_inAny)) (mem_last (by assumption)))
    | (rename News _ _ _ _ => kN
       rename IntsAre _ _ => kI
       rw [foldl_filt, List.nil_append] at kI
       exact hret _ _ ms9 _ _ _ kI hp2 hp4 (by k_asm) (kst_newsOf kN (by kst_inAny)) (mem_last (by assumption)))
  k_with "execs cons" => ((try k_gentoks); (try k_made); (with_reducible refine wpAny_execs_cons ?_); (try dsimp only); k_dflt (as_aux_lemma => (k_steps; all_goals k_extra "fin")))
  k_steps
  all_goals k_extra "fin"

end
end Mine
/-! P3 -/
namespace Mine
section

section
open PySem.Builtin PySem.Calls PySem.Spec
variable {prog : Program} {w : World} {A : Around} {E : Value → Shared → Prop} {s : Shared}
/-- a set, written out -/
noncomputable abbrev setX (es : Array (Int × Value)) (ep : Nat) (t : SetTable) : Obj := { cls := .type "set", dict := none, data := .set es ep t }
/-- is the set led: by the world's word -/
noncomputable abbrev ledX (w : World) : Bool := !w.params.followText "set-order"

theorem setAddX {a : Addr} {es es1 : Array (Int × Value)} {ep : Nat} {t t1 : SetTable} {k : Int} {tk : Tok} {Q : Bool → Shared → Prop}
    (ho : s.heap.get? a = some (setX es ep t)) (hf : t.fits es.size = true) (hel : ElemsOf (intKind prog w) es.toList) (hb : es.size < scanBound)
    (hno : es.toList.findIdx? (fun e => (intKind prog w).is k e.2) = none) (hL : layNew t es ((intKind prog w).hash k) (.int k tk) = (es1, t1, false, false)) (hfull : t1.tooFull = false)
    (hb1 : es1.size < scanBound) (h : ∀ h', Heap.SameBut a s.heap h' → h'.get? a = some (setX es1 (ep + 1) t1) → Q true { s with heap := h' }) :
    wpAny (model prog w) A (setAddHashed a (.int k tk) ((intKind prog w).hash k)) Q E s := by
  unfold setAddHashed setAddHashedIn
  refine wpAny_holding (wpAny_bind (wpAny_setState_of ho rfl hf ?_))
  dsimp only
  rw [byScan_of (knd := intKind prog w) rfl hb hel]
  simp only [↓reduceIte]
  unfold setAddByScan
  refine wpAny_bind ?_
  refine wpAny_bind (wpAny_rule ?_)
  refine wpAny_bind (wpAny_setScan_of (knd := intKind prog w) (k := k) (intKind_is _ _ _ _) ho rfl hf hel ?_)
  rw [hno]
  dsimp only
  rw [hL]
  dsimp only
  have hnd : ∀ Q' : Unit → Shared → Prop, Q' () s → wpAny (model prog w) A (match false with | true => rule "set.scan.the-table-gave-way" | false => pure ()) Q' E s := fun Q' hq => wpAny_pure hq
  refine wpAny_bind (hnd _ ?_)
  have fin : wpAny (model prog w) A (storeSet a es1 t1) (fun _ s' => Q true s') E s := by
    refine wpAny_storeSet_of ho rfl ?_ (fits_of_scanBound hb1)
    exact h _ (Heap.SameBut.update s.heap a (Obj.putSet es1 t1)) (Heap.get?_update_self _ ho rfl)
  split
  · refine wpAny_bind ?_
    rw [hashByValue_scannable 8 rfl]
    refine wpAny_pure ?_
    rw [show plainKind (.int k tk) = true from rfl]
    simp only [if_true, hfull, Bool.not_false, Bool.and_false, Bool.false_eq_true, if_false]
    exact wpAny_bind (wpAny_mono fin (fun _ _ q => wpAny_pure (wpAny_pure q)) fun _ _ e => e)
  · refine wpAny_bind (wpAny_pure ?_)
    simp only [if_true, hfull, Bool.not_false, Bool.and_false, Bool.false_eq_true, if_false]
    exact wpAny_bind (wpAny_mono fin (fun _ _ q => wpAny_pure (wpAny_pure q)) fun _ _ e => e)
theorem typeIs_setX {a : Addr} {es : Array (Int × Value)} {ep : Nat} {t : SetTable} (ho : s.heap.get? a = some (setX es ep t)) : s.TypeIs (.ref a) "set" := ⟨_, ho, rfl⟩
theorem call_set_addX {a : Addr} {es es1 : Array (Int × Value)} {ep : Nat} {t t1 : SetTable} {k : Int} {tk : Tok} {Q : Value → Shared → Prop}
    (ho : s.heap.get? a = some (setX es ep t)) (hf : t.fits es.size = true) (hel : ElemsOf (intKind prog w) es.toList) (hb : es.size < scanBound)
    (hno : es.toList.findIdx? (fun e => (intKind prog w).is k e.2) = none) (hL : layNew t es ((intKind prog w).hash k) (.int k tk) = (es1, t1, false, false)) (hfull : t1.tooFull = false)
    (hb1 : es1.size < scanBound) (h : ∀ h', Heap.SameBut a s.heap h' → h'.get? a = some (setX es1 (ep + 1) t1) → Q .none { s with heap := h', toks := s.toks + 1 }) :
    wpAny (model prog w) A (call (.builtin "set.add") [.ref a, .int k tk]) Q E s := by
  refine wpAny_call_entry F.slot_set_add (typeIs_setX ho) F.entry_set_add ?_ (F.args_set_add_2 _ _)
  unfold Builtin.«set.add» Builtin.Frozenset.oneOther
  simp only [List.isEmpty_nil, bind_assoc]
  unfold Builtin.Frozenset.addrOf setAdd
  refine wpAny_bind (wpAny_pure ?_)
  try dsimp only
  refine wpAny_bind (wpAny_pure ?_)
  try dsimp only
  refine wpAny_bind ?_
  refine wpAny_holding ?_
  refine wpAny_bind ((intKind prog w).pyHash (k := k) (intKind_is _ _ _ _) ?_)
  refine setAddX (s := { s with toks := s.toks + 1 }) ho hf hel hb hno hL hfull hb1 fun h' hsb hS' => ?_
  show wpAny _ _ (ret Value.none) _ _ _
  exact wpAny_pure ⟨_, rfl, h h' hsb hS'⟩

theorem wpAny_chooseX {src : Source} {n : Nat} {Q : Nat → Shared → Prop} {M : Model} (hn : n ≠ 0) (h : ∀ i d, i < n → Q i { s with drawn := d }) : wpAny M A (choose src n) Q E s := fun Γ p _ => by
  show n ≠ 0 ∧ _
  exact ⟨hn, h _ _ (Nat.mod_lt _ (Nat.pos_of_ne_zero hn))⟩
theorem setPop1 {a : Addr} {o : Obj} {S : Int → Bool} {k : Int} {Q : Option Value → Shared → Prop} (ho : s.heap.get? a = some o) (hS : o.SetObjOf (intKind prog w) S 1) (hk : S k = true)
    (h : ∀ h' o' tk d, Heap.SameBut a s.heap h' → h'.get? a = some o' → o'.SetObjOf (intKind prog w) (fun _ => false) 0 → Q (some (.int k tk)) { s with heap := h', drawn := d }) :
    wpAny (model prog w) A (setPop a) Q E s := by
  obtain ⟨hex, es, ep, t, hd, hel, hmem, hn, hf⟩ := hS
  obtain ⟨e, he, hke⟩ := (hmem k).mp hk
  obtain ⟨tk, hv⟩ : ∃ tk, e.2 = .int k tk := Value.isInt_shape hke
  have hes : es = #[e] := by
    have hl : es.toList.length = 1 := by rw [Array.length_toList]; exact hn
    obtain ⟨x, hL⟩ := List.length_eq_one_iff.mp hl
    rw [hL] at he
    have : e = x := List.mem_singleton.mp he
    subst this
    exact Array.ext' hL
  subst hes
  have hf' := hf
  simp only [SetTable.fits, Bool.and_eq_true, beq_iff_eq, decide_eq_true_eq] at hf'
  have hp1 : t.place.size = 1 := hf'.1
  unfold setPop
  refine wpAny_bind (wpAny_setState_of ho hd hf ?_)
  dsimp only
  have hpp : t.popPlace = some 0 := by
    unfold SetTable.popPlace
    have : t.place.isEmpty = false := by
      cases h : t.place.isEmpty with
      | false => rfl
      | true => rw [Array.isEmpty_iff] at h; rw [h] at hp1; cases hp1
    rw [this]
    simp only [Bool.false_eq_true, if_false]
    congr 1
    split
    · omega
    · rfl
  rw [hpp]
  dsimp only
  unfold setsByText
  refine wpAny_bind (wpAny_bind (wpAny_askSetting (wpAny_pure ?_)))
  dsimp only
  have fin : ∀ (d : Drawn), wpAny (model prog w) A (match (#[e] : Array (Int × Value))[0]? with | some (_, x) => (do storeSet a (SetTable.eraseAt #[e] 0) (t.popped 0); return some x) | none => (unsupported "internal:set.pop" : Sem (Option Value))) Q E { s with drawn := d } := fun d => by
    have e0 : (#[e] : Array (Int × Value))[0]? = some (e.1, e.2) := rfl
    rw [e0]
    dsimp only
    have hz : SetTable.eraseAt (#[e] : Array (Int × Value)) 0 = #[] := by simp [SetTable.eraseAt]
    rw [hz]
    refine wpAny_bind (wpAny_storeSet_of (s := { s with drawn := d }) ho hd ?_ (by simp))
    refine wpAny_pure ?_
    rw [hv]
    have hpl : t.place[0]? = some (t.place[0]'(by omega)) := Array.getElem?_eq_getElem _
    have i1 : (SetTable.eraseAt t.place 0).size = 0 := by simp [SetTable.eraseAt]; omega
    have i2 : ∀ p x, (SetTable.insertAt t.dummies p x).size = t.dummies.size + 1 := fun p x => by
      have := congrArg List.length (SetTable.toList_insertAt t.dummies p x)
      simp at this
      simp [SetTable.insertAt]; omega
    have q1 : (t.popped 0).place.size = 0 := by unfold SetTable.popped SetTable.drop; rw [hpl]; exact i1
    have q2 : (t.popped 0).dummies.size = t.dummies.size + 1 := by unfold SetTable.popped SetTable.drop; rw [hpl]; exact i2 _ _
    have q3 : (t.popped 0).mask = t.mask := by unfold SetTable.popped SetTable.drop; rw [hpl]
    have hfp : (t.popped 0).fits (#[] : Array (Int × Value)).size = true := by
      have h2 := hf'.2
      unfold SetTable.fill at h2
      unfold SetTable.fits SetTable.fill
      rw [Bool.and_eq_true]
      refine ⟨by rw [q1]; rfl, decide_eq_true ?_⟩
      rw [q1, q2, q3]
      omega
    have st := SetOf_store (knd := intKind prog w) ho hex hd (es' := #[]) (t' := t.popped 0) (S' := fun _ => false) (fun e he => by simp at he) (fun k => by simp) (by decide) hfp
    exact h _ _ _ d (Heap.SameBut.update s.heap a (Obj.putSet #[] (t.popped 0))) st.1 ⟨⟨hex.1, hex.2.1, hex.2.2⟩, #[], ep + 1, t.popped 0, rfl, fun e he => by simp at he, fun k => by simp, rfl, hfp⟩
  split
  · refine wpAny_bind (wpAny_chooseX (by show (1 : Nat) ≠ 0; decide) fun i d hi => ?_)
    have : i = 0 := by have : i < 1 := hi; omega
    subst this
    exact fin d
  · refine wpAny_bind ?_
    show wpAny _ _ (if (!t.led && decide ((1 : Nat) > 1)) = true then unsupported _ else pure ()) _ _ _
    have : (!t.led && decide ((1 : Nat) > 1)) = false := by simp
    rw [this]
    simp only [Bool.false_eq_true, if_false]
    refine wpAny_pure (wpAny_bind (wpAny_pure ?_))
    exact fin s.drawn
end

end
end Mine
/-! P4 -/
namespace Mine
section

section
open PySem.Builtin PySem.Calls PySem.Spec PySem.F
theorem owner_si : Manifest.owners.lookup (String.ofList ['r', 'o', 't', 'a', 'r', 'e', 't', 'i', '_', 't', 'e', 's'].reverse) = some Manifest.sig_set_iterator := by kernel_rfl
theorem slot_si_next : Slot "set_iterator" "__next__" "set_iterator.__next__" :=
  .of (owner := "set_iterator") (n := "__next__") (by rw [typeLookup_type, builtinLookup_eq_fast]; kernel_rfl) (by decide +kernel) (by decide +kernel) (by decide +kernel)
    (by first | exact .inl (by decide +kernel) | exact .inr (by decide +kernel)) (by rw [isSubtype_type]; kernel_rfl)
theorem entry_si_next : entryFor table "set_iterator.__next__" = some Builtin.«set_iterator.__next__» := entryFor_of_tree (by kernel_rfl)
theorem args_si_next_1 (a : Value) : argsOk "set_iterator.__next__" ⟨[a], []⟩ := by
  unfold argsOk; rw [signature?_of (id := "set_iterator.__next__") (n := ['_', '_', 't', 'x', 'e', 'n', '_', '_']) (o := ['r', 'o', 't', 'a', 'r', 'e', 't', 'i', '_', 't', 'e', 's']) (by kernel_rfl) owner_si]; kernel_rfl
theorem slot_si_iter : Slot "set_iterator" "__iter__" "set_iterator.__iter__" :=
  .of (owner := "set_iterator") (n := "__iter__") (by rw [typeLookup_type, builtinLookup_eq_fast]; kernel_rfl) (by decide +kernel) (by decide +kernel) (by decide +kernel)
    (by first | exact .inl (by decide +kernel) | exact .inr (by decide +kernel)) (by rw [isSubtype_type]; kernel_rfl)
theorem args_si_iter_1 (a : Value) : argsOk "set_iterator.__iter__" ⟨[a], []⟩ := by
  unfold argsOk; rw [signature?_of (id := "set_iterator.__iter__") (n := ['_', '_', 'r', 'e', 't', 'i', '_', '_']) (o := ['r', 'o', 't', 'a', 'r', 'e', 't', 'i', '_', 't', 'e', 's']) (by kernel_rfl) owner_si]; kernel_rfl
theorem entry_si_iter : entryFor table "set_iterator.__iter__" = some Builtin.«dict_keyiterator.__iter__» :=
  entryFor_alias (id' := "dict_keyiterator.__iter__") (by kernel_rfl) (by first | rfl | decide +kernel | (unfold String.splitOn; simp +decide [String.splitOnAux])) (by decide +kernel) (by kernel_rfl)
theorem entry_set_iter : entryFor table "set.__iter__" = some Builtin.«frozenset.__iter__» :=
  entryFor_alias (id' := "frozenset.__iter__") (by kernel_rfl) (by first | rfl | decide +kernel | (unfold String.splitOn; simp +decide [String.splitOnAux])) (by decide +kernel) (by kernel_rfl)
variable {prog : Program} {w : World} {A : Around} {E : Value → Shared → Prop} {s : Shared}
noncomputable def siObj (a : Addr) (sl i n ep : Nat) : Obj := { cls := .type "set_iterator", data := .fields #[rawInt sl, rawInt i, .ref a, rawInt n, rawInt ep] }
noncomputable def IsSI (h : Heap) (it a : Addr) (sl i n ep : Nat) : Prop := ∃ o, h.get? it = some o ∧ o.cls = .type "set_iterator" ∧ o.data = .fields #[rawInt sl, rawInt i, .ref a, rawInt n, rawInt ep]
theorem IsSI.typeIs {it a : Addr} {sl i n ep : Nat} (x : IsSI s.heap it a sl i n ep) : s.TypeIs (.ref it) "set_iterator" := let ⟨o, ho, hc, _⟩ := x; ⟨o, ho, hc⟩
theorem IsSI.at {h h' : Heap} {it a : Addr} {sl i n ep : Nat} (x : IsSI h it a sl i n ep) (e : ∀ o, h.get? it = some o → h'.get? it = some o) : IsSI h' it a sl i n ep := let ⟨o, ho, r⟩ := x; ⟨o, e _ ho, r⟩

theorem pyIter_setX {a : Addr} {es : Array (Int × Value)} {ep : Nat} {t : SetTable} {Q : Value → Shared → Prop} (ho : s.heap.get? a = some (setX es ep t)) (hf : t.fits es.size = true) (hpl : t.plain = true)
    (hQ : Q (.ref s.heap.objs.size) { s with heap := s.heap.push (siObj a 0 0 es.size ep) }) : wpAny (model prog w) A (pyIter (.ref a)) Q E s := by
  have hT := typeIs_setX ho
  refine wpAny_pyIter_slot hT F.slot_set_iter (wpAny_call_entry F.slot_set_iter hT entry_set_iter ?_ (F.args_set_iter_1 _))
  unfold Builtin.«frozenset.__iter__» Builtin.Frozenset.slot0 slotArgs
  simp only [List.isEmpty_nil, Bool.not_true, Bool.false_eq_true, ↓reduceIte, bind_assoc, List.length_nil, bne_self_eq_false]
  unfold Builtin.Frozenset.addrOf Builtin.Frozenset.sizeOf
  refine wpAny_bind (wpAny_pure ?_)
  try dsimp only
  refine wpAny_bind (wpAny_pure ?_)
  try dsimp only
  refine wpAny_bind (wpAny_bind (wpAny_setEntries_of ho rfl hf (wpAny_pure ?_)))
  try dsimp only
  unfold setDrawn
  refine wpAny_bind (wpAny_bind (wpAny_setState_of ho rfl hf ?_))
  dsimp only
  unfold setsByText
  refine wpAny_bind (wpAny_bind (wpAny_askSetting (wpAny_pure ?_)))
  dsimp only
  refine wpAny_pure ?_
  show wpAny _ _ (if (!w.params.followText "set-order" && (!t.plain && decide (es.size > 1))) = true then _ else _) _ _ _
  have hd : (!w.params.followText "set-order" && (!t.plain && decide (es.size > 1))) = false := by rw [hpl]; simp
  rw [hd]
  simp only [Bool.false_eq_true, if_false]
  refine wpAny_bind (wpAny_pure ?_)
  refine wpAny_bind (wpAny_setEpoch_of ho rfl hf ?_)
  exact wpAny_bind (wpAny_newObj_type (wpAny_pure ⟨_, rfl, "set_iterator", _, ⟨_, Heap.get?_push_size _ rfl, rfl⟩, slot_si_next.lookup, hQ⟩))

/-- the order in which the world walks a set -/
noncomputable def walkX (w : World) (a : Addr) (ep : Nat) (es : Array (Int × Value)) : Array (Int × Value) := if w.params.followText "set-order" = true then pickOrder (w.params.setOrder a ep) es else es
noncomputable def slotX (w : World) (t : SetTable) (i : Nat) : Nat := if w.params.followText "set-order" = true then 0 else if i = 0 then 0 else t.place.getD (i - 1) 0 + 1
theorem slotX_zero {w : World} {t : SetTable} : slotX w t 0 = 0 := by unfold slotX; split <;> rfl
theorem setNextX {a : Addr} {es : Array (Int × Value)} {ep i : Nat} {t : SetTable} {Q : Option (Value × Nat) → Shared → Prop} (ho : s.heap.get? a = some (setX es ep t)) (hf : t.fits es.size = true) (hpl : t.plain = true) (hled : t.led = ledX w)
    (hbel : ∀ i ≤ es.size, SetTable.below t.place (if i = 0 then 0 else t.place.getD (i - 1) 0 + 1) = i) (hsz : (walkX w a ep es).size = es.size) (hi : i ≤ es.size)
    (h : (∀ e, (walkX w a ep es)[i]? = some e → Q (some (e.2, slotX w t (i + 1))) s) ) (h0 : i = es.size → Q none s) : wpAny (model prog w) A (setNext a (slotX w t i) i ep) Q E s := by
  have hfit := hf
  simp only [SetTable.fits, Bool.and_eq_true, beq_iff_eq, decide_eq_true_eq] at hfit
  unfold setNext
  refine wpAny_bind (wpAny_setState_of ho rfl hf ?_)
  dsimp only
  unfold setsByText
  refine wpAny_bind (wpAny_bind (wpAny_askSetting (wpAny_pure ?_)))
  dsimp only
  by_cases hbt : w.params.followText "set-order" = true
  · have e1 : walkX w a ep es = pickOrder (w.params.setOrder a ep) es := if_pos hbt
    rw [e1] at h hsz
    rw [if_pos (show (model prog w).w.params.followText "set-order" = true from hbt)]
    simp only [bne_self_eq_false, Bool.false_eq_true, if_false]
    unfold setWalk setsByText
    refine wpAny_bind (wpAny_bind (wpAny_setState_of ho rfl hf ?_))
    dsimp only
    refine wpAny_bind (wpAny_bind (wpAny_askSetting (wpAny_pure ?_)))
    dsimp only
    rw [if_pos (show (model prog w).w.params.followText "set-order" = true from hbt)]
    refine wpAny_bind (wpAny_askSetting (wpAny_pure ?_))
    refine wpAny_pure ?_
    have e2 : slotX w t i = slotX w t (i + 1) := by unfold slotX; rw [if_pos hbt, if_pos hbt]
    rw [e2]
    show Q (Option.map (fun e => (e.2, slotX w t (i + 1))) (pickOrder (w.params.setOrder a ep) es)[i]?) s
    cases hx : (pickOrder (w.params.setOrder a ep) es)[i]? with
    | some e => exact h e hx
    | none =>
      refine h0 ?_
      have := Array.getElem?_eq_none_iff.mp hx
      lia
  · have hbf : w.params.followText "set-order" = false := by simpa using hbt
    have e1 : walkX w a ep es = es := if_neg hbt
    rw [e1] at h
    have hl : t.led = true := by rw [hled, ledX, hbf]; rfl
    rw [if_neg (show ¬ (model prog w).w.params.followText "set-order" = true from hbt)]
    show wpAny _ _ (if (!t.plain && decide (es.size > 1)) = true then _ else _) _ _ _
    rw [hpl]
    simp only [Bool.not_true, Bool.false_and, Bool.false_eq_true, if_false]
    show wpAny _ _ ((if (!t.led && !es.isEmpty) = true then unsupported _ else pure ()) >>= _) _ _ _
    rw [hl]
    simp only [Bool.not_true, Bool.false_and, Bool.false_eq_true, if_false]
    refine wpAny_bind (wpAny_pure (wpAny_pure ?_))
    have e2 : slotX w t i = if i = 0 then 0 else t.place.getD (i - 1) 0 + 1 := by unfold slotX; rw [if_neg hbt]
    rw [e2, hbel i hi]
    by_cases hlt : i < es.size
    · have hx : es[i]? = some es[i] := Array.getElem?_eq_getElem hlt
      have hp : t.place[i]? = some (t.place[i]'(by lia)) := Array.getElem?_eq_getElem _
      have e3 : slotX w t (i + 1) = t.place[i]'(by lia) + 1 := by
        unfold slotX
        rw [if_neg hbt, if_neg (by lia)]
        show t.place.getD i 0 + 1 = _
        rw [Array.getD_eq_getD_getElem?, hp]; rfl
      rw [hp]
      have := h es[i] hx
      rw [e3] at this
      rw [hx]
      exact this
    · have hx : es[i]? = none := Array.getElem?_eq_none_iff.mpr (by lia)
      rw [hx]
      exact h0 (by lia)

theorem pyNext_si {it a : Addr} {es : Array (Int × Value)} {ep i : Nat} {t : SetTable} {Q : Option Value → Shared → Prop} (hh : A.handled = none) (hit : IsSI s.heap it a (slotX w t i) i es.size ep) (hne : a ≠ it)
    (ho : s.heap.get? a = some (setX es ep t)) (hf : t.fits es.size = true) (hpl : t.plain = true) (hled : t.led = ledX w)
    (hbel : ∀ i ≤ es.size, SetTable.below t.place (if i = 0 then 0 else t.place.getD (i - 1) 0 + 1) = i) (hsz : (walkX w a ep es).size = es.size) (hi : i ≤ es.size)
    (h1 : ∀ e h', (walkX w a ep es)[i]? = some e → IsSI h' it a (slotX w t (i + 1)) (i + 1) es.size ep → Heap.SameBut it s.heap h' → Q (some e.2) { s with heap := h' })
    (h2 : i = es.size → ∀ h', Heap.ExtBut it s.heap h' → Q none { s with heap := h' }) : wpAny (model prog w) A (pyNext (.ref it)) Q E s := by
  obtain ⟨o, hio, hc, hd⟩ := id hit
  unfold pyNext
  refine wpAny_bind (wpAny_attempt (wpAny_callSpecial?_slot (name := Str.ofString "__next__") hit.typeIs slot_si_next
    (wpAny_call_entry slot_si_next hit.typeIs entry_si_next ?_ (args_si_next_1 _))))
  unfold Builtin.«set_iterator.__next__» slotArgs
  simp (config := { iota := false }) only [List.isEmpty_nil, Bool.not_true, Bool.false_eq_true, ↓reduceIte, bind_assoc, List.length_nil, bne_self_eq_false]
  refine wpAny_bind (wpAny_pure ?_)
  try dsimp only
  refine wpAny_bind (wpAny_fieldsOf hio hd ?_)
  show wpAny _ _ (setEntries a >>= _) _ _ s
  refine wpAny_bind (wpAny_setEntries_of ho rfl hf ?_)
  have e1 : (((es.size : Nat) : Int) != ((es.size : Nat) : Int)) = false := by simp
  show wpAny _ _ (if (((es.size : Nat) : Int) != ((es.size : Nat) : Int)) = true then _ else _) _ _ s
  rw [e1]
  simp only [Bool.false_eq_true, if_false]
  show wpAny _ _ (setNext a (slotX w t i) i ep >>= _) _ _ s
  refine wpAny_bind (setNextX ho hf hpl hled hbel hsz hi (fun e he => ?_) fun he => ?_)
  · dsimp only
    refine wpAny_bind (wpAny_setField hio hd (by simp) ?_)
    have hio2 := Heap.get?_update_self (Obj.mapFields (·.setIfInBounds 0 (rawInt (slotX w t (i + 1))))) hio (Obj.isFreed_of_fields (Obj.data_mapFields hd _))
    have hd2 := Obj.data_mapFields hd (·.setIfInBounds 0 (rawInt (slotX w t (i + 1))))
    refine wpAny_bind (wpAny_setField (s := { s with heap := s.heap.update it (Obj.mapFields (·.setIfInBounds 0 (rawInt (slotX w t (i + 1))))) }) hio2 hd2 (by simp) ?_)
    refine wpAny_pure ⟨e.2, rfl, wpAny_pure (h1 e _ he ?_ ?_)⟩
    · refine ⟨_, Heap.get?_update_self _ hio2 (Obj.isFreed_of_fields (Obj.data_mapFields hd2 _)), ((Obj.cls_mapFields ..).trans (Obj.cls_mapFields ..)).trans hc, ?_⟩
      rw [Obj.data_mapFields hd2]
      simp [rawInt]
    · exact Heap.SameBut.trans (Heap.SameBut.update ..) (Heap.SameBut.update ..)
  · dsimp only
    refine wpAny_bind (wpAny_setField hio hd (by simp) ?_)
    show wpAny _ _ (newExc (.type "StopIteration") [] >>= _) _ _ _
    refine wpAny_bind ?_
    simp only [newExc, newTuple]
    refine wpAny_bind (wpAny_newObj_type ?_ (by size_fits))
    refine wpAny_bind (m := firstArgMember _ _) (wpAny_of_eq (a := Value.none) (by first | rfl | (simp only [firstArgMember]; rfl)) ?_)
    refine wpAny_newObj_type ?_ (by size_fits)
    simp only [raiseNew]
    refine wpAny_bind (wpAny_handled ?_)
    first | rw [show A.in1.handled = none from hh] | rw [hh]
    refine wpAny_bind (wpAny_pure (wpAny_throw ?_))
    refine wpAny_bind (wpAny_isInstance (T := "StopIteration") (b := true) ⟨_, Heap.get?_push_size _ rfl, rfl⟩ isSubtype_stop ?_)
    refine wpAny_pure (h2 he _ ?_)
    exact (((Heap.SameBut.update s.heap it _).extBut).push _).push _
theorem pyIter_si {it a : Addr} {sl i n ep : Nat} {Q : Value → Shared → Prop} (hit : IsSI s.heap it a sl i n ep) (h : Q (.ref it) s) : wpAny (model prog w) A (pyIter (.ref it)) Q E s := by
  refine wpAny_pyIter_slot hit.typeIs slot_si_iter (wpAny_call_entry slot_si_iter hit.typeIs entry_si_iter ?_ (args_si_iter_1 _))
  show wpAny _ _ (ret (.ref it)) _ _ s
  exact wpAny_pure ⟨_, rfl, "set_iterator", _, hit.typeIs, slot_si_next.lookup, h⟩
theorem walks_setX (hh : A.handled = none) (I a : Addr) (hne : a ≠ I) (es : Array (Int × Value)) (ep : Nat) (t : SetTable) (hf : t.fits es.size = true) (hpl : t.plain = true) (hled : t.led = ledX w)
    (hbel : ∀ i ≤ es.size, SetTable.below t.place (if i = 0 then 0 else t.place.getD (i - 1) 0 + 1) = i) (hsz : (walkX w a ep es).size = es.size) :
    Walks prog w A I [I, a] [I] es.size (fun i v => ∃ e, (walkX w a ep es)[i]? = some e ∧ e.2 = v) (fun i h => i ≤ es.size ∧ IsSI h I a (slotX w t i) i es.size ep ∧ h.get? a = some (setX es ep t)) where
  sub := fun b hb => by simp at hb; simp [hb]
  frame := fun _ _ _ x hk => ⟨x.1, x.2.1.at fun o e => hk I (by simp) o e, hk a (by simp) _ x.2.2⟩
  item := fun i s Q E hi x hQ => pyNext_si hh x.2.1 hne x.2.2 hf hpl hled hbel hsz x.1
    (fun e h' he hit hs => hQ e.2 h' s.toks ⟨e, he, rfl⟩ ⟨hi, hit, (hs.2 a hne).trans x.2.2⟩ fun b o hb eo => hs.extBut b o (fun h => hb (by simp [h])) eo) (fun he => absurd he (Nat.ne_of_lt hi))
  done := fun s Q E x hQ => pyNext_si hh x.2.1 hne x.2.2 hf hpl hled hbel hsz x.1
    (fun e h' he _ _ => by
      have := Array.getElem?_eq_none_iff.mpr (Nat.le_of_eq hsz)
      rw [this] at he; cases he) (fun _ h' he' => hQ h' s.toks fun b o hb eo => he' b o (fun h => hb (by simp [h])) eo)
  self := fun _ _ _ _ x hQ => pyIter_si x.2.1 hQ
theorem hint_set {r : Addr} {Q : Bool → Shared → Prop} (hT : s.TypeIs (.ref r) "set") (h : Q false s) : wpAny (model prog w) A (Builtin.List.listLengthHint (.ref r)) Q E s := by
  unfold Builtin.List.listLengthHint
  refine wpAny_bind (wpAny_specialOf hT PySem.F.slot_set_len.lookup ?_)
  generalize hid : ("set.__len__" : String) = id0
  wp_delta
  rw [show splitId id0 = some ("set", "__len__") from by subst hid; decide +kernel]
  subst hid
  refine wpAny_bind (wpAny_isInstance (T := "set") (b := true) hT (by rw [isSubtype_type]; kernel_rfl) ?_)
  refine wpAny_ite_split (fun hab => absurd hab (by decide)) (fun _ => ?_)
  refine wpAny_ite_split (fun _ => ?_) (fun hab => absurd (by decide +kernel) hab)
  refine wpAny_bind (wpAny_typeOf hT ?_)
  exact wpAny_pure h
theorem src_setX {a : Addr} {es : Array (Int × Value)} {ep : Nat} {t : SetTable} (hf : t.fits es.size = true) (hpl : t.plain = true) (hled : t.led = ledX w)
    (hbel : ∀ i ≤ es.size, SetTable.below t.place (if i = 0 then 0 else t.place.getD (i - 1) 0 + 1) = i) (hsz : (walkX w a ep es).size = es.size) :
    KdlSrc prog w "set" a a es.size (fun i v => ∃ e, (walkX w a ep es)[i]? = some e ∧ e.2 = v) (fun h => h.get? a = some (setX es ep t)) where
  type := fun _ ho => typeIs_setX ho
  there := fun _ ho => ⟨Heap.lt_size ho, Heap.lt_size ho⟩
  keep := fun _ _ ho hk => hk a (.inl rfl) _ ho
  notList := by decide
  notTuple := by decide
  hint := fun _ _ _ _ ho hq => hint_set (typeIs_setX ho) hq
  iter := fun A s hh ho => ⟨_, _, (fun _ _ hq => pyIter_setX ho hf hpl hq), walks_setX hh _ a (Nat.ne_of_lt (Heap.lt_size ho)) es ep t hf hpl hled hbel hsz,
    ⟨Nat.zero_le _, ⟨_, Heap.get?_push_size _ rfl, rfl, by rw [slotX_zero]; rfl⟩, Heap.get?_push_of_some _ ho⟩⟩
end

end
end Mine
/-! P5 -/
namespace Mine
section

section
open PySem.Builtin PySem.Calls PySem.Spec PySem.F
theorem cons_eraseIdx_perm {α : Type} : ∀ (l : List α) (i : Nat) (h : i < l.length), ([l[i]] ++ l.eraseIdx i).Perm l
  | x :: r, 0, _ => List.Perm.refl _
  | x :: r, i + 1, h => by
    have h' : i < r.length := Nat.lt_of_succ_lt_succ h
    show (r[i] :: x :: r.eraseIdx i).Perm (x :: r)
    exact (List.Perm.swap _ _ _).trans (List.Perm.cons _ (cons_eraseIdx_perm r i h'))
theorem pickGo_perm {α : Type} (f : Nat → Nat) : ∀ (n k : Nat) (left : List α) (out : Array α), left.length = n → (pickOrder.go f n k left out).toList.Perm (out.toList ++ left)
  | 0, k, left, out, h => by
    have : left = [] := List.eq_nil_of_length_eq_zero h
    subst this
    rw [List.append_nil]
    exact List.Perm.refl _
  | n + 1, k, left, out, h => by
    unfold pickOrder.go
    have hlt : f k % left.length < left.length := Nat.mod_lt _ (by lia)
    rw [List.getElem?_eq_getElem hlt]
    dsimp only
    refine (pickGo_perm f n (k + 1) _ _ (by rw [List.length_eraseIdx_of_lt hlt]; lia)).trans ?_
    rw [Array.toList_push, List.append_assoc]
    refine List.Perm.append_left _ ?_
    exact cons_eraseIdx_perm left _ hlt
theorem pickOrder_perm {α : Type} (f : Nat → Nat) (xs : Array α) : (pickOrder f xs).toList.Perm xs.toList := by
  have := pickGo_perm f xs.size 0 xs.toList #[] (by simp)
  unfold pickOrder
  simpa using this
theorem walkX_perm (w : World) (a : Addr) (ep : Nat) (es : Array (Int × Value)) : (walkX w a ep es).toList.Perm es.toList := by
  unfold walkX
  split
  · exact pickOrder_perm _ _
  · exact List.Perm.refl _
theorem nums_perm {l l' : List Value} (h : ∀ v ∈ l, ∃ n t, v = Value.int n t) (p : l'.Perm l) : (lks_nums l').Perm (lks_nums l) ∧ kf_ints l' = true := by
  have all : ∀ {l : List Value}, (∀ v ∈ l, ∃ n t, v = Value.int n t) → lks_nums l = l.map (fun v => match v with | .int n _ => n | _ => 0) ∧ kf_ints l = true := by
    intro l
    induction l with
    | nil => intro _; exact ⟨rfl, rfl⟩
    | cons v r ih =>
      intro h
      obtain ⟨n, t, rfl⟩ := h v (.head _)
      have := ih fun v hv => h v (.tail _ hv)
      exact ⟨by show n :: lks_nums r = _; rw [this.1]; rfl, this.2⟩
  have h' : ∀ v ∈ l', ∃ n t, v = Value.int n t := fun v hv => h v (p.mem_iff.mp hv)
  rw [(all h).1, (all h').1]
  exact ⟨p.map _, (all h').2⟩
variable {prog : Program} {w : World} {A : Around} {E : Value → Shared → Prop} {s : Shared}
theorem sorted_setX {h₀ : Heap} {L a : Addr} {m : PySem.Str → Option Value} {news : List (Addr × Obj)} {es : Array (Int × Value)} {ep : Nat} {t : SetTable} {q : List Int} {Q : Value → Shared → Prop} (hh : A.handled = none) (F : Fr h₀ L s.heap m) (N : News h₀ L s.heap news)
    (hm : (a, setX es ep t) ∈ news) (hf : t.fits es.size = true) (hpl : t.plain = true) (hled : t.led = ledX w)
    (hbel : ∀ i ≤ es.size, SetTable.below t.place (if i = 0 then 0 else t.place.getD (i - 1) 0 + 1) = i) (hints : ∀ v ∈ es.toList.map (·.2), ∃ n t, v = Value.int n t) (hq : (lks_nums (es.toList.map (·.2))).Perm q) (hasc : lks_asc q = true) (hn : 0 < es.size) (hn2 : es.size < 64)
    (h : ∀ D h' tk' t', Fr h₀ L h' m → News h₀ L h' ((D, W.listOf (lks_vals q 0 t').toArray 2) :: news) → (∀ p ∈ news, p.1 < D) → Q (.ref D) { s with heap := h', toks := tk' }) :
    wpAny (model prog w) A (call (.builtin "sorted") [.ref a]) Q E s := by
  have hsz : (walkX w a ep es).size = es.size := by
    have := (walkX_perm w a ep es).length_eq
    simpa using this
  refine kdu_sorted (src_setX hf hpl hled hbel hsz) hh F N (N _ hm).1 (by rw [PySem.sizeLine_eq]; lia) fun D h' tk vs F' N' hlt hlen hvs => ?_
  have evs : vs = (walkX w a ep es).toList.map (·.2) := by
    refine List.ext_getElem? fun j => ?_
    by_cases hj : j < vs.length
    · obtain ⟨e, he, hv⟩ := hvs j vs[j] (List.getElem?_eq_getElem hj)
      rw [List.getElem?_eq_getElem hj, List.getElem?_map, Array.getElem?_toList, he]
      exact congrArg some hv.symm
    · rw [List.getElem?_eq_none (Nat.le_of_not_lt hj), List.getElem?_eq_none]
      rw [List.length_map, Array.length_toList, hsz]; lia
  have hp : vs.Perm (es.toList.map (·.2)) := evs ▸ (walkX_perm w a ep es).map _
  obtain ⟨p1, p2⟩ := nums_perm hints hp
  refine lks_sort (q := q) (n := 0) (its := vs.toArray) F' N' (fun t' => Upd.head (fun p hp => Nat.ne_of_lt (hlt p hp))) p2 ?_ ?_ (by show vs.length < 64; lia) fun t' h2 F2 N2 => h D h2 tk t' F2 N2 hlt
  · show ((lks_nums vs).isPerm q && lks_asc q) = true
    rw [hasc, Bool.and_true, List.isPerm_iff]
    exact p1.trans hq
  · show vs.isEmpty = false
    cases vs with
    | nil => simp at hlen; lia
    | cons v r => rfl
end

end
end Mine
/-! P6 -/
namespace Mine
section

section
open PySem.Builtin PySem.Calls PySem.Spec PySem.F
variable {prog : Program} {w : World} {A : Around} {E : Value → Shared → Prop} {s : Shared} {h₀ : Heap} {L sa : Addr} {m : PySem.Str → Option Value} {news : List (Addr × Obj)} {g : Obj → List (Addr × Obj)} {so : Obj}
theorem code_setnewX {Q₁ : Value → Shared → Prop} (h : Q₁ (.ref s.heap.objs.size) { s with heap := s.heap.push (setX #[] 0 (.fresh 0 0 (ledX w))) }) :
    codeAny (model prog w) A (.call (.builtin "set.__new__") ⟨[.type "set"], []⟩) (wants Q₁ E) s := by
  refine codeAny_of_tree ?_
  show wpAny _ A.in1 (do checkBuiltinCall "set.__new__" ⟨[.type "set"], []⟩; again (.builtin "set.__new__" ⟨[.type "set"], []⟩)) _ _ s
  refine wpAny_bind (wpAny_of_eq F.newCall_set_0 (wpAny_pure ⟨plainId_quiet F.plain_set_new _, codeAny_builtin F.entry_set_new ?_⟩))
  rw [Around.under_plainId F.plain_set_new _]
  unfold Builtin.«set.__new__» Builtin.Frozenset.newClass
  have hsub := sub_set_self
  obtain ⟨hp, g, d, tk, os⟩ := s
  dsimp only
  wp_walk
  refine wpAny_askSetting (wpAny_pure ?_)
  dsimp only
  simp only [newObj]
  refine wpAny_bind (wpAny_alloc (wpAny_pure ?_))
  exact wpAny_pure h
theorem call_setX {Q : Value → Shared → Prop} (h : Q (.ref s.heap.objs.size) { s with heap := s.heap.push (setX #[] 0 (.fresh 0 0 (ledX w))) }) :
    wpAny (model prog w) A (call (.type "set") []) Q E s := by
  obtain ⟨c, tl, hmro⟩ := F.called_set.mro
  have hmade := F.called_set.made
  have hsub := F.called_set.sub
  refine wpAny_call (codeAny_of_tree ?_)
  show wpAny _ _ (callAny (.type "set") _) _ _ _
  refine wpAny_pure ⟨Code.quiet_builtin _ (by decide +kernel), codeAny_builtin F.entry_type_call ?_⟩
  rw [Around.under_plain (weight_type_call_type "set" [] []) rfl]
  have h1 := F.called_set.notType
  have h2 := F.called_set.canCreate
  have hct := F.typeCall_set_0
  repeat (any_goals (first | assumption | wp_step))
  refine codeAny_mono (code_setnewX (E := E) (Q₁ := fun obj s₁ => obj = .ref s.heap.objs.size ∧ s₁ = { s with heap := s.heap.push (setX #[] 0 (.fresh 0 0 (ledX w))) }) ⟨rfl, rfl⟩) fun r s₁ hr => ?_
  cases r with
  | error e => exact hr
  | ok fl =>
    cases fl with
    | ret obj =>
      obtain ⟨rfl, rfl⟩ := hr
      have hS : (s.heap.push (setX #[] 0 (.fresh 0 0 (ledX w)))).get? s.heap.objs.size = some (setX #[] 0 (.fresh 0 0 (ledX w))) := Heap.get?_push_size _ rfl
      have hT : Shared.TypeIs { s with heap := s.heap.push (setX #[] 0 (.fresh 0 0 (ledX w))) } (.ref s.heap.objs.size) "set" := ⟨_, hS, rfl⟩
      have hli := F.called_set.init.lookup
      have hbi := F.called_set.init.bind (.ref s.heap.objs.size)
      repeat (any_goals (first | assumption | wp_step))
      refine codeAny_mono (codeAny_call_builtin (R := wants (fun r s₂ => r = .none ∧ Q (.ref s.heap.objs.size) s₂) E) F.called_set.init.plain F.entry_set_init (check_set_init hT ?_)) fun r₂ s₂ hr₂ => ?_
      · unfold Builtin.«set.__init__» noKeywords
        wp_walk
        exact ⟨rfl, h⟩
      · cases r₂ with
        | error e => exact hr₂
        | ok fl₂ =>
          cases fl₂ with
          | ret r =>
            obtain ⟨rfl, hq⟩ := hr₂
            repeat (any_goals (first | assumption | wp_step))
          | _ => exact hr₂.elim
    | _ => exact hr.elim
theorem kx_new {Q : Value → Shared → Prop} (F : Fr h₀ L s.heap m) (N : News h₀ L s.heap news)
    (h : ∀ D h', Fr h₀ L h' m → News h₀ L h' ((D, setX #[] 0 (.fresh 0 0 (ledX w))) :: news) → (∀ p ∈ news, p.1 < D) →
      Obj.SetObjOf (PySem.intKind prog w) (setX #[] 0 (.fresh 0 0 (ledX w))) (fun _ => false) 0 → Q (.ref D) { s with heap := h' }) :
    wpAny (model prog w) A (call (.type "set") []) Q E s :=
  call_setX (h _ _ (F.push _) (N.push F _) (fun p hp => Heap.lt_size (N p hp).1) (setObjOf_fresh (knd := PySem.intKind prog w) _))
/-- a table of four places at most, in order -/
noncomputable abbrev tabX (w : World) (pl : Array Nat) : SetTable := { mask := 7, place := pl, dummies := #[], finger := 0, led := ledX w, moves := 0, plain := true }
noncomputable def intB1 (p : Int × Value) : Bool := match p.2 with
  | .int n _ => p.1 == hashInt n
  | _ => false
noncomputable def intsB (l : List (Int × Value)) : Bool := l.all intB1
theorem intsB_elems {l : List (Int × Value)} (hl : intsB l = true) : ElemsOf (intKind prog w) l := by
  intro e he
  have h := List.all_eq_true.mp hl e he
  obtain ⟨k, v⟩ := e
  cases v with
  | int n t => exact ⟨⟨n, intKind_is _ _ _ _, eq_of_beq h⟩, rfl⟩
  | _ => exact Bool.noConfusion h
theorem kx_add {es es1 : Array (Int × Value)} {ep : Nat} {t t1 : SetTable} {k : Int} {tk : Tok} {Q : Value → Shared → Prop} (F : Fr h₀ L s.heap m) (N : News h₀ L s.heap news) (U : UpdF sa (setX es ep t) news g)
    (hf : t.fits es.size = true) (hel : intsB es.toList = true) (hb : es.size < 64) (hno : es.toList.findIdx? (fun e => (intKind prog w).is k e.2) = none)
    (hL : layNew t es (hashInt k) (.int k tk) = (es1, t1, false, false)) (hfull : t1.tooFull = false) (hb1 : es1.size < 64)
    (h : ∀ h', Fr h₀ L h' m → News h₀ L h' (g (setX es1 (ep + 1) t1)) → Q .none { s with heap := h', toks := s.toks + 1 }) :
    wpAny (model prog w) A (call (.builtin "set.add") [.ref sa, .int k tk]) Q E s := by
  obtain ⟨pre, post, rfl, hg, a, b⟩ := U.split
  have hm := N (sa, setX es ep t) (List.mem_append_right _ (.head _))
  refine call_set_addX hm.1 hf (intsB_elems hel) (by unfold scanBound; lia) hno hL hfull (by unfold scanBound; lia) fun h' hs hg' => ?_
  refine h h' (F.change hs hm.2.1 hm.2.2) ?_
  rw [hg]
  exact N.setAt a b hs hg'
theorem kx_add8 {ep : Nat} {tk : Tok} {Q : Value → Shared → Prop} (F : Fr h₀ L s.heap m) (N : News h₀ L s.heap news) (U : UpdF sa (setX #[] ep (tabX w #[])) news g)
    (h : ∀ h', Fr h₀ L h' m → News h₀ L h' (g (setX #[(8, .int 8 tk)] (ep + 1) (tabX w #[0]))) → Q .none { s with heap := h', toks := s.toks + 1 }) :
    wpAny (model prog w) A (call (.builtin "set.add") [.ref sa, .int 8 tk]) Q E s :=
  kx_add F N U (by rfl) (by rfl) (by exact Nat.le_of_ble_eq_true rfl) (by rfl) (by kernel_rfl) (by rfl) (by exact Nat.le_of_ble_eq_true rfl) h
theorem kx_add4 {ep : Nat} {t8 tk : Tok} {Q : Value → Shared → Prop} (F : Fr h₀ L s.heap m) (N : News h₀ L s.heap news) (U : UpdF sa (setX #[(8, .int 8 t8)] ep (tabX w #[0])) news g)
    (h : ∀ h', Fr h₀ L h' m → News h₀ L h' (g (setX #[(8, .int 8 t8), (4, .int 4 tk)] (ep + 1) (tabX w #[0, 4]))) → Q .none { s with heap := h', toks := s.toks + 1 }) :
    wpAny (model prog w) A (call (.builtin "set.add") [.ref sa, .int 4 tk]) Q E s :=
  kx_add F N U (by rfl) (by rfl) (by exact Nat.le_of_ble_eq_true rfl) (by rfl) (by kernel_rfl) (by rfl) (by exact Nat.le_of_ble_eq_true rfl) h
theorem kx_add2 {ep : Nat} {t8 t4 tk : Tok} {Q : Value → Shared → Prop} (F : Fr h₀ L s.heap m) (N : News h₀ L s.heap news) (U : UpdF sa (setX #[(8, .int 8 t8), (4, .int 4 t4)] ep (tabX w #[0, 4])) news g)
    (h : ∀ h', Fr h₀ L h' m → News h₀ L h' (g (setX #[(8, .int 8 t8), (2, .int 2 tk), (4, .int 4 t4)] (ep + 1) (tabX w #[0, 2, 4]))) → Q .none { s with heap := h', toks := s.toks + 1 }) :
    wpAny (model prog w) A (call (.builtin "set.add") [.ref sa, .int 2 tk]) Q E s :=
  kx_add F N U (by rfl) (by rfl) (by exact Nat.le_of_ble_eq_true rfl) (by rfl) (by kernel_rfl) (by rfl) (by exact Nat.le_of_ble_eq_true rfl) h
theorem kx_add1 {ep : Nat} {t8 t2 t4 tk : Tok} {Q : Value → Shared → Prop} (F : Fr h₀ L s.heap m) (N : News h₀ L s.heap news) (U : UpdF sa (setX #[(8, .int 8 t8), (2, .int 2 t2), (4, .int 4 t4)] ep (tabX w #[0, 2, 4])) news g)
    (h : ∀ h', Fr h₀ L h' m → News h₀ L h' (g (setX #[(8, .int 8 t8), (1, .int 1 tk), (2, .int 2 t2), (4, .int 4 t4)] (ep + 1) (tabX w #[0, 1, 2, 4]))) → Q .none { s with heap := h', toks := s.toks + 1 }) :
    wpAny (model prog w) A (call (.builtin "set.add") [.ref sa, .int 1 tk]) Q E s :=
  kx_add F N U (by rfl) (by rfl) (by exact Nat.le_of_ble_eq_true rfl) (by rfl) (by kernel_rfl) (by rfl) (by exact Nat.le_of_ble_eq_true rfl) h
theorem kx_pop {S : Int → Bool} {k : Int} {Q : Value → Shared → Prop} (F : Fr h₀ L s.heap m) (N : News h₀ L s.heap news) (U : UpdF sa so news g) (hso : so.SetObjOf (PySem.intKind prog w) S 1) (hk : S k = true)
    (h : ∀ h' so' tk d, Fr h₀ L h' m → News h₀ L h' (g so') → so'.SetObjOf (PySem.intKind prog w) (fun _ => false) 0 → Q (.int k tk) { s with heap := h', drawn := d }) :
    wpAny (model prog w) A (call (.builtin "set.pop") [.ref sa]) Q E s := by
  obtain ⟨pre, post, rfl, hg, a, b⟩ := U.split
  have hm := N (sa, so) (List.mem_append_right _ (.head _))
  refine wpAny_call_entry PySem.F.slot_set_pop ⟨_, hm.1, hso.1.1⟩ PySem.F.entry_set_pop ?_ (PySem.F.args_set_pop_1 _)
  unfold Builtin.«set.pop» Builtin.Frozenset.noArgs
  simp only [List.isEmpty_nil, bind_assoc]
  unfold Builtin.Frozenset.addrOf
  refine wpAny_bind (wpAny_pure ?_)
  try dsimp only
  try refine wpAny_bind (wpAny_pure ?_)
  try dsimp only
  refine wpAny_bind (setPop1 hm.1 hso hk fun h' o' tk d hs ho' hS' => ?_)
  dsimp only
  refine wpAny_pure ⟨_, rfl, h h' o' tk d (F.change hs hm.2.1 hm.2.2) ?_ hS'⟩
  rw [hg]
  exact N.setAt a b hs ho'
theorem kx_method {S : Int → Bool} {n : Nat} {pl : Sem Bool} {Q : Value × List Value → Shared → Prop} (N : News h₀ L s.heap news) (U : UpdF sa so news g) (hso : so.SetObjOf (PySem.intKind prog w) S n) (h : Q (.builtin "set.pop", [.ref sa]) s) :
    wpAny (model prog w) A (getMethod (.ref sa) "pop" pl) Q E s := by
  obtain ⟨pre, post, rfl, hg, a, b⟩ := U.split
  have hm := N (sa, so) (List.mem_append_right _ (.head _))
  exact getMethod_builtin ⟨_, hm.1, hso.1.1⟩ F.plainAttrs_set F.slot_set_pop F.type_set_pop (fun b e => by cases e; exact ⟨_, hm.1, hso.1.2.1⟩) h
theorem kx_methodX {es : Array (Int × Value)} {ep : Nat} {t : SetTable} {pl : Sem Bool} {Q : Value × List Value → Shared → Prop} (N : News h₀ L s.heap news) (hm : (sa, setX es ep t) ∈ news) (h : Q (.builtin "set.add", [.ref sa]) s) :
    wpAny (model prog w) A (getMethod (.ref sa) "add" pl) Q E s :=
  getMethod_builtin ⟨_, (N _ hm).1, rfl⟩ F.plainAttrs_set F.slot_set_add F.type_set_add (fun b e => by cases e; exact ⟨_, (N _ hm).1, rfl⟩) h
theorem noBool_setX : typeLookup (.type "set") (Str.ofString "__bool__") = pure none := by rw [typeLookup_type, builtinLookup_eq_fast]; kernel_rfl
theorem kx_truthy {S : Int → Bool} {n : Nat} {Q : Bool → Shared → Prop} (N : News h₀ L s.heap news) (U : UpdF sa so news g) (hso : so.SetObjOf (PySem.intKind prog w) S n) (hn : n < 64)
    (h : Q (decide (n ≠ 0)) { s with toks := s.toks + 1 + 1 }) : wpAny (model prog w) A (truthy (.ref sa)) Q E s := by
  obtain ⟨pre, post, rfl, hg, a, b⟩ := U.split
  have hm := N (sa, so) (List.mem_append_right _ (.head _))
  obtain ⟨hex, es, ep, t, hd, hel, hmem, hsz, hf⟩ := hso
  have hT : s.TypeIs (.ref sa) "set" := ⟨_, hm.1, hex.1⟩
  have hne : ((es.size : Int) != 0) = decide (n ≠ 0) := by
    rw [hsz]
    by_cases h0 : n = 0
    · subst h0; rfl
    · have h1 : (((n : Nat) : Int) != 0) = true := bne_iff_ne.mpr (by lia)
      rw [h1, decide_eq_true h0]
  have key : wpAny (model prog w) A (runValue (.builtin "len" ⟨[.ref sa], []⟩)) (fun r s' => r = .int es.size (s.toks + 1) ∧ Q (decide (n ≠ 0)) s') E s := by
    refine wpAny_runValue (codeAny_builtin entry_len ?_)
    rw [Around.under_plainId plain_len _]
    exact wpAny_mono (wpAny_len_body_set (Q := fun r s' => r = .int es.size (s.toks + 1) ∧ Q (decide (n ≠ 0)) s') hm.1 hex hd hf (by lia) ⟨rfl, h⟩)
      (fun fin s' h' => by obtain ⟨r, rfl, hq⟩ := h'; exact hq) fun _ _ e => e
  unfold truthy
  first
    | refine wpAny_bind (wpAny_callSpecial?_none (name := Str.ofString "__bool__") hT noBool_setX ?_)
    | refine wpAny_bind (wpAny_pure (wpAny_bind (wpAny_callSpecial?_none (name := Str.ofString "__bool__") hT noBool_setX ?_)))
  first
    | refine wpAny_bind (wpAny_specialOf (name := Str.ofString "__len__") hT F.slot_set_len.lookup ?_)
    | refine wpAny_bind (wpAny_pure (wpAny_bind (wpAny_specialOf (name := Str.ofString "__len__") hT F.slot_set_len.lookup ?_)))
  first
    | exact wpAny_bind (wpAny_mono key (fun r s' h' => by obtain ⟨rfl, hq⟩ := h'; exact wpAny_pure (hne ▸ hq)) fun _ _ e => e)
    | exact wpAny_bind (wpAny_pure (wpAny_bind (wpAny_mono key (fun r s' h' => by obtain ⟨rfl, hq⟩ := h'; exact wpAny_pure (hne ▸ hq)) fun _ _ e => e)))
theorem kx_truthyX {es : Array (Int × Value)} {ep : Nat} {t : SetTable} {Q : Bool → Shared → Prop} (N : News h₀ L s.heap news) (hm' : (sa, setX es ep t) ∈ news) (hf : t.fits es.size = true) (hn : es.size < 64)
    (h : Q (decide (es.size ≠ 0)) { s with toks := s.toks + 1 + 1 }) : wpAny (model prog w) A (truthy (.ref sa)) Q E s := by
  have hm := N _ hm'
  have hT : s.TypeIs (.ref sa) "set" := ⟨_, hm.1, rfl⟩
  have hne : ((es.size : Int) != 0) = decide (es.size ≠ 0) := by
    by_cases h0 : es.size = 0
    · rw [h0]; rfl
    · have h1 : (((es.size : Nat) : Int) != 0) = true := bne_iff_ne.mpr (by lia)
      rw [h1, decide_eq_true h0]
  have key : wpAny (model prog w) A (runValue (.builtin "len" ⟨[.ref sa], []⟩)) (fun r s' => r = .int es.size (s.toks + 1) ∧ Q (decide (es.size ≠ 0)) s') E s := by
    refine wpAny_runValue (codeAny_builtin entry_len ?_)
    rw [Around.under_plainId plain_len _]
    exact wpAny_mono (wpAny_len_body_set (Q := fun r s' => r = .int es.size (s.toks + 1) ∧ Q (decide (es.size ≠ 0)) s') hm.1 ⟨rfl, rfl, rfl⟩ rfl hf (by lia) ⟨rfl, h⟩)
      (fun fin s' h' => by obtain ⟨r, rfl, hq⟩ := h'; exact hq) fun _ _ e => e
  unfold truthy
  first
    | refine wpAny_bind (wpAny_callSpecial?_none (name := Str.ofString "__bool__") hT noBool_setX ?_)
    | refine wpAny_bind (wpAny_pure (wpAny_bind (wpAny_callSpecial?_none (name := Str.ofString "__bool__") hT noBool_setX ?_)))
  first
    | refine wpAny_bind (wpAny_specialOf (name := Str.ofString "__len__") hT F.slot_set_len.lookup ?_)
    | refine wpAny_bind (wpAny_pure (wpAny_bind (wpAny_specialOf (name := Str.ofString "__len__") hT F.slot_set_len.lookup ?_)))
  first
    | exact wpAny_bind (wpAny_mono key (fun r s' h' => by obtain ⟨rfl, hq⟩ := h'; exact wpAny_pure (hne ▸ hq)) fun _ _ e => e)
    | exact wpAny_bind (wpAny_pure (wpAny_bind (wpAny_mono key (fun r s' h' => by obtain ⟨rfl, hq⟩ := h'; exact wpAny_pure (hne ▸ hq)) fun _ _ e => e)))
end

end
end Mine
/-! P6b -/
namespace Mine
section

section
open PySem.Builtin PySem.Calls PySem.Spec PySem.F
variable {w : World} {prog : Program} {A : Around} {E : Value → Shared → Prop} {s : Shared} {h₀ : Heap} {L sa : Addr} {m : PySem.Str → Option Value} {news : List (Addr × Obj)}
noncomputable abbrev need4 (t8 t1 t2 t4 : Tok) : Array (Int × Value) := #[(8, .int 8 t8), (1, .int 1 t1), (2, .int 2 t2), (4, .int 4 t4)]
theorem kx_truthy4 {t8 t1 t2 t4 : Tok} {ep : Nat} {Q : Bool → Shared → Prop} (N : News h₀ L s.heap news) (hm' : (sa, setX (need4 t8 t1 t2 t4) ep (tabX w #[0, 1, 2, 4])) ∈ news)
    (h : Q true { s with toks := s.toks + 1 + 1 }) : wpAny (model prog w) A (truthy (.ref sa)) Q E s :=
  kx_truthyX (es := need4 t8 t1 t2 t4) N hm' rfl (Nat.le_of_ble_eq_true rfl) h
theorem kx_sorted4 {t8 t1 t2 t4 : Tok} {ep : Nat} {Q : Value → Shared → Prop} (hh : A.handled = none) (F : Fr h₀ L s.heap m) (N : News h₀ L s.heap news) (hm : (sa, setX (need4 t8 t1 t2 t4) ep (tabX w #[0, 1, 2, 4])) ∈ news)
    (h : ∀ D h' tk' t1 t2 t3 t4, Fr h₀ L h' m → News h₀ L h' ((D, W.listOf #[.int 1 t1, .int 2 t2, .int 4 t3, .int 8 t4] 2) :: news) → (∀ p ∈ news, p.1 < D) → Q (.ref D) { s with heap := h', toks := tk' }) :
    wpAny (model prog w) A (call (.builtin "sorted") [.ref sa]) Q E s := by
  refine sorted_setX (q := [1, 2, 4, 8]) hh F N hm rfl rfl rfl ?_ ?_ ?_ rfl (Nat.le_of_ble_eq_true rfl) (Nat.le_of_ble_eq_true rfl) fun D h' tk' t' F' N' l => ?_
  · intro i hi
    match i, hi with
    | 0, _ => show SetTable.below #[0, 1, 2, 4] 0 = 0; decide +kernel
    | 1, _ => show SetTable.below #[0, 1, 2, 4] 1 = 1; decide +kernel
    | 2, _ => show SetTable.below #[0, 1, 2, 4] 2 = 2; decide +kernel
    | 3, _ => show SetTable.below #[0, 1, 2, 4] 3 = 3; decide +kernel
    | 4, _ => show SetTable.below #[0, 1, 2, 4] 5 = 4; decide +kernel
    | n + 5, hi => exact absurd hi (by simp [need4])
  · intro v hv
    simp only [need4, List.map_cons, List.map_nil, List.mem_cons, List.not_mem_nil, or_false] at hv
    rcases hv with rfl | rfl | rfl | rfl <;> exact ⟨_, _, rfl⟩
  · show List.Perm [8, 1, 2, 4] [1, 2, 4, 8]
    decide
  · exact h D h' tk' _ _ _ _ F' N' l
end

end
end Mine
/-! P7 -/
namespace Mine
section

section
open PyProof.V PySem.Spec PySem.Calls
variable {prog : Program} {w : World} {A : Around} {E : Value → Shared → Prop} {s : Shared} {h₀ : Heap} {L I l : Addr} {m : PySem.Str → Option Value} {news : List (Addr × Obj)} {g : Obj → List (Addr × Obj)}
/-- an iterator over a list, i items drawn -/
noncomputable def litO (l : Addr) (i : Nat) : Obj := { cls := .type "list_iterator", data := .fields #[.ref l, .int i 0] }
theorem kx_iterL {items : Array Value} {Q : Value → Shared → Prop} (F : Fr h₀ L s.heap m) (N : News h₀ L s.heap news) (hl : s.heap.IsList l items)
    (h : ∀ D h', Fr h₀ L h' m → News h₀ L h' ((D, litO l 0) :: news) → (∀ p ∈ news, p.1 < D) → Q (.ref D) { s with heap := h' }) :
    wpAny (model prog w) A (call (.builtin "iter") [.ref l]) Q E s := by
  refine call_function_entry (by decide +kernel) (by decide +kernel) kdk_entry_iter (kdk_args_iter _) ?_
  unfold Builtin.«iter»
  refine wpAny_bind (m := someArgs "iter" 1 2 _) (wpAny_of_eq (a := [Value.ref l]) (by first | rfl | kernel_rfl!) ?_)
  show wpAny _ _ (pyIter (.ref l) >>= _) _ _ _
  refine wpAny_bind (wpAny_pyIter_list hl ?_)
  exact wpAny_pure ⟨_, rfl, h _ _ (F.push _) (News.push F N _) (fun q hq => Heap.lt_size (N q hq).1)⟩
theorem lit_special {i : Nat} {items : Array Value} {x : Value} {Q : Option Value → Shared → Prop} (ho : s.heap.get? I = some (litO l i)) (hl : s.heap.IsList l items) (hx : items[i]? = some x)
    (hQ : ∀ h', h'.get? I = some (litO l (i + 1)) → Heap.SameBut I s.heap h' → Q (some x) { s with heap := h' }) :
    wpAny (model prog w) A (callSpecial? (.ref I) (Str.ofString "__next__")) Q E s := by
  have hit : s.heap.IsListIter I l i := ⟨_, ho, rfl, rfl⟩
  have hd : (litO l i).data = .fields #[.ref l, .int i 0] := rfl
  obtain ⟨ol, hol, _, nl, hdl⟩ := hl
  refine wpAny_callSpecial?_slot (name := Str.ofString "__next__") hit.typeIs slot_listiter_next
    (wpAny_call_entry slot_listiter_next hit.typeIs entry_listiter_next ?_ (args_listiter_next _))
  show wpAny _ _ (field (.ref I) 0 >>= _) _ _ s
  refine wpAny_bind (wpAny_field ho hd (x := .ref l) rfl ?_)
  show wpAny _ _ (if (Value.ref l == Value.none) = true then _ else _) _ _ s
  rw [if_neg (show ¬ ((Value.ref l == Value.none) = true) from Bool.false_ne_true)]
  show wpAny _ _ (field (.ref I) 1 >>= _) _ _ s
  refine wpAny_bind (wpAny_field ho hd (x := .int i 0) rfl ?_)
  show wpAny _ _ (seqItems? (.ref l) >>= _) _ _ s
  refine wpAny_bind (wpAny_seqItems hol hdl ?_)
  simp only [Int.toNat_natCast, hx]
  refine wpAny_bind (wpAny_setField ho hd (by simp) (wpAny_pure ⟨x, rfl, hQ _ ?_ (Heap.SameBut.update ..)⟩))
  rw [Heap.get?_update_self _ ho (Obj.isFreed_of_fields (Obj.data_mapFields hd _))]
  rfl
theorem kx_nextL {i : Nat} {items : Array Value} {x : Value} {Q : Value → Shared → Prop} (F : Fr h₀ L s.heap m) (N : News h₀ L s.heap news) (U : UpdF I (litO l i) news g) (hl : s.heap.IsList l items) (hx : items[i]? = some x)
    (h : ∀ h', Fr h₀ L h' m → News h₀ L h' (g (litO l (i + 1))) → Q x { s with heap := h' }) :
    wpAny (model prog w) A (call (.builtin "next") [.ref I]) Q E s := by
  obtain ⟨pre, post, rfl, hg, a, b⟩ := U.split
  have hm := N (I, litO l i) (List.mem_append_right _ (.head _))
  have hit : s.heap.IsListIter I l i := ⟨_, hm.1, rfl, rfl⟩
  refine call_function_entry (by decide +kernel) (by decide +kernel) kdk_entry_next (kdk_args_next _) ?_
  unfold Builtin.«next»
  refine wpAny_bind (m := someArgs "next" 1 2 _) (wpAny_of_eq (a := [Value.ref I]) (by first | rfl | kernel_rfl!) ?_)
  dsimp only
  refine wpAny_bind (wpAny_specialOf (name := Str.ofString "__next__") hit.typeIs slot_listiter_next.lookup ?_)
  refine wpAny_ite_split (fun hab => absurd hab (by decide)) (fun _ => ?_)
  refine wpAny_bind (lit_special hm.1 hl hx fun h' hg' hs => ?_)
  refine wpAny_pure ⟨_, rfl, h h' (F.change hs hm.2.1 hm.2.2) ?_⟩
  rw [hg]
  exact N.setAt a b hs hg'
noncomputable abbrev list4 (t1 t2 t3 t4 : Tok) : Obj := W.listOf #[.int 1 t1, .int 2 t2, .int 4 t3, .int 8 t4] 2
theorem kx_next4 {t1 t2 t3 t4 : Tok} {Q : Value → Shared → Prop} (F : Fr h₀ L s.heap m) (N : News h₀ L s.heap news) (U : UpdF I (litO l 0) news g) (hm : (l, list4 t1 t2 t3 t4) ∈ news)
    (h : ∀ h', Fr h₀ L h' m → News h₀ L h' (g (litO l 1)) → Q (.int 1 t1) { s with heap := h' }) :
    wpAny (model prog w) A (call (.builtin "next") [.ref I]) Q E s :=
  kx_nextL F N U ⟨_, (N _ hm).1, rfl, _, rfl⟩ rfl h
end
section
open PyProof.V PySem.Spec PySem.Calls
variable {prog : Program} {w : World} {A : Around} {E : Value → Shared → Prop} {s : Shared} {env : Env} {h₀ : Heap} {x : PySem.Str} {body : List Stmt} {Q : Flow → Shared → Prop}
/-- a loop over an iterator that has been drawn from -/
theorem iter_lit {ax I : Addr} {lo : Obj} {vs : List Value} {n i₀ : Nat} {m₀ : PySem.Str → Option Value} {news : List (Addr × Obj)}
    (hh : A.handled = none) (F : Fr h₀ env.locals s.heap m₀) (N : News h₀ env.locals s.heap ((I, litO ax i₀) :: news)) (hof : ∀ p ∈ news, p.1 ≠ I) (hm : (ax, lo) ∈ news) (hc : lo.cls = .type "list") (hd : lo.data = .seq vs.toArray n) (hi₀ : i₀ ≤ vs.length)
    (rest : ListRest prog w A E h₀ env x body Q s I (ax, lo) (vs.drop i₀) m₀ news) :
    wpAny (model prog w) A (pyIter (.ref I)) (fun it s₂ => LoopAtV prog w A h₀ env x body Q E it s₂) E s := by
  have hIx := N _ (List.mem_cons_self ..)
  have hax := N _ (List.mem_cons_of_mem _ hm)
  have hl : s.heap.IsList ax vs.toArray := ⟨lo, hax.1, hc, n, hd⟩
  have hne : ax ≠ I := hof _ hm
  have hit : s.heap.IsListIter I ax i₀ := ⟨_, hIx.1, rfl, rfl⟩
  refine wpAny_pyIter_listiter hit ?_
  have W0 := Walks.list (prog := prog) (w := w) hh I ax hne vs.toArray
  have W : Walks prog w A I [I, ax] [I] (vs.length - i₀) (fun i v => vs.toArray[i₀ + i]? = some v) (fun i h => h.IsListIter I ax (i₀ + i) ∧ h.IsList ax vs.toArray) := {
    sub := W0.sub
    frame := fun i h h' st hk => W0.frame (i₀ + i) h h' st hk
    item := fun i s Q E hi st hQ => W0.item (i₀ + i) s Q E (by simp; omega) st hQ
    done := fun s Q E st hQ => W0.done s Q E (by
      have e : vs.toArray.size = i₀ + (vs.length - i₀) := by simp; omega
      rw [e]; exact st) hQ
    self := fun i s Q E st hQ => W0.self (i₀ + i) s Q E st hQ }
  let J : Nat → (PySem.Str → Option Value) → List (Addr × Obj) → Prop := fun i m₁ news₁ => (ax, lo) ∈ news₁ ∧ ListRest prog w A E h₀ env x body Q s I (ax, lo) (vs.drop (i₀ + i)) m₁ news₁
  refine ⟨I, _, _, vs.length - i₀, _, _, m₀, news, J, rfl, W, ?_, ?_, ?_, ⟨hit, hl⟩, F, (fun p hp => N p (List.mem_cons_of_mem _ hp)), ⟨hm, rest⟩, ?_, ?_⟩
  · intro hmm
    rcases List.mem_cons.mp hmm with e | hmm
    · exact hIx.2.1 e.symm
    · exact hax.2.1 (List.mem_singleton.mp hmm).symm
  · intro b hb
    rw [List.mem_singleton.mp hb]
    exact hIx.2.2
  · intro p hp hI
    exact hof p hp (List.mem_singleton.mp hI)
  · rintro i v m₁ news₁ s₁ own ⟨hh', tk', rfl⟩ hin hP ⟨hmem₁, hJ⟩ hofs hown hget hall hst F₁ N₁
    obtain ⟨it, hit', hic, hid⟩ := hst.1
    have hmemI := hall I (List.mem_cons_self ..) hIx.2.2 _ hit'
    have hdrop : vs.drop (i₀ + i) = v :: vs.drop (i₀ + (i + 1)) := by
      have hlt : i < vs.length - i₀ := hin
      have hlt' : i₀ + i < vs.length := by omega
      have hv : vs[i₀ + i]? = some v := by simpa using hP
      rw [List.drop_eq_getElem_cons hlt']
      congr 1
      exact Option.some.inj ((List.getElem?_eq_getElem hlt').symm.trans hv)
    rw [hdrop] at hJ
    have N₂ : News h₀ env.locals hh' ((I, it) :: news₁) := fun p hp => by
      rcases List.mem_cons.mp hp with rfl | hp
      · exact N₁ _ (List.mem_append_left _ hmemI)
      · exact N₁ _ (List.mem_append_right _ hp)
    refine wpAny_mono (hJ it hh' tk' hic F₁ N₂) (fun f s₂ p => ?_) fun _ _ e => e
    have fin : UnrEnd h₀ env.locals { s with heap := hh', toks := tk' } I it (fun m' n' => (ax, lo) ∈ n' ∧ ListRest prog w A E h₀ env x body Q s I (ax, lo) (vs.drop (i₀ + (i + 1))) m' n') s₂ →
        LoopStepU h₀ env.locals [I] own (J (i + 1)) { s with heap := hh', toks := tk' } .next s₂ := by
      rintro ⟨h', tk, m', news', e, F', N', ho, hmm, r⟩
      refine ⟨rfl, h', tk, m', news', e, F', fun p hp => ?_, fun p hp hI => ho p hp (List.mem_singleton.mp hI), hmm, r⟩
      rcases List.mem_append.mp hp with hp | hp
      · have h2 : hh'.get? p.1 = some p.2 := hget p hp
        rcases List.mem_cons.mp (hown p hp) with h1 | h1
        · have h3 : p = (I, it) := by
            rw [h1, hit'] at h2
            exact Prod.ext h1 (Option.some.inj h2).symm
          rw [h3]; exact N' _ (List.mem_cons_self ..)
        · have h1' : p.1 = ax := List.mem_singleton.mp h1
          have h3 : p = (ax, lo) := by
            rw [h1', (N₁ _ (List.mem_append_right _ hmem₁)).1] at h2
            exact Prod.ext h1' (Option.some.inj h2).symm
          rw [h3]; exact N' _ (List.mem_cons_of_mem _ hmm)
      · exact N' _ (List.mem_cons_of_mem _ hp)
    cases f with
    | ret v => exact .ret p
    | brk => exact .brk p
    | next => exact .next (fin p)
    | cont => exact .cont (fin p)
  · rintro h' tk m' news' F' N' _ ⟨_, hJ⟩
    have z : vs.drop (i₀ + (vs.length - i₀)) = [] := List.drop_of_length_le (by omega)
    rw [z] at hJ
    exact hJ h' tk F' N'
theorem off_lt {I : Addr} {r : List (Addr × Obj)} (h : ∀ p ∈ r, p.1 < I) : ∀ p ∈ r, p.1 ≠ I := fun p hp => Nat.ne_of_lt (h p hp)
theorem off_lt2 {I d : Addr} {r : List (Addr × Obj)} (h : ∀ p ∈ r, p.1 < d) (hd : d < I) : ∀ p ∈ r, p.1 ≠ I := fun p hp => Nat.ne_of_lt (Nat.lt_trans (h p hp) hd)
theorem off_all {I : Addr} : ∀ {r : List (Addr × Obj)}, AllLt I r → ∀ p ∈ r, p.1 ≠ I
  | [], _, _, h => nomatch h
  | _ :: _, x, p, h => by
    rcases List.mem_cons.mp h with rfl | h
    · exact Nat.ne_of_lt x.1
    · exact off_all x.2 p h
theorem off_and5 {a b c d e : Prop} {I : Addr} {r : List (Addr × Obj)} (h : a ∧ b ∧ c ∧ d ∧ e ∧ AllLt I r) : ∀ p ∈ r, p.1 ≠ I := off_all h.2.2.2.2.2
theorem off_cons {I a : Addr} {o : Obj} {r : List (Addr × Obj)} (ha : a ≠ I) (h : ∀ p ∈ r, p.1 ≠ I) : ∀ p ∈ (a, o) :: r, p.1 ≠ I := fun p hp => by
  rcases List.mem_cons.mp hp with rfl | hp
  · exact ha
  · exact h p hp
theorem iter_lit4 {ax I : Addr} {t1 t2 t3 t4 : Tok} {m₀ : PySem.Str → Option Value} {news : List (Addr × Obj)}
    (hh : A.handled = none) (F : Fr h₀ env.locals s.heap m₀) (N : News h₀ env.locals s.heap ((I, litO ax 1) :: (ax, list4 t1 t2 t3 t4) :: news)) (hof : ∀ p ∈ (ax, list4 t1 t2 t3 t4) :: news, p.1 ≠ I)
    (rest : ListRest prog w A E h₀ env x body Q s I (ax, list4 t1 t2 t3 t4) [.int 2 t2, .int 4 t3, .int 8 t4] m₀ ((ax, list4 t1 t2 t3 t4) :: news)) :
    wpAny (model prog w) A (pyIter (.ref I)) (fun it s₂ => LoopAtV prog w A h₀ env x body Q E it s₂) E s :=
  iter_lit (vs := [.int 1 t1, .int 2 t2, .int 4 t3, .int 8 t4]) hh F N hof (.head _) rfl rfl (Nat.le_of_ble_eq_true rfl) rest
theorem pwA {b : Int} (h0 : 0 < b) (h1 : b ≤ 256) : IntMulOk (b ^ Int.toNat 1) b := by
  refine IntMulOk.of_right (PyProof.Rows.intBits_le ?_)
  omega
theorem pwB {b c : Int} (h0 : 0 < b) (h1 : b ≤ 256) : IntMulOk (b ^ Int.toNat 1 * b) c := by
  refine IntMulOk.of_left (PyProof.Rows.intBits_le ?_)
  rw [show b ^ Int.toNat 1 = b from Int.pow_succ b 0 ▸ by simp, Int.natAbs_mul]
  have : b.natAbs * b.natAbs ≤ 256 * 256 := Nat.mul_le_mul (by omega) (by omega)
  omega
theorem pwC {b c : Int} (h0 : 0 < b) (h1 : b ≤ 256) : IntMulOk (b ^ Int.toNat 1 * b * (b ^ Int.toNat 1 * b)) c := by
  refine IntMulOk.of_left (PyProof.Rows.intBits_le ?_)
  rw [show b ^ Int.toNat 1 = b from Int.pow_succ b 0 ▸ by simp, Int.natAbs_mul, Int.natAbs_mul]
  have h : b.natAbs * b.natAbs ≤ 256 * 256 := Nat.mul_le_mul (by omega) (by omega)
  have := Nat.mul_le_mul h h
  omega
noncomputable abbrev powD (b : Int) (t1 t2 t4 t8 : Tok) : List (Int × Value) := [(1, .int b t1), (2, .int (b * b) t2), (4, .int (b * b * (b * b)) t4), (8, .int (b * b * (b * b) * (b * b * (b * b))) t8)]
theorem pw_dict {b : Int} {t1 t2 t4 t8 : Tok} {o : Obj} (h : o.IsDictOf (PySem.intKind prog w) (stored (stored (stored (stored [] 1 (Value.int (b ^ Int.toNat 1) t1)) 2 (Value.int (b ^ Int.toNat 1 * b) t2)) 4 (Value.int (b ^ Int.toNat 1 * b * (b ^ Int.toNat 1 * b)) t4)) 8
    (Value.int (b ^ Int.toNat 1 * b * (b ^ Int.toNat 1 * b) * (b ^ Int.toNat 1 * b * (b ^ Int.toNat 1 * b))) t8))) : o.IsDictOf (PySem.intKind prog w) (powD b t1 t2 t4 t8) := by
  rw [show b ^ Int.toNat 1 = b from Int.pow_succ b 0 ▸ by simp] at h
  exact h
theorem and3_all {a b c : Prop} {I : Addr} {r : List (Addr × Obj)} (h : a ∧ b ∧ c ∧ AllLt I r) : AllLt I r := h.2.2.2
end

end
end Mine
/-! V_pow -/
namespace Mine
section
theorem pow_ok {w : World} {loose : List PySem.Str} {mean : ExcName → Option Value} {mg mb : PySem.Str → Option Value}
    {dp un : Nat} {gd : Option (List Code)} {cn : PySem.Str} {cs : Scope} {a : Addr} {ccd : Value} {cl : List (PySem.Str × Addr)} {outer : List Env} {A₀ : Around} {base h₀ : Heap} {L : Addr} {m : PySem.Str → Option Value} {s : Shared} {Q E : Value → Shared → Prop} {news : List (Addr × Obj)}
    (B : Below A₀ base outer h₀) (F : Fr h₀ L s.heap m) (X : (hd.heap_1 w.params).In h₀) (N : News h₀ L s.heap news) (T : Top topProg loose mean mg mb h₀) (hk : cs.kind = .function)
    {b : Int} {tr tg tb : Tok} (hb0 : 0 < b) (hb1 : b ≤ 256)
    (hd1 : dp + 1 < recursionLimit) (hu : un + 8 < cLine)
    (hret : ∀ D o h1 tk1 d1 t1 t2 t4 t8, Fr h₀ L h1 m → News h₀ L h1 ((D, o) :: news) → AllLt D news → o.IsDictOf (PySem.intKind Challenge.rw_sn0051_01.row.prog w) (powD b t1 t2 t4 t8) → Q (.ref D) { s with heap := h1, toks := tk1, drawn := d1 }) :
    wpAny (model Challenge.rw_sn0051_01.row.prog w) (ktrTop dp un gd cn cs L a ccd cl outer) (call (.ref 39) [.int 16 tr, .int b tg, .int 1 tb]) Q E s := by
  revert X
  k_fill
  intro X
  refine wpAny_call ?_
  k_with_none
  k_with "call type:set nil nil" => (k_here; k_dflt (refine' kx_new ?x0qF ?x0qN ?_; (case x0qF => k_asm); (case x0qN => k_asm)); intro d' h' F' N' l1 hs'; (try k_lt l1))
  k_with "call builtin:set.add" =>
    (k_here; first
      | (k_dflt (refine' kx_add8 ?x1qF ?x1qN ?x1qU ?_; (case x1qF => k_asm); (case x1qN => k_asm); (case x1qU => k_updF)); intro h' F' N')
      | (k_dflt (refine' kx_add4 ?x1qF ?x1qN ?x1qU ?_; (case x1qF => k_asm); (case x1qN => k_asm); (case x1qU => k_updF)); intro h' F' N')
      | (k_dflt (refine' kx_add2 ?x1qF ?x1qN ?x1qU ?_; (case x1qF => k_asm); (case x1qN => k_asm); (case x1qU => k_updF)); intro h' F' N')
      | (k_dflt (refine' kx_add1 ?x1qF ?x1qN ?x1qU ?_; (case x1qF => k_asm); (case x1qN => k_asm); (case x1qU => k_updF)); intro h' F' N'))
  k_with "getMethod ref" => (k_here; (with_reducible show wpAny _ _ (getMethod (Value.ref _) (Str.ofString "pop") _) _ _ _); k_dflt (refine' kx_method ?x2qN ?x2qU ?x2qd ?_; (case x2qN => k_asm); (case x2qU => k_updF); (case x2qd => k_asm)))
  k_with "getMethod ref" => (k_here; (with_reducible show wpAny _ _ (getMethod (Value.ref _) (Str.ofString "add") _) _ _ _); k_dflt (refine' kx_methodX ?x3qN ?x3qmm ?_; (case x3qN => k_asm); (case x3qmm => k_mem)))
  k_with "call builtin:set.pop" => (k_here; (with_reducible show wpAny _ _ (call (Value.builtin _) [Value.ref _]) _ _ _); first | (k_dflt (refine' kx_pop (k := 16) ?x4qF ?x4qN ?x4qU ?x4qd ?x4qhk ?_; (case x4qF => k_asm); (case x4qN => k_asm); (case x4qU => k_updF); (case x4qd => k_asm); (case x4qhk => rfl)); intro h' o' tk' dr' F' N' hs') | (k_dflt (refine' kx_pop (k := 8) ?x4qF ?x4qN ?x4qU ?x4qd ?x4qhk ?_; (case x4qF => k_asm); (case x4qN => k_asm); (case x4qU => k_updF); (case x4qd => k_asm); (case x4qhk => rfl)); intro h' o' tk' dr' F' N' hs') | (k_dflt (refine' kx_pop (k := 4) ?x4qF ?x4qN ?x4qU ?x4qd ?x4qhk ?_; (case x4qF => k_asm); (case x4qN => k_asm); (case x4qU => k_updF); (case x4qd => k_asm); (case x4qhk => rfl)); intro h' o' tk' dr' F' N' hs') | (k_dflt (refine' kx_pop (k := 2) ?x4qF ?x4qN ?x4qU ?x4qd ?x4qhk ?_; (case x4qF => k_asm); (case x4qN => k_asm); (case x4qU => k_updF); (case x4qd => k_asm); (case x4qhk => rfl)); intro h' o' tk' dr' F' N' hs') | (k_dflt (refine' kx_pop (k := 1) ?x4qF ?x4qN ?x4qU ?x4qd ?x4qhk ?_; (case x4qF => k_asm); (case x4qN => k_asm); (case x4qU => k_updF); (case x4qd => k_asm); (case x4qhk => rfl)); intro h' o' tk' dr' F' N' hs'))
  k_with "call builtin:sorted" => (k_here; (with_reducible show wpAny _ _ (call (Value.builtin _) [Value.ref _]) _ _ _); k_dflt (refine' kx_sorted4 rfl ?x5qF ?x5qN ?x5qmm ?_; (case x5qF => k_asm); (case x5qN => k_asm); (case x5qmm => k_mem)); intro D' h' tk' t1 t2 t3 t4 F' N' l1; (try k_lt l1))
  k_with "call builtin:iter" => (k_here; (with_reducible show wpAny _ _ (call (Value.builtin _) [Value.ref _]) _ _ _); k_dflt (refine' kx_iterL ?x6qF ?x6qN ?x6ql ?_; (case x6qF => k_asm); (case x6qN => k_asm); (case x6ql => is_list)); intro D' h' F' N' l1; (try k_lt l1))
  k_with "call builtin:next" => (k_here; (with_reducible show wpAny _ _ (call (Value.builtin _) [Value.ref _]) _ _ _); k_dflt (refine' kx_next4 ?x7qF ?x7qN ?x7qU ?x7ql ?_; (case x7qF => k_asm); (case x7qN => k_asm); (case x7qU => k_updF); (case x7ql => k_mem)); intro h' F' N'; (try dsimp only at N'))
  k_with "exec For Name Name cons nil" => (k_here; (rename Fr _ _ _ _ => lF'); (with_unfolding_all refine' For_invVF lF' ?x8qk1 ?x8qk2 ?_; (case x8qk1 => exact rfl); (case x8qk2 => exact rfl); k_whole))
  k_with "pyIter ref" => ((with_reducible show wpAny _ _ (pyIter (Value.ref _)) (fun it s₂ => LoopAtV _ _ _ _ _ _ _ _ _ it s₂) _ _); (rename Fr _ _ _ _ => lF'); (rename News _ _ _ _ => lN'); (with_unfolding_all refine iter_lit4 (by rfl) lF' lN' (by repeat' first | exact off_lt (by assumption) | exact off_and5 (by assumption) | refine off_cons (by k_ne) ?_) ?_))
  k_with "UnrEnd" => ((rename Fr _ _ _ _ => lF'); (rename News _ _ _ _ => lN'); (refine UnrEnd.intro lF' lN' _ (fun p h => h) (by repeat' first | exact off_lt (by assumption) | exact off_and5 (by assumption) | refine off_cons (by k_ne) ?_) ⟨by k_mem, ?_⟩))
  k_with "compareOp In int ref" => (k_here; k_dflt (first | (refine' kda_in (knd := PySem.intKind _ _) ?x11qN ?x11qp ?x11qd ?x11qlo (intKind_is _ _ _ _) true ?x11qhb ?_; (case x11qN => k_asm); (case x11qp => k_mem); (case x11qd => k_asm); (case x11qlo => k_asm); (case x11qhb => rfl)) | (refine' kda_in (knd := PySem.intKind _ _) ?x11qN ?x11qp ?x11qd ?x11qlo (intKind_is _ _ _ _) false ?x11qhb ?_; (case x11qN => k_asm); (case x11qp => k_mem); (case x11qd => k_asm); (case x11qlo => k_asm); (case x11qhb => rfl))))
  k_with "binaryOp Mult int int" => (k_here; first | (refine mul_int ?_ (pwA (by assumption) (by assumption))) | (refine mul_int ?_ (pwB (by assumption) (by assumption))) | (refine mul_int ?_ (pwC (by assumption) (by assumption))))
  k_with "binaryOp RShift int int" => (k_here; (refine rshift_int (by decide) ?_); (simp only [show Int.fdiv 16 (2 ^ Int.toNat 1) = 8 from rfl, show Int.fdiv 8 (2 ^ Int.toNat 1) = 4 from rfl, show Int.fdiv 4 (2 ^ Int.toNat 1) = 2 from rfl, show Int.fdiv 2 (2 ^ Int.toNat 1) = 1 from rfl]))
  k_with "truthy ref" => (k_here; (with_reducible show wpAny _ _ (truthy (Value.ref _)) _ _ _); k_dflt (refine' kx_truthy ?x14qN ?x14qU ?x14qd ?x14qz ?_; (case x14qN => k_asm); (case x14qU => k_updF); (case x14qd => k_asm); (case x14qz => first | lia | exact Nat.le_of_ble_eq_true rfl)))
  k_with "truthy ref" => (k_here; (with_reducible show wpAny _ _ (truthy (Value.ref _)) _ _ _); k_dflt (refine' kx_truthy4 ?x15qN ?x15qmm ?_; (case x15qN => k_asm); (case x15qmm => k_mem)))
  k_with "k_all" => first | assumption | (refine allNe_lt (by assumption) ?_; lia)
  first
  | (k_dflt cell_enter)
  | (k_dflt (refine' code_def ?k1 ?k2 ?k3 ?k4 ?k5 ?kA ?kF ?kK ?k6 ?k7 ?k8 ?k9 ?kB ?_ ?c2 ?c3 ?c4 ?c5; (case kA => exact rfl); (case kF => exact rfl); (case kK => assumption); (case k1 => k_asm); (case k2 => k_asm); (case k3 => k_asm); (case k4 => k_asm); (case k5 => k_asm); (case k6 => k_is); (case k7 => k_is); (case k8 => ktr_room); (case k9 => first | exact BindsTo.of_eq rfl | exact binds_K (by k_in) rfl (by k_is) rfl rfl rfl); (case c5 => decide); (case kB => exact locs rfl); (case c2 => exact rfl); (case c3 => exact rfl); (case c4 => exact rfl); k_whole; intro g' L' h' FG' F' N' B' X' T'; (try dsimp only); (try k_lift B'); (try k_fold)))
  | (k_dflt (refine' code_defC ?k1 ?k2 ?k3 ?k4 ?k5 ?kA ?kF ?kK ?k6 ?k7 ?k8 ?k9 ?kB ?kD ?_ ?c2 ?c3 ?c4; (case kA => exact rfl); (case kF => exact rfl); (case kK => assumption); (case k1 => k_asm); (case k2 => k_asm); (case k3 => k_asm); (case k4 => k_asm); (case k5 => k_asm); (case k6 => k_is); (case k7 => k_is); (case k8 => ktr_room); (case k9 => first | exact BindsTo.of_eq rfl | exact binds_K (by k_in) rfl (by k_is) rfl rfl rfl); (case kB => exact rfl); (case kD => decide); (case c2 => exact rfl); (case c3 => exact rfl); (case c4 => exact rfl); k_whole; intro g' L' h' tk' cells' FG' F' N' Y' B' X' T' l'; (try dsimp only); (try k_cells Y'); (try simp only [List.nil_append, List.cons_append] at N'); (try k_lt l'); (try k_lift B'); (try k_fold)))
  k_with "fin" => (rename News _ _ _ _ => kN; exact hret _ _ _ _ _ _ _ _ _ (by k_asm) (kst_newsOf kN (by kst_inAny)) (and3_all (by assumption)) (pw_dict (by assumption)))
  k_with "execs cons" => ((first | (with_reducible show wpAny _ _ (execs (PySem.Stmt.For .. :: _) _) _ _ _) | (with_reducible show wpAny _ _ (execs (PySem.Stmt.While .. :: _) _) _ _ _) | (with_reducible show wpAny _ _ (execs (PySem.Stmt.If .. :: _) _) _ _ _)); (try k_gentoks); (try k_made); (with_reducible refine wpAny_execs_cons ?_); (try dsimp only); k_dflt (as_aux_lemma => (k_steps; all_goals k_extra "fin")))
  k_steps
  all_goals k_extra "fin"

end
end Mine
/-! X_d2iA -/
namespace Mine
section
theorem d2i_new {w : World} {loose : List PySem.Str} {mean : ExcName → Option Value} {mg mb : PySem.Str → Option Value}
    {dp un : Nat} {gd : Option (List Code)} {cn : PySem.Str} {cs : Scope} {a : Addr} {ccd : Value} {cl : List (PySem.Str × Addr)} {outer : List Env} {A₀ : Around} {base h₀ : Heap} {L : Addr} {m : PySem.Str → Option Value} {s : Shared} {Q E : Value → Shared → Prop} {news : List (Addr × Obj)}
    (B : Below A₀ base outer h₀) (F : Fr h₀ L s.heap m) (X : (hd.heap_1 w.params).In h₀) (N : News h₀ L s.heap news) (T : Top topProg loose mean mg mb h₀) (hk : cs.kind = .function)
     {l : Addr} {vs : List Value} {ns : List Int} {nn : Nat} (hi : IntsAre vs ns) (N0 : News h₀ L s.heap ((l, W.listOf vs.toArray nn) :: (62, tabObj #[]) :: news)) (hne : ∀ p ∈ news, p.1 ≠ 62) (hl62 : @Ne Nat l 62) (codeHd : CodeHd base 66 62) (hlen : ns.length ≤ 64) {Wd : Nat} (hW : Wd ≤ 100) (hb : ∀ x ∈ ns, 0 ≤ x ∧ x < 2 ^ Wd) {tn : Tok}
    (hd1 : dp + 70 < recursionLimit) (hu : un + 600 < cLine)
    (hret : ∀ c oc us t t' h1 tk1, Fr h₀ L h1 m → News h₀ L h1 ((c, oc) :: (l, W.listOf vs.toArray nn) :: (62, tabObj #[rawInt 89, rawInt 4, .ref c]) :: news) → oc.data = .fields us → us[1]? = some (.str qD t) → (∀ p ∈ (l, W.listOf vs.toArray nn) :: (62, tabObj #[]) :: news, p.1 < c) → Q (.int (dval Wd ns) t') { s with heap := h1, toks := tk1 }) :
    wpAny (model Challenge.rw_sn0051_01.row.prog w) (ktrTop dp un gd cn cs L a ccd cl outer) (call (.ref 67) [.ref l, .int Wd tn]) Q E s := by
  revert X
  k_fill
  intro X
  refine wpAny_call ?_
  k_with_none
  k_with "k_all" => first | assumption | (refine allNe_lt (by assumption) ?_; lia)
  k_with "binaryOp LShift int int" => k_extra "shl"
  k_with "binaryOp RShift int int" => k_extra "shr"
  k_with "binaryOp Mult int int" => k_extra "mul"
  k_with "call ref" => fail
  first
  | (k_dflt cell_enter)
  | (k_dflt (refine' code_defC ?k1 ?k2 ?k3 ?k4 ?k5 ?kA ?kF ?kK ?k6 ?k7 ?k8 ?k9 ?kB ?kD ?_ ?c2 ?c3 ?c4; (case kA => exact rfl); (case kF => exact rfl); (case kK => assumption); (case k1 => k_asm); (case k2 => k_asm); (case k3 => k_asm); (case k4 => k_asm); (case k5 => k_asm); (case k6 => k_is); (case k7 => k_is); (case k8 => ktr_room); (case k9 => first | exact BindsTo.of_eq rfl | exact binds_K (by k_in) rfl (by k_is) rfl rfl rfl); (case kB => exact rfl); (case kD => decide); (case c2 => exact rfl); (case c3 => exact rfl); (case c4 => exact rfl); k_whole; intro g' L' h' tk' cells' FG' F' N' Y' B' X' T' l'; (try dsimp only); (try k_cells Y'); (try simp only [List.nil_append, List.cons_append] at N'); (try k_lt l'); (try obtain ⟨l1a, l1b, lAll⟩ := l'); (try k_lift B'); (try k_fold)))
  | (k_dflt (refine' code_def ?k1 ?k2 ?k3 ?k4 ?k5 ?kA ?kF ?kK ?k6 ?k7 ?k8 ?k9 ?kB ?_ ?c2 ?c3 ?c4 ?c5; (case kA => exact rfl); (case kF => exact rfl); (case kK => assumption); (case k1 => k_asm); (case k2 => k_asm); (case k3 => k_asm); (case k4 => k_asm); (case k5 => k_asm); (case k6 => k_is); (case k7 => k_is); (case k8 => ktr_room); (case k9 => first | exact BindsTo.of_eq rfl | exact binds_K (by k_in) rfl (by k_is) rfl rfl rfl); (case c5 => decide); (case kB => exact locs rfl); (case c2 => exact rfl); (case c3 => exact rfl); (case c4 => exact rfl); k_whole; intro g' L' h' FG' F' N' B' X' T'; (try dsimp only); (try k_lift B'); (try k_fold)))
  k_steps
  rotate_left
  · rename_i o1 o2 o3 d1 d2 d3 fI cI ocI vsI tI ctI dcI h2 tk2 dI1 dI2 lI1 lI2 h3 oI F3 N3 dI hno kF kN Tc kX
    rw [← dval_none (w := Wd) hno]; exact hret cI ocI vsI tI _ _ _ (by k_asm) (kst_newsOf kN (by kst_inAny)) dI1 dI2 (List.forall_mem_cons.mpr ⟨lI1.2.2.2.1, List.forall_mem_cons.mpr ⟨lI1.2.2.2.2.1, kst_ltOf lI1.2.2.2.2.2⟩⟩)
  rename_i o1 o2 o3 d1 d2 d3 fI cI ocI vsI tI ctI dcI h2 tk2 dI1 dI2 lI1 lI2 h3 oI F3 N3 dI hpos
  generalize hO : fnMade _ _ _ _ _ _ _ _ _ _ = O at N3
  generalize hLED : (_ :: _ : List (Addr × Obj)) = LED at N3
  have ind : ∀ (K : Nat) (lo hi : Int) (tl th : Tok) {dp un : Nat} {gd : Option (List Code)} {cn : PySem.Str} {cs : Scope} {a : Addr} {ccd : Value} {cl : List (PySem.Str × Addr)} {outer : List Env} {A₀ : Around} {base h₀ : Heap} {L : Addr} {m : PySem.Str → Option Value} {s : Shared} {Q E : Value → Shared → Prop},
      Below A₀ base outer h₀ → Fr h₀ L s.heap m → (hd.heap_1 w.params).In h₀ → News h₀ L s.heap LED → Top topProg loose mean mg mb h₀ → cs.kind = .function →
      CodeHd base 66 62 → 0 ≤ lo → lo < hi → hi ≤ ns.length → hi - lo ≤ K → dp + K + 1 < recursionLimit → un + 8 * K + 8 < cLine →
      (∀ t h' tk', Fr h₀ L h' m → News h₀ L h' LED → Q (.int (dseg Wd ns lo hi) t) { s with heap := h', toks := tk' }) →
      wpAny (model Challenge.rw_sn0051_01.row.prog w) (ktrTop dp un gd cn cs L a ccd cl outer) (call (.ref fI) [.int lo tl, .int hi th]) Q E s := by
    intro K
    induction K with
    | zero => intros; exfalso; lia
    | succ K ih =>
      intro lo hi tl th dp un gd cn cs a ccd cl outer A₀ base h₀ L m s Q E B F X N T hk codeHd2 hlo hlt hhi hK hd1 hu hret
      subst hLED
      subst hO
      k_with_none
      k_with "k_all" => first | assumption | (refine allNe_lt (by assumption) ?_; lia)
      k_with "binaryOp LShift int int" => k_extra "shl"
      k_with "binaryOp RShift int int" => k_extra "shr"
      k_with "binaryOp Mult int int" => k_extra "mul"
      refine wpAny_call ?_
      k_dflt (refine' code_nest ?k1 ?k2 ?k3 ?k4 ?k5 ?kA ?kF ?kK ?k6 ?k7 ?k8 ?k9 ?kB ?_ ?c2 ?c3 ?c4 ?c5; (case kA => exact rfl); (case kF => exact rfl); (case kK => first | exact rfl | assumption); (case k1 => k_asm); (case k2 => k_asm); (case k3 => k_asm); (case k4 => k_asm); (case k5 => k_asm); (case k6 => k_mem); (case k7 => exact codeRec_news (by k_asm) (by k_mem) (by assumption) (by assumption)); (case k8 => ktr_room); (case k9 => exact BindsTo.of_eq rfl); (case c5 => decide); (case kB => exact locs rfl); (case c2 => exact rfl); (case c3 => exact rfl); (case c4 => exact rfl); k_whole; intro g' L' h' FG' F' N' B' X' T'; (try dsimp only); (try k_lift B'); (try k_fold))
      k_steps
      · rw [dseg_one hlo (by assumption) hhi]
        exact hret _ _ _ (by k_asm) (by k_asm)
      · have hm := mid_lt hlo hlt (by assumption)
        generalize (lo + hi).fdiv (2 ^ Int.toNat 1) = mid at *
        have hH : Half lo hi mid ns.length K := half_ok hlo hhi hK (Int.ofNat_le.mpr hlen) hm
        have hs := shift_ok hH.a6 hH.a7 hW
        have hbit := dseg_bits hb (lo := mid) (hi := hi) hH.a0 (sub_64 hH.a0 hhi (Int.ofNat_le.mpr hlen)) hW
        k_with "shl" => (refine lshift_int hs.1 (shl_fit hbit hs.2) ?_)
        k_with "call ref" => ((refine' ih _ _ _ _ ?c1 ?c2 ?c3 ?c4 ?c5 ?c6 ?c7 ?c8 ?c9 ?c10 ?c11 ?c12 ?c13 ?_); (case c1 => k_dflt k_asm); (case c2 => k_dflt k_asm); (case c3 => k_dflt k_asm); (case c4 => k_dflt k_asm); (case c5 => k_dflt k_asm); (case c6 => exact rfl); (case c7 => exact codeHd2); (case c8 => first | exact hlo | exact hH.a0); (case c9 => first | exact hH.a1 | exact hH.a2); (case c10 => first | exact hhi | exact hH.a3); (case c11 => first | exact hH.a4 | exact hH.a5); (case c12 => first | exact room_k hd1 | ktr_room); (case c13 => first | exact unit_k hu | ktr_units); intro t9 h9 tk9 F9 N9; (try dsimp only); (try k_fold))
        k_steps
        rw [dseg_two hlo (Int.le_of_lt hH.a1) (Int.le_of_lt hH.a2) hhi]
        exact hret _ _ _ (by k_asm) (by k_asm)
  subst hLED
  subst hO
  k_with_none
  k_with "k_all" => first | assumption | (refine allNe_lt (by assumption) ?_; lia)
  k_with "binaryOp LShift int int" => k_extra "shl"
  k_with "binaryOp RShift int int" => k_extra "shr"
  k_with "binaryOp Mult int int" => k_extra "mul"
  k_with "call ref" => ((refine' ind 64 _ _ _ _ ?c1 ?c2 ?c3 ?c4 ?c5 ?c6 ?c7 ?c8 ?c9 ?c10 ?c11 ?c12 ?c13 ?_); (case c1 => k_dflt k_asm); (case c2 => k_dflt k_asm); (case c3 => k_dflt k_asm); (case c4 => k_dflt k_asm); (case c5 => k_dflt k_asm); (case c6 => exact rfl); (case c7 => k_dflt kn_code); (case c8 => exact Int.le_refl 0); (case c9 => first | assumption | exact Int.ofNat_lt.mpr (by assumption) | lia); (case c10 => exact Int.le_refl _); (case c11 => first | exact (Int.sub_zero (ns.length : Int)).symm ▸ Int.ofNat_le.mpr hlen | lia); (case c12 => first | exact room_64 hd1 | ktr_room); (case c13 => first | exact unit_64 hu | ktr_units); intro t9 h9 tk9 F9 N9; (try dsimp only); (try k_fold))
  k_steps
  rw [dseg_all]
  rename_i kF kN Tc kX; exact hret cI ocI vsI tI _ _ _ (by k_asm) (kst_newsOf kN (by kst_inAny)) dI1 dI2 (List.forall_mem_cons.mpr ⟨lI1.2.2.2.1, List.forall_mem_cons.mpr ⟨lI1.2.2.2.2.1, kst_ltOf lI1.2.2.2.2.2⟩⟩)

end
end Mine
/-! P2 -/
namespace Mine
section

section
open PyProof.V PySem.Spec PySem.Calls
variable {prog : Program} {w : World} {A : Around} {E : Value → Shared → Prop} {s : Shared} {env : Env} {h₀ : Heap} {x : PySem.Str} {body : List Stmt} {Q : Flow → Shared → Prop}
/-- a loop over reversed(list of ints), by what holds of its state -/
theorem kst_rev {σ : Type} {I l : Addr} {vs : List Value} {ns : List Int} {m₀ : PySem.Str → Option Value} (Led : σ → List (Addr × Obj)) (ps : σ → List (PySem.Str × Value)) (Facts : σ → Prop) (stored : List PySem.Str) (P : List Int → σ → Prop) (c₀ : σ)
    (hh : A.handled = none) (hit : s.heap.IsRevIter I l ((vs.length : Int) - 1)) (hl : s.heap.IsList l vs.toArray) (hi : IntsAre vs ns) (hne : l ≠ I) (hI0 : h₀.get? I = none) (hLI : env.locals ≠ I) (hLl : env.locals ≠ l)
    (hLed : ∀ p ∈ Led c₀, p.1 ≠ I ∧ p.1 ≠ l) (F : Fr h₀ env.locals s.heap m₀) (N : News h₀ env.locals s.heap (Led c₀)) (hf : Facts c₀) (hk : ∀ p ∈ ps c₀, m₀ p.1 = some p.2) (hp : P [] c₀)
    (turn : ∀ (c : σ) pre post n t (u : PySem.Str → Option Value) h tk own, ns.reverse = pre ++ n :: post → n ∈ ns → OwnOff own ((Led c₀).map (·.1)) → Facts c → P pre c →
      Fr h₀ env.locals h (fun y => if y = x then some (.int n t) else kstB (fun z => if stored.contains z then u z else m₀ z) (ps c) y) → News h₀ env.locals h (Led c ++ own) →
      wpAny (model prog w) A (execs body env) (InvPostN h₀ env.locals (KstS Led ps Facts x stored m₀ P (pre ++ [n])) own ((Led c₀).map (·.1)) { s with heap := h, toks := tk } Q) E { s with heap := h, toks := tk })
    (done : ∀ (c : σ) (u : PySem.Str → Option Value) h tk, Facts c → P ns.reverse c → Fr h₀ env.locals h (fun y => if y = x then u y else kstB (fun z => if stored.contains z then u z else m₀ z) (ps c) y) → News h₀ env.locals h (Led c) → Q .next { s with heap := h, toks := tk }) :
    wpAny (model prog w) A (pyIter (.ref I)) (fun it s₂ => LoopAtV prog w A h₀ env x body Q E it s₂) E s := by
  refine wpAny_pyIter_revIter hit ?_
  have W := Walks.listRev (prog := prog) (w := w) hh I l hne vs.toArray
  have hlen : vs.length = ns.length := hi.length
  have hsz : vs.toArray.size = ns.length := by simp [hlen]
  refine loop_invN (fun i m nx => KstS Led ps Facts x stored m₀ P (ns.reverse.take i) m nx) W ?_ ?_ ?_ ?_ ⟨Nat.zero_le _, ?_, hl⟩ F N ⟨c₀, rfl, hf, hk, fun _ _ _ _ => rfl, by simpa using hp⟩ ?_ ?_
  · intro hm
    rcases List.mem_cons.mp hm with e | hm
    · exact hLI e
    · exact hLl (List.mem_singleton.mp hm)
  · intro b hb
    rw [List.mem_singleton.mp hb]
    exact hI0
  · intro p hp hI
    exact (hLed p hp).1 (List.mem_singleton.mp hI)
  · intro p hp hI
    rcases List.mem_cons.mp hI with e | hm
    · exact (hLed p hp).1 e
    · exact (hLed p hp).2 (List.mem_singleton.mp hm)
  · have e : ((vs.toArray.size : Nat) : Int) - 1 - ((0 : Nat) : Int) = (vs.length : Int) - 1 := by simp
    rw [e]
    exact hit
  · rintro i v m₁ nx h tk own hin hP _ hoff ⟨c, rfl, hf', h1, h2, hp'⟩ F₁ N₁
    rw [hsz] at hin
    have hin' : i < ns.reverse.length := by rw [List.length_reverse]; exact hin
    have hv : vs[ns.length - 1 - i]? = some v := by
      have := hP
      rw [hsz] at this
      simpa using this
    obtain ⟨t, hx⟩ := hi.get (ns.length - 1 - i) (ns.reverse[i]'hin') (by rw [← List.getElem?_reverse hin, List.getElem?_eq_getElem])
    rw [hx] at hv
    cases hv
    have hs : ns.reverse.take (i + 1) = ns.reverse.take i ++ [ns.reverse[i]'hin'] := by rw [List.take_add_one, List.getElem?_eq_getElem hin']; rfl
    have e : ns.reverse = ns.reverse.take i ++ ns.reverse[i]'hin' :: ns.reverse.drop (i + 1) := by
      have ht := List.take_append_drop (i + 1) ns.reverse
      rw [hs, List.append_assoc] at ht
      exact ht.symm
    rw [hs]
    exact turn c _ _ _ t m₁ h tk own e (List.mem_reverse.mp (List.getElem_mem hin')) hoff hf' hp' (kst_fr h1 h2 F₁) N₁
  · rintro m₁ nx h tk ⟨c, rfl, hf', h1, h2, hp'⟩ F₁ N₁
    rw [hsz, ← List.length_reverse, List.take_length] at hp'
    exact done c m₁ h tk hf' hp' (kst_frOut h1 h2 F₁) N₁
end

end
end Mine
/-! Y_i2dA -/
namespace Mine
section
theorem i2d_new {w : World} {loose : List PySem.Str} {mean : ExcName → Option Value} {mg mb : PySem.Str → Option Value}
    {dp un : Nat} {gd : Option (List Code)} {cn : PySem.Str} {cs : Scope} {a : Addr} {ccd : Value} {cl : List (PySem.Str × Addr)} {outer : List Env} {A₀ : Around} {base h₀ : Heap} {L : Addr} {m : PySem.Str → Option Value} {s : Shared} {Q E : Value → Shared → Prop} {news : List (Addr × Obj)}
    (B : Below A₀ base outer h₀) (F : Fr h₀ L s.heap m) (X : (hd.heap_1 w.params).In h₀) (N : News h₀ L s.heap ((55, tabObj #[]) :: news)) (T : Top topProg loose mean mg mb h₀) (hk : cs.kind = .function)
     (hne : ∀ p ∈ news, p.1 ≠ 55) (codeHd : CodeHd base 59 55) {x : Int} {Wd : Nat} (hW : Wd ≤ 100) (hW0 : 0 < Wd) (hx0 : 0 < x) (hc0 : 0 < ((Builtin.Int.intBits x : Int) + (Wd : Int) - 1).fdiv (Wd : Int)) (hc1 : ((Builtin.Int.intBits x : Int) + (Wd : Int) - 1).fdiv (Wd : Int) ≤ 64) (hxc : x < 2 ^ (Wd * (((Builtin.Int.intBits x : Int) + (Wd : Int) - 1).fdiv (Wd : Int)).toNat)) {tx tn : Tok}
    (hd1 : dp + 70 < recursionLimit) (hu : un + 600 < cLine)
    (hret : ∀ c oc vs t d us k h1 tk1, IntsAre us (digs Wd x (((Builtin.Int.intBits x : Int) + (Wd : Int) - 1).fdiv (Wd : Int)).toNat) → Fr h₀ L h1 m → News h₀ L h1 ((d, W.listOf us.toArray k) :: (c, oc) :: (55, tabObj #[rawInt 74, rawInt 4, .ref c]) :: news) → oc.data = .fields vs → vs[1]? = some (.str qI t) → @LT.lt Nat _ d c → @LT.lt Nat _ 55 d → AllLt d news → Q (.ref d) { s with heap := h1, toks := tk1 }) :
    wpAny (model Challenge.rw_sn0051_01.row.prog w) (ktrTop dp un gd cn cs L a ccd cl outer) (call (.ref 60) [.int x tx, .int Wd tn]) Q E s := by
  revert X
  k_fill
  intro X
  refine wpAny_call ?_
  k_with_none
  k_with "k_ne" => (refine neN ?_; (try dsimp only); first | with_reducible assumption | (refine Nat.ne_of_lt ?_; first | with_reducible assumption | exact And.left (by with_reducible assumption) | exact And.left (And.right (by with_reducible assumption)) | exact And.right (by with_reducible assumption) | exact And.left (And.right (And.right (by with_reducible assumption))) | exact And.right (And.right (by with_reducible assumption)) | exact And.left (And.right (And.right (And.right (by with_reducible assumption)))) | exact And.right (And.right (And.right (by with_reducible assumption))) | exact And.left (And.right (And.right (And.right (And.right (by with_reducible assumption))))) | exact And.right (And.right (And.right (And.right (by with_reducible assumption)))) | exact And.left (And.right (And.right (And.right (And.right (And.right (by with_reducible assumption)))))) | exact And.right (And.right (And.right (And.right (And.right (by with_reducible assumption))))) | exact And.left (And.right (And.right (And.right (And.right (And.right (And.right (by with_reducible assumption))))))) | exact And.right (And.right (And.right (And.right (And.right (And.right (by with_reducible assumption)))))) | exact And.left (And.right (And.right (And.right (And.right (And.right (And.right (And.right (by with_reducible assumption)))))))) | exact And.right (And.right (And.right (And.right (And.right (And.right (And.right (by with_reducible assumption))))))) | exact And.left (And.right (And.right (And.right (And.right (And.right (And.right (And.right (And.right (by with_reducible assumption))))))))) | exact And.right (And.right (And.right (And.right (And.right (And.right (And.right (And.right (by with_reducible assumption)))))))) | exact And.left (And.right (And.right (And.right (And.right (And.right (And.right (And.right (And.right (And.right (by with_reducible assumption)))))))))) | exact And.right (And.right (And.right (And.right (And.right (And.right (And.right (And.right (And.right (by with_reducible assumption))))))))) | exact And.left (And.right (And.right (And.right (And.right (And.right (And.right (And.right (And.right (And.right (And.right (by with_reducible assumption))))))))))) | exact And.right (And.right (And.right (And.right (And.right (And.right (And.right (And.right (And.right (And.right (by with_reducible assumption)))))))))) | exact And.left (And.right (And.right (And.right (And.right (And.right (And.right (And.right (And.right (And.right (And.right (And.right (by with_reducible assumption)))))))))))) | exact And.right (And.right (And.right (And.right (And.right (And.right (And.right (And.right (And.right (And.right (And.right (by with_reducible assumption))))))))))) | exact And.left (And.right (And.right (And.right (And.right (And.right (And.right (And.right (And.right (And.right (And.right (And.right (And.right (by with_reducible assumption))))))))))))) | exact And.right (And.right (And.right (And.right (And.right (And.right (And.right (And.right (And.right (And.right (And.right (And.right (by with_reducible assumption)))))))))))) | exact And.left (And.right (And.right (And.right (And.right (And.right (And.right (And.right (And.right (And.right (And.right (And.right (And.right (And.right (by with_reducible assumption)))))))))))))) | exact And.right (And.right (And.right (And.right (And.right (And.right (And.right (And.right (And.right (And.right (And.right (And.right (And.right (by with_reducible assumption))))))))))))) | exact And.left (And.right (And.right (And.right (And.right (And.right (And.right (And.right (And.right (And.right (And.right (And.right (And.right (And.right (And.right (by with_reducible assumption))))))))))))))) | exact And.right (And.right (And.right (And.right (And.right (And.right (And.right (And.right (And.right (And.right (And.right (And.right (And.right (And.right (by with_reducible assumption))))))))))))))) | (refine Nat.ne_of_gt ?_; first | with_reducible assumption | exact And.left (by with_reducible assumption) | exact And.left (And.right (by with_reducible assumption)) | exact And.right (by with_reducible assumption) | exact And.left (And.right (And.right (by with_reducible assumption))) | exact And.right (And.right (by with_reducible assumption)) | exact And.left (And.right (And.right (And.right (by with_reducible assumption)))) | exact And.right (And.right (And.right (by with_reducible assumption))) | exact And.left (And.right (And.right (And.right (And.right (by with_reducible assumption))))) | exact And.right (And.right (And.right (And.right (by with_reducible assumption)))) | exact And.left (And.right (And.right (And.right (And.right (And.right (by with_reducible assumption)))))) | exact And.right (And.right (And.right (And.right (And.right (by with_reducible assumption))))) | exact And.left (And.right (And.right (And.right (And.right (And.right (And.right (by with_reducible assumption))))))) | exact And.right (And.right (And.right (And.right (And.right (And.right (by with_reducible assumption)))))) | exact And.left (And.right (And.right (And.right (And.right (And.right (And.right (And.right (by with_reducible assumption)))))))) | exact And.right (And.right (And.right (And.right (And.right (And.right (And.right (by with_reducible assumption))))))) | exact And.left (And.right (And.right (And.right (And.right (And.right (And.right (And.right (And.right (by with_reducible assumption))))))))) | exact And.right (And.right (And.right (And.right (And.right (And.right (And.right (And.right (by with_reducible assumption)))))))) | exact And.left (And.right (And.right (And.right (And.right (And.right (And.right (And.right (And.right (And.right (by with_reducible assumption)))))))))) | exact And.right (And.right (And.right (And.right (And.right (And.right (And.right (And.right (And.right (by with_reducible assumption))))))))) | exact And.left (And.right (And.right (And.right (And.right (And.right (And.right (And.right (And.right (And.right (And.right (by with_reducible assumption))))))))))) | exact And.right (And.right (And.right (And.right (And.right (And.right (And.right (And.right (And.right (And.right (by with_reducible assumption)))))))))) | exact And.left (And.right (And.right (And.right (And.right (And.right (And.right (And.right (And.right (And.right (And.right (And.right (by with_reducible assumption)))))))))))) | exact And.right (And.right (And.right (And.right (And.right (And.right (And.right (And.right (And.right (And.right (And.right (by with_reducible assumption))))))))))) | exact And.left (And.right (And.right (And.right (And.right (And.right (And.right (And.right (And.right (And.right (And.right (And.right (And.right (by with_reducible assumption))))))))))))) | exact And.right (And.right (And.right (And.right (And.right (And.right (And.right (And.right (And.right (And.right (And.right (And.right (by with_reducible assumption)))))))))))) | exact And.left (And.right (And.right (And.right (And.right (And.right (And.right (And.right (And.right (And.right (And.right (And.right (And.right (And.right (by with_reducible assumption)))))))))))))) | exact And.right (And.right (And.right (And.right (And.right (And.right (And.right (And.right (And.right (And.right (And.right (And.right (And.right (by with_reducible assumption))))))))))))) | exact And.left (And.right (And.right (And.right (And.right (And.right (And.right (And.right (And.right (And.right (And.right (And.right (And.right (And.right (And.right (by with_reducible assumption))))))))))))))) | exact And.right (And.right (And.right (And.right (And.right (And.right (And.right (And.right (And.right (And.right (And.right (And.right (And.right (And.right (by with_reducible assumption))))))))))))))) | (first | with_reducible assumption | exact And.left (by with_reducible assumption) | exact And.left (And.right (by with_reducible assumption)) | exact And.right (by with_reducible assumption) | exact And.left (And.right (And.right (by with_reducible assumption))) | exact And.right (And.right (by with_reducible assumption)) | exact And.left (And.right (And.right (And.right (by with_reducible assumption)))) | exact And.right (And.right (And.right (by with_reducible assumption))) | exact And.left (And.right (And.right (And.right (And.right (by with_reducible assumption))))) | exact And.right (And.right (And.right (And.right (by with_reducible assumption)))) | exact And.left (And.right (And.right (And.right (And.right (And.right (by with_reducible assumption)))))) | exact And.right (And.right (And.right (And.right (And.right (by with_reducible assumption))))) | exact And.left (And.right (And.right (And.right (And.right (And.right (And.right (by with_reducible assumption))))))) | exact And.right (And.right (And.right (And.right (And.right (And.right (by with_reducible assumption)))))) | exact And.left (And.right (And.right (And.right (And.right (And.right (And.right (And.right (by with_reducible assumption)))))))) | exact And.right (And.right (And.right (And.right (And.right (And.right (And.right (by with_reducible assumption))))))) | exact And.left (And.right (And.right (And.right (And.right (And.right (And.right (And.right (And.right (by with_reducible assumption))))))))) | exact And.right (And.right (And.right (And.right (And.right (And.right (And.right (And.right (by with_reducible assumption)))))))) | exact And.left (And.right (And.right (And.right (And.right (And.right (And.right (And.right (And.right (And.right (by with_reducible assumption)))))))))) | exact And.right (And.right (And.right (And.right (And.right (And.right (And.right (And.right (And.right (by with_reducible assumption))))))))) | exact And.left (And.right (And.right (And.right (And.right (And.right (And.right (And.right (And.right (And.right (And.right (by with_reducible assumption))))))))))) | exact And.right (And.right (And.right (And.right (And.right (And.right (And.right (And.right (And.right (And.right (by with_reducible assumption)))))))))) | exact And.left (And.right (And.right (And.right (And.right (And.right (And.right (And.right (And.right (And.right (And.right (And.right (by with_reducible assumption)))))))))))) | exact And.right (And.right (And.right (And.right (And.right (And.right (And.right (And.right (And.right (And.right (And.right (by with_reducible assumption))))))))))) | exact And.left (And.right (And.right (And.right (And.right (And.right (And.right (And.right (And.right (And.right (And.right (And.right (And.right (by with_reducible assumption))))))))))))) | exact And.right (And.right (And.right (And.right (And.right (And.right (And.right (And.right (And.right (And.right (And.right (And.right (by with_reducible assumption)))))))))))) | exact And.left (And.right (And.right (And.right (And.right (And.right (And.right (And.right (And.right (And.right (And.right (And.right (And.right (And.right (by with_reducible assumption)))))))))))))) | exact And.right (And.right (And.right (And.right (And.right (And.right (And.right (And.right (And.right (And.right (And.right (And.right (And.right (by with_reducible assumption))))))))))))) | exact And.left (And.right (And.right (And.right (And.right (And.right (And.right (And.right (And.right (And.right (And.right (And.right (And.right (And.right (And.right (by with_reducible assumption))))))))))))))) | exact And.right (And.right (And.right (And.right (And.right (And.right (And.right (And.right (And.right (And.right (And.right (And.right (And.right (And.right (by with_reducible assumption))))))))))))))) | (refine Ne.symm ?_; first | with_reducible assumption | exact And.left (by with_reducible assumption) | exact And.left (And.right (by with_reducible assumption)) | exact And.right (by with_reducible assumption) | exact And.left (And.right (And.right (by with_reducible assumption))) | exact And.right (And.right (by with_reducible assumption)) | exact And.left (And.right (And.right (And.right (by with_reducible assumption)))) | exact And.right (And.right (And.right (by with_reducible assumption))) | exact And.left (And.right (And.right (And.right (And.right (by with_reducible assumption))))) | exact And.right (And.right (And.right (And.right (by with_reducible assumption)))) | exact And.left (And.right (And.right (And.right (And.right (And.right (by with_reducible assumption)))))) | exact And.right (And.right (And.right (And.right (And.right (by with_reducible assumption))))) | exact And.left (And.right (And.right (And.right (And.right (And.right (And.right (by with_reducible assumption))))))) | exact And.right (And.right (And.right (And.right (And.right (And.right (by with_reducible assumption)))))) | exact And.left (And.right (And.right (And.right (And.right (And.right (And.right (And.right (by with_reducible assumption)))))))) | exact And.right (And.right (And.right (And.right (And.right (And.right (And.right (by with_reducible assumption))))))) | exact And.left (And.right (And.right (And.right (And.right (And.right (And.right (And.right (And.right (by with_reducible assumption))))))))) | exact And.right (And.right (And.right (And.right (And.right (And.right (And.right (And.right (by with_reducible assumption)))))))) | exact And.left (And.right (And.right (And.right (And.right (And.right (And.right (And.right (And.right (And.right (by with_reducible assumption)))))))))) | exact And.right (And.right (And.right (And.right (And.right (And.right (And.right (And.right (And.right (by with_reducible assumption))))))))) | exact And.left (And.right (And.right (And.right (And.right (And.right (And.right (And.right (And.right (And.right (And.right (by with_reducible assumption))))))))))) | exact And.right (And.right (And.right (And.right (And.right (And.right (And.right (And.right (And.right (And.right (by with_reducible assumption)))))))))) | exact And.left (And.right (And.right (And.right (And.right (And.right (And.right (And.right (And.right (And.right (And.right (And.right (by with_reducible assumption)))))))))))) | exact And.right (And.right (And.right (And.right (And.right (And.right (And.right (And.right (And.right (And.right (And.right (by with_reducible assumption))))))))))) | exact And.left (And.right (And.right (And.right (And.right (And.right (And.right (And.right (And.right (And.right (And.right (And.right (And.right (by with_reducible assumption))))))))))))) | exact And.right (And.right (And.right (And.right (And.right (And.right (And.right (And.right (And.right (And.right (And.right (And.right (by with_reducible assumption)))))))))))) | exact And.left (And.right (And.right (And.right (And.right (And.right (And.right (And.right (And.right (And.right (And.right (And.right (And.right (And.right (by with_reducible assumption)))))))))))))) | exact And.right (And.right (And.right (And.right (And.right (And.right (And.right (And.right (And.right (And.right (And.right (And.right (And.right (by with_reducible assumption))))))))))))) | exact And.left (And.right (And.right (And.right (And.right (And.right (And.right (And.right (And.right (And.right (And.right (And.right (And.right (And.right (And.right (by with_reducible assumption))))))))))))))) | exact And.right (And.right (And.right (And.right (And.right (And.right (And.right (And.right (And.right (And.right (And.right (And.right (And.right (And.right (by with_reducible assumption))))))))))))))) | lia)
  k_with "k_all" => first | assumption | (refine allNe_lt (by assumption) ?_; lia)
  k_with "binaryOp LShift int int" => k_extra "shl"
  k_with "binaryOp RShift int int" => k_extra "shr"
  k_with "binaryOp Mult int int" => k_extra "mul"
  k_with "call ref" => fail
  first
  | (k_dflt cell_enter)
  | (k_dflt (refine' code_defC ?k1 ?k2 ?k3 ?k4 ?k5 ?kA ?kF ?kK ?k6 ?k7 ?k8 ?k9 ?kB ?kD ?_ ?c2 ?c3 ?c4; (case kA => exact rfl); (case kF => exact rfl); (case kK => assumption); (case k1 => k_asm); (case k2 => k_asm); (case k3 => k_asm); (case k4 => k_asm); (case k5 => k_asm); (case k6 => k_is); (case k7 => k_is); (case k8 => ktr_room); (case k9 => first | exact BindsTo.of_eq rfl | exact binds_K (by k_in) rfl (by k_is) rfl rfl rfl); (case kB => exact rfl); (case kD => decide); (case c2 => exact rfl); (case c3 => exact rfl); (case c4 => exact rfl); k_whole; intro g' L' h' tk' cells' FG' F' N' Y' B' X' T' l'; (try dsimp only); (try k_cells Y'); (try simp only [List.nil_append, List.cons_append] at N'); (try k_lt l'); (try obtain ⟨l1b, lAll⟩ := l'); (try k_lift B'); (try k_fold)))
  | (k_dflt (refine' code_def ?k1 ?k2 ?k3 ?k4 ?k5 ?kA ?kF ?kK ?k6 ?k7 ?k8 ?k9 ?kB ?_ ?c2 ?c3 ?c4 ?c5; (case kA => exact rfl); (case kF => exact rfl); (case kK => assumption); (case k1 => k_asm); (case k2 => k_asm); (case k3 => k_asm); (case k4 => k_asm); (case k5 => k_asm); (case k6 => k_is); (case k7 => k_is); (case k8 => ktr_room); (case k9 => first | exact BindsTo.of_eq rfl | exact binds_K (by k_in) rfl (by k_is) rfl rfl rfl); (case c5 => decide); (case kB => exact locs rfl); (case c2 => exact rfl); (case c3 => exact rfl); (case c4 => exact rfl); k_whole; intro g' L' h' FG' F' N' B' X' T'; (try dsimp only); (try k_lift B'); (try k_fold)))
  k_steps
  rotate_left
  · exfalso; lia
  rename_i o1 o2 o3 d1 d2 d3 lI hh1 lA DI hh2 iD nD sD eD1 eD2 eD3 lB hh3 oA dA fI cI ocI vsI tI ctI dcI h2 tk2 dI1 dI2 lI1 lI2 h3 oI F3 N3 dI hx00
  have hnD : (nD : Int) = ((Builtin.Int.intBits x : Int) + (Wd : Int) - 1).fdiv (Wd : Int) := by lia
  have hN64 : (nD : Int) ≤ 64 := hnD ▸ hc1
  generalize hO : fnMade _ _ _ _ _ _ _ _ _ _ = O at N3
  generalize hPOST : (((lI, _) :: _) : List (Addr × Obj)) = POST at N3
  have ind : ∀ (K : Nat) (x lo hi : Int) (tx tl th : Tok) (us : List Value) (ds : List Int) (k : Nat) {dp un : Nat} {gd : Option (List Code)} {cn : PySem.Str} {cs : Scope} {a : Addr} {ccd : Value} {cl : List (PySem.Str × Addr)} {outer : List Env} {A₀ : Around} {base h₀ : Heap} {L : Addr} {m : PySem.Str → Option Value} {s : Shared} {Q E : Value → Shared → Prop},
      Below A₀ base outer h₀ → Fr h₀ L s.heap m → (hd.heap_1 w.params).In h₀ → News h₀ L s.heap ((fI, O) :: (cI, ocI) :: (DI, W.listOf us.toArray k) :: POST) → Top topProg loose mean mg mb h₀ → cs.kind = .function →
      CodeHd base 59 55 → IntsAre us ds → ds.length = nD → 0 ≤ lo → lo < hi → hi ≤ nD → hi - lo ≤ K → 0 ≤ x → x < 2 ^ (Wd * (hi - lo).toNat) → dp + K + 1 < recursionLimit → un + 8 * K + 8 < cLine →
      (∀ us' k' h' tk', IntsAre us' (lay ds lo.toNat (digs Wd x (hi - lo).toNat)) → Fr h₀ L h' m → News h₀ L h' ((fI, O) :: (cI, ocI) :: (DI, W.listOf us'.toArray k') :: POST) → Q .none { s with heap := h', toks := tk' }) →
      wpAny (model Challenge.rw_sn0051_01.row.prog w) (ktrTop dp un gd cn cs L a ccd cl outer) (call (.ref fI) [.int x tx, .int lo tl, .int hi th]) Q E s := by
    intro K
    induction K with
    | zero => intros; exfalso; lia
    | succ K ih =>
      intro x lo hi tx tl th us ds k dp un gd cn cs a ccd cl outer A₀ base h₀ L m s Q E B F X N T hk codeHd2 hI hdl hlo hlt hhi hK hx0 hx hd1 hu hret
      subst hPOST
      subst hO
      k_with_none
      k_with "k_ne" => (refine neN ?_; (try dsimp only); first | with_reducible assumption | (refine Nat.ne_of_lt ?_; first | with_reducible assumption | exact And.left (by with_reducible assumption) | exact And.left (And.right (by with_reducible assumption)) | exact And.right (by with_reducible assumption) | exact And.left (And.right (And.right (by with_reducible assumption))) | exact And.right (And.right (by with_reducible assumption)) | exact And.left (And.right (And.right (And.right (by with_reducible assumption)))) | exact And.right (And.right (And.right (by with_reducible assumption))) | exact And.left (And.right (And.right (And.right (And.right (by with_reducible assumption))))) | exact And.right (And.right (And.right (And.right (by with_reducible assumption)))) | exact And.left (And.right (And.right (And.right (And.right (And.right (by with_reducible assumption)))))) | exact And.right (And.right (And.right (And.right (And.right (by with_reducible assumption))))) | exact And.left (And.right (And.right (And.right (And.right (And.right (And.right (by with_reducible assumption))))))) | exact And.right (And.right (And.right (And.right (And.right (And.right (by with_reducible assumption)))))) | exact And.left (And.right (And.right (And.right (And.right (And.right (And.right (And.right (by with_reducible assumption)))))))) | exact And.right (And.right (And.right (And.right (And.right (And.right (And.right (by with_reducible assumption))))))) | exact And.left (And.right (And.right (And.right (And.right (And.right (And.right (And.right (And.right (by with_reducible assumption))))))))) | exact And.right (And.right (And.right (And.right (And.right (And.right (And.right (And.right (by with_reducible assumption)))))))) | exact And.left (And.right (And.right (And.right (And.right (And.right (And.right (And.right (And.right (And.right (by with_reducible assumption)))))))))) | exact And.right (And.right (And.right (And.right (And.right (And.right (And.right (And.right (And.right (by with_reducible assumption))))))))) | exact And.left (And.right (And.right (And.right (And.right (And.right (And.right (And.right (And.right (And.right (And.right (by with_reducible assumption))))))))))) | exact And.right (And.right (And.right (And.right (And.right (And.right (And.right (And.right (And.right (And.right (by with_reducible assumption)))))))))) | exact And.left (And.right (And.right (And.right (And.right (And.right (And.right (And.right (And.right (And.right (And.right (And.right (by with_reducible assumption)))))))))))) | exact And.right (And.right (And.right (And.right (And.right (And.right (And.right (And.right (And.right (And.right (And.right (by with_reducible assumption))))))))))) | exact And.left (And.right (And.right (And.right (And.right (And.right (And.right (And.right (And.right (And.right (And.right (And.right (And.right (by with_reducible assumption))))))))))))) | exact And.right (And.right (And.right (And.right (And.right (And.right (And.right (And.right (And.right (And.right (And.right (And.right (by with_reducible assumption)))))))))))) | exact And.left (And.right (And.right (And.right (And.right (And.right (And.right (And.right (And.right (And.right (And.right (And.right (And.right (And.right (by with_reducible assumption)))))))))))))) | exact And.right (And.right (And.right (And.right (And.right (And.right (And.right (And.right (And.right (And.right (And.right (And.right (And.right (by with_reducible assumption))))))))))))) | exact And.left (And.right (And.right (And.right (And.right (And.right (And.right (And.right (And.right (And.right (And.right (And.right (And.right (And.right (And.right (by with_reducible assumption))))))))))))))) | exact And.right (And.right (And.right (And.right (And.right (And.right (And.right (And.right (And.right (And.right (And.right (And.right (And.right (And.right (by with_reducible assumption))))))))))))))) | (refine Nat.ne_of_gt ?_; first | with_reducible assumption | exact And.left (by with_reducible assumption) | exact And.left (And.right (by with_reducible assumption)) | exact And.right (by with_reducible assumption) | exact And.left (And.right (And.right (by with_reducible assumption))) | exact And.right (And.right (by with_reducible assumption)) | exact And.left (And.right (And.right (And.right (by with_reducible assumption)))) | exact And.right (And.right (And.right (by with_reducible assumption))) | exact And.left (And.right (And.right (And.right (And.right (by with_reducible assumption))))) | exact And.right (And.right (And.right (And.right (by with_reducible assumption)))) | exact And.left (And.right (And.right (And.right (And.right (And.right (by with_reducible assumption)))))) | exact And.right (And.right (And.right (And.right (And.right (by with_reducible assumption))))) | exact And.left (And.right (And.right (And.right (And.right (And.right (And.right (by with_reducible assumption))))))) | exact And.right (And.right (And.right (And.right (And.right (And.right (by with_reducible assumption)))))) | exact And.left (And.right (And.right (And.right (And.right (And.right (And.right (And.right (by with_reducible assumption)))))))) | exact And.right (And.right (And.right (And.right (And.right (And.right (And.right (by with_reducible assumption))))))) | exact And.left (And.right (And.right (And.right (And.right (And.right (And.right (And.right (And.right (by with_reducible assumption))))))))) | exact And.right (And.right (And.right (And.right (And.right (And.right (And.right (And.right (by with_reducible assumption)))))))) | exact And.left (And.right (And.right (And.right (And.right (And.right (And.right (And.right (And.right (And.right (by with_reducible assumption)))))))))) | exact And.right (And.right (And.right (And.right (And.right (And.right (And.right (And.right (And.right (by with_reducible assumption))))))))) | exact And.left (And.right (And.right (And.right (And.right (And.right (And.right (And.right (And.right (And.right (And.right (by with_reducible assumption))))))))))) | exact And.right (And.right (And.right (And.right (And.right (And.right (And.right (And.right (And.right (And.right (by with_reducible assumption)))))))))) | exact And.left (And.right (And.right (And.right (And.right (And.right (And.right (And.right (And.right (And.right (And.right (And.right (by with_reducible assumption)))))))))))) | exact And.right (And.right (And.right (And.right (And.right (And.right (And.right (And.right (And.right (And.right (And.right (by with_reducible assumption))))))))))) | exact And.left (And.right (And.right (And.right (And.right (And.right (And.right (And.right (And.right (And.right (And.right (And.right (And.right (by with_reducible assumption))))))))))))) | exact And.right (And.right (And.right (And.right (And.right (And.right (And.right (And.right (And.right (And.right (And.right (And.right (by with_reducible assumption)))))))))))) | exact And.left (And.right (And.right (And.right (And.right (And.right (And.right (And.right (And.right (And.right (And.right (And.right (And.right (And.right (by with_reducible assumption)))))))))))))) | exact And.right (And.right (And.right (And.right (And.right (And.right (And.right (And.right (And.right (And.right (And.right (And.right (And.right (by with_reducible assumption))))))))))))) | exact And.left (And.right (And.right (And.right (And.right (And.right (And.right (And.right (And.right (And.right (And.right (And.right (And.right (And.right (And.right (by with_reducible assumption))))))))))))))) | exact And.right (And.right (And.right (And.right (And.right (And.right (And.right (And.right (And.right (And.right (And.right (And.right (And.right (And.right (by with_reducible assumption))))))))))))))) | (first | with_reducible assumption | exact And.left (by with_reducible assumption) | exact And.left (And.right (by with_reducible assumption)) | exact And.right (by with_reducible assumption) | exact And.left (And.right (And.right (by with_reducible assumption))) | exact And.right (And.right (by with_reducible assumption)) | exact And.left (And.right (And.right (And.right (by with_reducible assumption)))) | exact And.right (And.right (And.right (by with_reducible assumption))) | exact And.left (And.right (And.right (And.right (And.right (by with_reducible assumption))))) | exact And.right (And.right (And.right (And.right (by with_reducible assumption)))) | exact And.left (And.right (And.right (And.right (And.right (And.right (by with_reducible assumption)))))) | exact And.right (And.right (And.right (And.right (And.right (by with_reducible assumption))))) | exact And.left (And.right (And.right (And.right (And.right (And.right (And.right (by with_reducible assumption))))))) | exact And.right (And.right (And.right (And.right (And.right (And.right (by with_reducible assumption)))))) | exact And.left (And.right (And.right (And.right (And.right (And.right (And.right (And.right (by with_reducible assumption)))))))) | exact And.right (And.right (And.right (And.right (And.right (And.right (And.right (by with_reducible assumption))))))) | exact And.left (And.right (And.right (And.right (And.right (And.right (And.right (And.right (And.right (by with_reducible assumption))))))))) | exact And.right (And.right (And.right (And.right (And.right (And.right (And.right (And.right (by with_reducible assumption)))))))) | exact And.left (And.right (And.right (And.right (And.right (And.right (And.right (And.right (And.right (And.right (by with_reducible assumption)))))))))) | exact And.right (And.right (And.right (And.right (And.right (And.right (And.right (And.right (And.right (by with_reducible assumption))))))))) | exact And.left (And.right (And.right (And.right (And.right (And.right (And.right (And.right (And.right (And.right (And.right (by with_reducible assumption))))))))))) | exact And.right (And.right (And.right (And.right (And.right (And.right (And.right (And.right (And.right (And.right (by with_reducible assumption)))))))))) | exact And.left (And.right (And.right (And.right (And.right (And.right (And.right (And.right (And.right (And.right (And.right (And.right (by with_reducible assumption)))))))))))) | exact And.right (And.right (And.right (And.right (And.right (And.right (And.right (And.right (And.right (And.right (And.right (by with_reducible assumption))))))))))) | exact And.left (And.right (And.right (And.right (And.right (And.right (And.right (And.right (And.right (And.right (And.right (And.right (And.right (by with_reducible assumption))))))))))))) | exact And.right (And.right (And.right (And.right (And.right (And.right (And.right (And.right (And.right (And.right (And.right (And.right (by with_reducible assumption)))))))))))) | exact And.left (And.right (And.right (And.right (And.right (And.right (And.right (And.right (And.right (And.right (And.right (And.right (And.right (And.right (by with_reducible assumption)))))))))))))) | exact And.right (And.right (And.right (And.right (And.right (And.right (And.right (And.right (And.right (And.right (And.right (And.right (And.right (by with_reducible assumption))))))))))))) | exact And.left (And.right (And.right (And.right (And.right (And.right (And.right (And.right (And.right (And.right (And.right (And.right (And.right (And.right (And.right (by with_reducible assumption))))))))))))))) | exact And.right (And.right (And.right (And.right (And.right (And.right (And.right (And.right (And.right (And.right (And.right (And.right (And.right (And.right (by with_reducible assumption))))))))))))))) | (refine Ne.symm ?_; first | with_reducible assumption | exact And.left (by with_reducible assumption) | exact And.left (And.right (by with_reducible assumption)) | exact And.right (by with_reducible assumption) | exact And.left (And.right (And.right (by with_reducible assumption))) | exact And.right (And.right (by with_reducible assumption)) | exact And.left (And.right (And.right (And.right (by with_reducible assumption)))) | exact And.right (And.right (And.right (by with_reducible assumption))) | exact And.left (And.right (And.right (And.right (And.right (by with_reducible assumption))))) | exact And.right (And.right (And.right (And.right (by with_reducible assumption)))) | exact And.left (And.right (And.right (And.right (And.right (And.right (by with_reducible assumption)))))) | exact And.right (And.right (And.right (And.right (And.right (by with_reducible assumption))))) | exact And.left (And.right (And.right (And.right (And.right (And.right (And.right (by with_reducible assumption))))))) | exact And.right (And.right (And.right (And.right (And.right (And.right (by with_reducible assumption)))))) | exact And.left (And.right (And.right (And.right (And.right (And.right (And.right (And.right (by with_reducible assumption)))))))) | exact And.right (And.right (And.right (And.right (And.right (And.right (And.right (by with_reducible assumption))))))) | exact And.left (And.right (And.right (And.right (And.right (And.right (And.right (And.right (And.right (by with_reducible assumption))))))))) | exact And.right (And.right (And.right (And.right (And.right (And.right (And.right (And.right (by with_reducible assumption)))))))) | exact And.left (And.right (And.right (And.right (And.right (And.right (And.right (And.right (And.right (And.right (by with_reducible assumption)))))))))) | exact And.right (And.right (And.right (And.right (And.right (And.right (And.right (And.right (And.right (by with_reducible assumption))))))))) | exact And.left (And.right (And.right (And.right (And.right (And.right (And.right (And.right (And.right (And.right (And.right (by with_reducible assumption))))))))))) | exact And.right (And.right (And.right (And.right (And.right (And.right (And.right (And.right (And.right (And.right (by with_reducible assumption)))))))))) | exact And.left (And.right (And.right (And.right (And.right (And.right (And.right (And.right (And.right (And.right (And.right (And.right (by with_reducible assumption)))))))))))) | exact And.right (And.right (And.right (And.right (And.right (And.right (And.right (And.right (And.right (And.right (And.right (by with_reducible assumption))))))))))) | exact And.left (And.right (And.right (And.right (And.right (And.right (And.right (And.right (And.right (And.right (And.right (And.right (And.right (by with_reducible assumption))))))))))))) | exact And.right (And.right (And.right (And.right (And.right (And.right (And.right (And.right (And.right (And.right (And.right (And.right (by with_reducible assumption)))))))))))) | exact And.left (And.right (And.right (And.right (And.right (And.right (And.right (And.right (And.right (And.right (And.right (And.right (And.right (And.right (by with_reducible assumption)))))))))))))) | exact And.right (And.right (And.right (And.right (And.right (And.right (And.right (And.right (And.right (And.right (And.right (And.right (And.right (by with_reducible assumption))))))))))))) | exact And.left (And.right (And.right (And.right (And.right (And.right (And.right (And.right (And.right (And.right (And.right (And.right (And.right (And.right (And.right (by with_reducible assumption))))))))))))))) | exact And.right (And.right (And.right (And.right (And.right (And.right (And.right (And.right (And.right (And.right (And.right (And.right (And.right (And.right (by with_reducible assumption))))))))))))))) | lia)
      k_with "k_all" => first | assumption | (refine allNe_lt (by assumption) ?_; lia)
      k_with "binaryOp LShift int int" => k_extra "shl"
      k_with "binaryOp RShift int int" => k_extra "shr"
      k_with "binaryOp Mult int int" => k_extra "mul"
      have hm : lo + 1 ≠ hi → Half lo hi ((lo+hi).fdiv (2 ^ Int.toNat 1)) nD K := fun h => half_ok hlo hhi hK hN64 (mid_imp hlo hlt h)
      have hdl' : (ds.length : Int) = nD := congrArg _ hdl
      have hwk := wk_le (d := hi - lo) hW (sub_64 hlo hhi hN64)
      k_with "shr" => (refine rshift_int (by first | decide | exact (shift_ok (hm (by assumption)).a6 (hm (by assumption)).a7 hW).1) ?_)
      k_with "shl" => (have h9a := shift_ok (hm (by assumption)).a6 (hm (by assumption)).a7 hW; refine lshift_int h9a.1 (shl_fit (fdiv_bits hx0 hx hwk) h9a.2) ?_)
      k_with "call ref" => ((try rw [xor_low hx0]); (refine' ih _ _ _ _ _ _ _ _ _ ?c1 ?c2 ?c3 ?c4 ?c5 ?c6 ?c7 ?ca ?cb ?c8 ?c9 ?c10 ?c11 ?cc ?cd ?c12 ?c13 ?_); (case c1 => k_dflt k_asm); (case c2 => k_dflt k_asm); (case c3 => k_dflt k_asm); (case c4 => k_dflt k_asm); (case c5 => k_dflt k_asm); (case c6 => exact rfl); (case c7 => assumption); (case ca => assumption); (case cb => first | exact hdl | (rw [lay_length (by rw [digs_length]; exact half_len hlo (hm (by assumption)) hdl')]; exact hdl)); (case c8 => first | exact hlo | exact (hm (by assumption)).a0); (case c9 => first | exact (hm (by assumption)).a1 | exact (hm (by assumption)).a2); (case c10 => first | exact hhi | exact (hm (by assumption)).a3); (case c11 => first | exact (hm (by assumption)).a4 | exact (hm (by assumption)).a5); (case cc => first | exact (low_lt (Int.le_of_lt (hm (by assumption)).a1)).1 | exact (up_lt hx0 hx (Int.le_of_lt (hm (by assumption)).a1) (Int.le_of_lt (hm (by assumption)).a2)).1); (case cd => first | exact (low_lt (Int.le_of_lt (hm (by assumption)).a1)).2 | exact (up_lt hx0 hx (Int.le_of_lt (hm (by assumption)).a1) (Int.le_of_lt (hm (by assumption)).a2)).2); (case c12 => first | exact room_k hd1 | ktr_room); (case c13 => first | exact unit_k hu | ktr_units); intro us9 k9 h9 tk9 I9 F9 N9; (try dsimp only); (try k_fold))
      refine wpAny_call ?_
      k_dflt (refine' code_nest ?k1 ?k2 ?k3 ?k4 ?k5 ?kA ?kF ?kK ?k6 ?k7 ?k8 ?k9 ?kB ?_ ?c2 ?c3 ?c4 ?c5; (case kA => exact rfl); (case kF => exact rfl); (case kK => first | exact rfl | assumption); (case k1 => k_asm); (case k2 => k_asm); (case k3 => k_asm); (case k4 => k_asm); (case k5 => k_asm); (case k6 => k_mem); (case k7 => exact codeRec_news (by k_asm) (by k_mem) (by assumption) (by assumption)); (case k8 => ktr_room); (case k9 => exact BindsTo.of_eq rfl); (case c5 => decide); (case kB => exact locs rfl); (case c2 => exact rfl); (case c3 => exact rfl); (case c4 => exact rfl); k_whole; intro g' L' h' FG' F' N' B' X' T'; (try dsimp only); (try k_lift B'); (try k_fold))
      k_steps
      · exact hret _ _ _ _ (by rw [← lay_base hlo (by assumption) (hdl' ▸ hhi) hx0 hx]; assumption) (by k_asm) (by k_asm)
      · rename_i I9a _ _ _ _ _ _
        exact hret _ _ _ _ (by rw [← lay_step (mid := (lo+hi).fdiv (2 ^ Int.toNat 1)) hlo (Int.le_of_lt (hm (by assumption)).a1) (Int.le_of_lt (hm (by assumption)).a2) (hdl' ▸ hhi) hx0]; assumption) (by k_asm) (by k_asm)
  subst hPOST
  subst hO
  k_with_none
  k_with "k_ne" => (refine neN ?_; (try dsimp only); first | with_reducible assumption | (refine Nat.ne_of_lt ?_; first | with_reducible assumption | exact And.left (by with_reducible assumption) | exact And.left (And.right (by with_reducible assumption)) | exact And.right (by with_reducible assumption) | exact And.left (And.right (And.right (by with_reducible assumption))) | exact And.right (And.right (by with_reducible assumption)) | exact And.left (And.right (And.right (And.right (by with_reducible assumption)))) | exact And.right (And.right (And.right (by with_reducible assumption))) | exact And.left (And.right (And.right (And.right (And.right (by with_reducible assumption))))) | exact And.right (And.right (And.right (And.right (by with_reducible assumption)))) | exact And.left (And.right (And.right (And.right (And.right (And.right (by with_reducible assumption)))))) | exact And.right (And.right (And.right (And.right (And.right (by with_reducible assumption))))) | exact And.left (And.right (And.right (And.right (And.right (And.right (And.right (by with_reducible assumption))))))) | exact And.right (And.right (And.right (And.right (And.right (And.right (by with_reducible assumption)))))) | exact And.left (And.right (And.right (And.right (And.right (And.right (And.right (And.right (by with_reducible assumption)))))))) | exact And.right (And.right (And.right (And.right (And.right (And.right (And.right (by with_reducible assumption))))))) | exact And.left (And.right (And.right (And.right (And.right (And.right (And.right (And.right (And.right (by with_reducible assumption))))))))) | exact And.right (And.right (And.right (And.right (And.right (And.right (And.right (And.right (by with_reducible assumption)))))))) | exact And.left (And.right (And.right (And.right (And.right (And.right (And.right (And.right (And.right (And.right (by with_reducible assumption)))))))))) | exact And.right (And.right (And.right (And.right (And.right (And.right (And.right (And.right (And.right (by with_reducible assumption))))))))) | exact And.left (And.right (And.right (And.right (And.right (And.right (And.right (And.right (And.right (And.right (And.right (by with_reducible assumption))))))))))) | exact And.right (And.right (And.right (And.right (And.right (And.right (And.right (And.right (And.right (And.right (by with_reducible assumption)))))))))) | exact And.left (And.right (And.right (And.right (And.right (And.right (And.right (And.right (And.right (And.right (And.right (And.right (by with_reducible assumption)))))))))))) | exact And.right (And.right (And.right (And.right (And.right (And.right (And.right (And.right (And.right (And.right (And.right (by with_reducible assumption))))))))))) | exact And.left (And.right (And.right (And.right (And.right (And.right (And.right (And.right (And.right (And.right (And.right (And.right (And.right (by with_reducible assumption))))))))))))) | exact And.right (And.right (And.right (And.right (And.right (And.right (And.right (And.right (And.right (And.right (And.right (And.right (by with_reducible assumption)))))))))))) | exact And.left (And.right (And.right (And.right (And.right (And.right (And.right (And.right (And.right (And.right (And.right (And.right (And.right (And.right (by with_reducible assumption)))))))))))))) | exact And.right (And.right (And.right (And.right (And.right (And.right (And.right (And.right (And.right (And.right (And.right (And.right (And.right (by with_reducible assumption))))))))))))) | exact And.left (And.right (And.right (And.right (And.right (And.right (And.right (And.right (And.right (And.right (And.right (And.right (And.right (And.right (And.right (by with_reducible assumption))))))))))))))) | exact And.right (And.right (And.right (And.right (And.right (And.right (And.right (And.right (And.right (And.right (And.right (And.right (And.right (And.right (by with_reducible assumption))))))))))))))) | (refine Nat.ne_of_gt ?_; first | with_reducible assumption | exact And.left (by with_reducible assumption) | exact And.left (And.right (by with_reducible assumption)) | exact And.right (by with_reducible assumption) | exact And.left (And.right (And.right (by with_reducible assumption))) | exact And.right (And.right (by with_reducible assumption)) | exact And.left (And.right (And.right (And.right (by with_reducible assumption)))) | exact And.right (And.right (And.right (by with_reducible assumption))) | exact And.left (And.right (And.right (And.right (And.right (by with_reducible assumption))))) | exact And.right (And.right (And.right (And.right (by with_reducible assumption)))) | exact And.left (And.right (And.right (And.right (And.right (And.right (by with_reducible assumption)))))) | exact And.right (And.right (And.right (And.right (And.right (by with_reducible assumption))))) | exact And.left (And.right (And.right (And.right (And.right (And.right (And.right (by with_reducible assumption))))))) | exact And.right (And.right (And.right (And.right (And.right (And.right (by with_reducible assumption)))))) | exact And.left (And.right (And.right (And.right (And.right (And.right (And.right (And.right (by with_reducible assumption)))))))) | exact And.right (And.right (And.right (And.right (And.right (And.right (And.right (by with_reducible assumption))))))) | exact And.left (And.right (And.right (And.right (And.right (And.right (And.right (And.right (And.right (by with_reducible assumption))))))))) | exact And.right (And.right (And.right (And.right (And.right (And.right (And.right (And.right (by with_reducible assumption)))))))) | exact And.left (And.right (And.right (And.right (And.right (And.right (And.right (And.right (And.right (And.right (by with_reducible assumption)))))))))) | exact And.right (And.right (And.right (And.right (And.right (And.right (And.right (And.right (And.right (by with_reducible assumption))))))))) | exact And.left (And.right (And.right (And.right (And.right (And.right (And.right (And.right (And.right (And.right (And.right (by with_reducible assumption))))))))))) | exact And.right (And.right (And.right (And.right (And.right (And.right (And.right (And.right (And.right (And.right (by with_reducible assumption)))))))))) | exact And.left (And.right (And.right (And.right (And.right (And.right (And.right (And.right (And.right (And.right (And.right (And.right (by with_reducible assumption)))))))))))) | exact And.right (And.right (And.right (And.right (And.right (And.right (And.right (And.right (And.right (And.right (And.right (by with_reducible assumption))))))))))) | exact And.left (And.right (And.right (And.right (And.right (And.right (And.right (And.right (And.right (And.right (And.right (And.right (And.right (by with_reducible assumption))))))))))))) | exact And.right (And.right (And.right (And.right (And.right (And.right (And.right (And.right (And.right (And.right (And.right (And.right (by with_reducible assumption)))))))))))) | exact And.left (And.right (And.right (And.right (And.right (And.right (And.right (And.right (And.right (And.right (And.right (And.right (And.right (And.right (by with_reducible assumption)))))))))))))) | exact And.right (And.right (And.right (And.right (And.right (And.right (And.right (And.right (And.right (And.right (And.right (And.right (And.right (by with_reducible assumption))))))))))))) | exact And.left (And.right (And.right (And.right (And.right (And.right (And.right (And.right (And.right (And.right (And.right (And.right (And.right (And.right (And.right (by with_reducible assumption))))))))))))))) | exact And.right (And.right (And.right (And.right (And.right (And.right (And.right (And.right (And.right (And.right (And.right (And.right (And.right (And.right (by with_reducible assumption))))))))))))))) | (first | with_reducible assumption | exact And.left (by with_reducible assumption) | exact And.left (And.right (by with_reducible assumption)) | exact And.right (by with_reducible assumption) | exact And.left (And.right (And.right (by with_reducible assumption))) | exact And.right (And.right (by with_reducible assumption)) | exact And.left (And.right (And.right (And.right (by with_reducible assumption)))) | exact And.right (And.right (And.right (by with_reducible assumption))) | exact And.left (And.right (And.right (And.right (And.right (by with_reducible assumption))))) | exact And.right (And.right (And.right (And.right (by with_reducible assumption)))) | exact And.left (And.right (And.right (And.right (And.right (And.right (by with_reducible assumption)))))) | exact And.right (And.right (And.right (And.right (And.right (by with_reducible assumption))))) | exact And.left (And.right (And.right (And.right (And.right (And.right (And.right (by with_reducible assumption))))))) | exact And.right (And.right (And.right (And.right (And.right (And.right (by with_reducible assumption)))))) | exact And.left (And.right (And.right (And.right (And.right (And.right (And.right (And.right (by with_reducible assumption)))))))) | exact And.right (And.right (And.right (And.right (And.right (And.right (And.right (by with_reducible assumption))))))) | exact And.left (And.right (And.right (And.right (And.right (And.right (And.right (And.right (And.right (by with_reducible assumption))))))))) | exact And.right (And.right (And.right (And.right (And.right (And.right (And.right (And.right (by with_reducible assumption)))))))) | exact And.left (And.right (And.right (And.right (And.right (And.right (And.right (And.right (And.right (And.right (by with_reducible assumption)))))))))) | exact And.right (And.right (And.right (And.right (And.right (And.right (And.right (And.right (And.right (by with_reducible assumption))))))))) | exact And.left (And.right (And.right (And.right (And.right (And.right (And.right (And.right (And.right (And.right (And.right (by with_reducible assumption))))))))))) | exact And.right (And.right (And.right (And.right (And.right (And.right (And.right (And.right (And.right (And.right (by with_reducible assumption)))))))))) | exact And.left (And.right (And.right (And.right (And.right (And.right (And.right (And.right (And.right (And.right (And.right (And.right (by with_reducible assumption)))))))))))) | exact And.right (And.right (And.right (And.right (And.right (And.right (And.right (And.right (And.right (And.right (And.right (by with_reducible assumption))))))))))) | exact And.left (And.right (And.right (And.right (And.right (And.right (And.right (And.right (And.right (And.right (And.right (And.right (And.right (by with_reducible assumption))))))))))))) | exact And.right (And.right (And.right (And.right (And.right (And.right (And.right (And.right (And.right (And.right (And.right (And.right (by with_reducible assumption)))))))))))) | exact And.left (And.right (And.right (And.right (And.right (And.right (And.right (And.right (And.right (And.right (And.right (And.right (And.right (And.right (by with_reducible assumption)))))))))))))) | exact And.right (And.right (And.right (And.right (And.right (And.right (And.right (And.right (And.right (And.right (And.right (And.right (And.right (by with_reducible assumption))))))))))))) | exact And.left (And.right (And.right (And.right (And.right (And.right (And.right (And.right (And.right (And.right (And.right (And.right (And.right (And.right (And.right (by with_reducible assumption))))))))))))))) | exact And.right (And.right (And.right (And.right (And.right (And.right (And.right (And.right (And.right (And.right (And.right (And.right (And.right (And.right (by with_reducible assumption))))))))))))))) | (refine Ne.symm ?_; first | with_reducible assumption | exact And.left (by with_reducible assumption) | exact And.left (And.right (by with_reducible assumption)) | exact And.right (by with_reducible assumption) | exact And.left (And.right (And.right (by with_reducible assumption))) | exact And.right (And.right (by with_reducible assumption)) | exact And.left (And.right (And.right (And.right (by with_reducible assumption)))) | exact And.right (And.right (And.right (by with_reducible assumption))) | exact And.left (And.right (And.right (And.right (And.right (by with_reducible assumption))))) | exact And.right (And.right (And.right (And.right (by with_reducible assumption)))) | exact And.left (And.right (And.right (And.right (And.right (And.right (by with_reducible assumption)))))) | exact And.right (And.right (And.right (And.right (And.right (by with_reducible assumption))))) | exact And.left (And.right (And.right (And.right (And.right (And.right (And.right (by with_reducible assumption))))))) | exact And.right (And.right (And.right (And.right (And.right (And.right (by with_reducible assumption)))))) | exact And.left (And.right (And.right (And.right (And.right (And.right (And.right (And.right (by with_reducible assumption)))))))) | exact And.right (And.right (And.right (And.right (And.right (And.right (And.right (by with_reducible assumption))))))) | exact And.left (And.right (And.right (And.right (And.right (And.right (And.right (And.right (And.right (by with_reducible assumption))))))))) | exact And.right (And.right (And.right (And.right (And.right (And.right (And.right (And.right (by with_reducible assumption)))))))) | exact And.left (And.right (And.right (And.right (And.right (And.right (And.right (And.right (And.right (And.right (by with_reducible assumption)))))))))) | exact And.right (And.right (And.right (And.right (And.right (And.right (And.right (And.right (And.right (by with_reducible assumption))))))))) | exact And.left (And.right (And.right (And.right (And.right (And.right (And.right (And.right (And.right (And.right (And.right (by with_reducible assumption))))))))))) | exact And.right (And.right (And.right (And.right (And.right (And.right (And.right (And.right (And.right (And.right (by with_reducible assumption)))))))))) | exact And.left (And.right (And.right (And.right (And.right (And.right (And.right (And.right (And.right (And.right (And.right (And.right (by with_reducible assumption)))))))))))) | exact And.right (And.right (And.right (And.right (And.right (And.right (And.right (And.right (And.right (And.right (And.right (by with_reducible assumption))))))))))) | exact And.left (And.right (And.right (And.right (And.right (And.right (And.right (And.right (And.right (And.right (And.right (And.right (And.right (by with_reducible assumption))))))))))))) | exact And.right (And.right (And.right (And.right (And.right (And.right (And.right (And.right (And.right (And.right (And.right (And.right (by with_reducible assumption)))))))))))) | exact And.left (And.right (And.right (And.right (And.right (And.right (And.right (And.right (And.right (And.right (And.right (And.right (And.right (And.right (by with_reducible assumption)))))))))))))) | exact And.right (And.right (And.right (And.right (And.right (And.right (And.right (And.right (And.right (And.right (And.right (And.right (And.right (by with_reducible assumption))))))))))))) | exact And.left (And.right (And.right (And.right (And.right (And.right (And.right (And.right (And.right (And.right (And.right (And.right (And.right (And.right (And.right (by with_reducible assumption))))))))))))))) | exact And.right (And.right (And.right (And.right (And.right (And.right (And.right (And.right (And.right (And.right (And.right (And.right (And.right (And.right (by with_reducible assumption))))))))))))))) | lia)
  k_with "k_all" => first | assumption | (refine allNe_lt (by assumption) ?_; lia)
  k_with "binaryOp LShift int int" => k_extra "shl"
  k_with "binaryOp RShift int int" => k_extra "shr"
  k_with "binaryOp Mult int int" => k_extra "mul"
  k_with "call ref" => ((refine' ind 64 _ _ _ _ _ _ _ _ _ ?c1 ?c2 ?c3 ?c4 ?c5 ?c6 ?c7 ?ca ?cb ?c8 ?c9 ?c10 ?c11 ?cc ?cd ?c12 ?c13 ?_); (case c1 => k_dflt k_asm); (case c2 => k_dflt k_asm); (case c3 => k_dflt k_asm); (case c4 => k_dflt k_asm); (case c5 => k_dflt k_asm); (case c6 => exact rfl); (case c7 => k_dflt kn_code); (case ca => assumption); (case cb => assumption); (case c8 => exact Int.le_refl 0); (case c9 => exact hnD ▸ hc0); (case c10 => exact Int.le_refl _); (case c11 => exact (Int.sub_zero (nD : Int)).symm ▸ hN64); (case cc => exact Int.le_of_lt hx0); (case cd => (rw [Int.sub_zero, hnD]; exact hxc)); (case c12 => first | exact room_64 hd1 | ktr_room); (case c13 => first | exact unit_64 hu | ktr_units); intro us9 k9 h9 tk9 I9 F9 N9; (try dsimp only); (try k_fold))
  k_steps
  rename_i kF kN Tc kX
  rw [Int.sub_zero, hnD, show (0 : Int).toNat = 0 from rfl, lay_whole (by rw [digs_length]; simp)] at I9
  obtain ⟨_, _, _, _, q55, qAll⟩ := lB
  exact hret cI ocI vsI tI _ _ _ _ _ I9 (by k_asm) (kst_newsOf kN (by kst_inAny)) dI1 dI2 (by lia) q55 qAll

end
end Mine
/-! Y_i2dB -/
namespace Mine
section
theorem i2d_old {c : Addr} {oc : Obj} {w : World} {loose : List PySem.Str} {mean : ExcName → Option Value} {mg mb : PySem.Str → Option Value}
    {dp un : Nat} {gd : Option (List Code)} {cn : PySem.Str} {cs : Scope} {a : Addr} {ccd : Value} {cl : List (PySem.Str × Addr)} {outer : List Env} {A₀ : Around} {base h₀ : Heap} {L : Addr} {m : PySem.Str → Option Value} {s : Shared} {Q E : Value → Shared → Prop} {news : List (Addr × Obj)}
    (B : Below A₀ base outer h₀) (F : Fr h₀ L s.heap m) (X : (hd.heap_1 w.params).In h₀) (N : News h₀ L s.heap ((c, oc) :: (55, tabObj #[rawInt 74, rawInt 4, .ref c]) :: news)) (T : Top topProg loose mean mg mb h₀) (hk : cs.kind = .function)
    (hc55 : @LT.lt Nat _ 55 c) {vsC : Array Value} {tC : Tok} (hus : oc.data = .fields vsC) (hqn : vsC[1]? = some (.str qI tC)) (hne : ∀ p ∈ news, p.1 ≠ 55) (codeHd : CodeHd base 59 55) {x : Int} {Wd : Nat} (hW : Wd ≤ 100) (hW0 : 0 < Wd) (hx0 : 0 < x) (hc0 : 0 < ((Builtin.Int.intBits x : Int) + (Wd : Int) - 1).fdiv (Wd : Int)) (hc1 : ((Builtin.Int.intBits x : Int) + (Wd : Int) - 1).fdiv (Wd : Int) ≤ 64) (hxc : x < 2 ^ (Wd * (((Builtin.Int.intBits x : Int) + (Wd : Int) - 1).fdiv (Wd : Int)).toNat)) {tx tn : Tok}
    (hd1 : dp + 70 < recursionLimit) (hu : un + 600 < cLine)
    (hret : ∀ d us k h1 tk1, IntsAre us (digs Wd x (((Builtin.Int.intBits x : Int) + (Wd : Int) - 1).fdiv (Wd : Int)).toNat) → Fr h₀ L h1 m → News h₀ L h1 ((d, W.listOf us.toArray k) :: (c, oc) :: (55, tabObj #[rawInt 74, rawInt 4, .ref c]) :: news) → @LT.lt Nat _ c d → @LT.lt Nat _ 55 d → AllLt d news → Q (.ref d) { s with heap := h1, toks := tk1 }) :
    wpAny (model Challenge.rw_sn0051_01.row.prog w) (ktrTop dp un gd cn cs L a ccd cl outer) (call (.ref 60) [.int x tx, .int Wd tn]) Q E s := by
  revert X
  k_fill
  intro X
  refine wpAny_call ?_
  k_with_none
  k_with "k_ne" => (refine neN ?_; (try dsimp only); first | with_reducible assumption | (refine Nat.ne_of_lt ?_; first | with_reducible assumption | exact And.left (by with_reducible assumption) | exact And.left (And.right (by with_reducible assumption)) | exact And.right (by with_reducible assumption) | exact And.left (And.right (And.right (by with_reducible assumption))) | exact And.right (And.right (by with_reducible assumption)) | exact And.left (And.right (And.right (And.right (by with_reducible assumption)))) | exact And.right (And.right (And.right (by with_reducible assumption))) | exact And.left (And.right (And.right (And.right (And.right (by with_reducible assumption))))) | exact And.right (And.right (And.right (And.right (by with_reducible assumption)))) | exact And.left (And.right (And.right (And.right (And.right (And.right (by with_reducible assumption)))))) | exact And.right (And.right (And.right (And.right (And.right (by with_reducible assumption))))) | exact And.left (And.right (And.right (And.right (And.right (And.right (And.right (by with_reducible assumption))))))) | exact And.right (And.right (And.right (And.right (And.right (And.right (by with_reducible assumption)))))) | exact And.left (And.right (And.right (And.right (And.right (And.right (And.right (And.right (by with_reducible assumption)))))))) | exact And.right (And.right (And.right (And.right (And.right (And.right (And.right (by with_reducible assumption))))))) | exact And.left (And.right (And.right (And.right (And.right (And.right (And.right (And.right (And.right (by with_reducible assumption))))))))) | exact And.right (And.right (And.right (And.right (And.right (And.right (And.right (And.right (by with_reducible assumption)))))))) | exact And.left (And.right (And.right (And.right (And.right (And.right (And.right (And.right (And.right (And.right (by with_reducible assumption)))))))))) | exact And.right (And.right (And.right (And.right (And.right (And.right (And.right (And.right (And.right (by with_reducible assumption))))))))) | exact And.left (And.right (And.right (And.right (And.right (And.right (And.right (And.right (And.right (And.right (And.right (by with_reducible assumption))))))))))) | exact And.right (And.right (And.right (And.right (And.right (And.right (And.right (And.right (And.right (And.right (by with_reducible assumption)))))))))) | exact And.left (And.right (And.right (And.right (And.right (And.right (And.right (And.right (And.right (And.right (And.right (And.right (by with_reducible assumption)))))))))))) | exact And.right (And.right (And.right (And.right (And.right (And.right (And.right (And.right (And.right (And.right (And.right (by with_reducible assumption))))))))))) | exact And.left (And.right (And.right (And.right (And.right (And.right (And.right (And.right (And.right (And.right (And.right (And.right (And.right (by with_reducible assumption))))))))))))) | exact And.right (And.right (And.right (And.right (And.right (And.right (And.right (And.right (And.right (And.right (And.right (And.right (by with_reducible assumption)))))))))))) | exact And.left (And.right (And.right (And.right (And.right (And.right (And.right (And.right (And.right (And.right (And.right (And.right (And.right (And.right (by with_reducible assumption)))))))))))))) | exact And.right (And.right (And.right (And.right (And.right (And.right (And.right (And.right (And.right (And.right (And.right (And.right (And.right (by with_reducible assumption))))))))))))) | exact And.left (And.right (And.right (And.right (And.right (And.right (And.right (And.right (And.right (And.right (And.right (And.right (And.right (And.right (And.right (by with_reducible assumption))))))))))))))) | exact And.right (And.right (And.right (And.right (And.right (And.right (And.right (And.right (And.right (And.right (And.right (And.right (And.right (And.right (by with_reducible assumption))))))))))))))) | (refine Nat.ne_of_gt ?_; first | with_reducible assumption | exact And.left (by with_reducible assumption) | exact And.left (And.right (by with_reducible assumption)) | exact And.right (by with_reducible assumption) | exact And.left (And.right (And.right (by with_reducible assumption))) | exact And.right (And.right (by with_reducible assumption)) | exact And.left (And.right (And.right (And.right (by with_reducible assumption)))) | exact And.right (And.right (And.right (by with_reducible assumption))) | exact And.left (And.right (And.right (And.right (And.right (by with_reducible assumption))))) | exact And.right (And.right (And.right (And.right (by with_reducible assumption)))) | exact And.left (And.right (And.right (And.right (And.right (And.right (by with_reducible assumption)))))) | exact And.right (And.right (And.right (And.right (And.right (by with_reducible assumption))))) | exact And.left (And.right (And.right (And.right (And.right (And.right (And.right (by with_reducible assumption))))))) | exact And.right (And.right (And.right (And.right (And.right (And.right (by with_reducible assumption)))))) | exact And.left (And.right (And.right (And.right (And.right (And.right (And.right (And.right (by with_reducible assumption)))))))) | exact And.right (And.right (And.right (And.right (And.right (And.right (And.right (by with_reducible assumption))))))) | exact And.left (And.right (And.right (And.right (And.right (And.right (And.right (And.right (And.right (by with_reducible assumption))))))))) | exact And.right (And.right (And.right (And.right (And.right (And.right (And.right (And.right (by with_reducible assumption)))))))) | exact And.left (And.right (And.right (And.right (And.right (And.right (And.right (And.right (And.right (And.right (by with_reducible assumption)))))))))) | exact And.right (And.right (And.right (And.right (And.right (And.right (And.right (And.right (And.right (by with_reducible assumption))))))))) | exact And.left (And.right (And.right (And.right (And.right (And.right (And.right (And.right (And.right (And.right (And.right (by with_reducible assumption))))))))))) | exact And.right (And.right (And.right (And.right (And.right (And.right (And.right (And.right (And.right (And.right (by with_reducible assumption)))))))))) | exact And.left (And.right (And.right (And.right (And.right (And.right (And.right (And.right (And.right (And.right (And.right (And.right (by with_reducible assumption)))))))))))) | exact And.right (And.right (And.right (And.right (And.right (And.right (And.right (And.right (And.right (And.right (And.right (by with_reducible assumption))))))))))) | exact And.left (And.right (And.right (And.right (And.right (And.right (And.right (And.right (And.right (And.right (And.right (And.right (And.right (by with_reducible assumption))))))))))))) | exact And.right (And.right (And.right (And.right (And.right (And.right (And.right (And.right (And.right (And.right (And.right (And.right (by with_reducible assumption)))))))))))) | exact And.left (And.right (And.right (And.right (And.right (And.right (And.right (And.right (And.right (And.right (And.right (And.right (And.right (And.right (by with_reducible assumption)))))))))))))) | exact And.right (And.right (And.right (And.right (And.right (And.right (And.right (And.right (And.right (And.right (And.right (And.right (And.right (by with_reducible assumption))))))))))))) | exact And.left (And.right (And.right (And.right (And.right (And.right (And.right (And.right (And.right (And.right (And.right (And.right (And.right (And.right (And.right (by with_reducible assumption))))))))))))))) | exact And.right (And.right (And.right (And.right (And.right (And.right (And.right (And.right (And.right (And.right (And.right (And.right (And.right (And.right (by with_reducible assumption))))))))))))))) | (first | with_reducible assumption | exact And.left (by with_reducible assumption) | exact And.left (And.right (by with_reducible assumption)) | exact And.right (by with_reducible assumption) | exact And.left (And.right (And.right (by with_reducible assumption))) | exact And.right (And.right (by with_reducible assumption)) | exact And.left (And.right (And.right (And.right (by with_reducible assumption)))) | exact And.right (And.right (And.right (by with_reducible assumption))) | exact And.left (And.right (And.right (And.right (And.right (by with_reducible assumption))))) | exact And.right (And.right (And.right (And.right (by with_reducible assumption)))) | exact And.left (And.right (And.right (And.right (And.right (And.right (by with_reducible assumption)))))) | exact And.right (And.right (And.right (And.right (And.right (by with_reducible assumption))))) | exact And.left (And.right (And.right (And.right (And.right (And.right (And.right (by with_reducible assumption))))))) | exact And.right (And.right (And.right (And.right (And.right (And.right (by with_reducible assumption)))))) | exact And.left (And.right (And.right (And.right (And.right (And.right (And.right (And.right (by with_reducible assumption)))))))) | exact And.right (And.right (And.right (And.right (And.right (And.right (And.right (by with_reducible assumption))))))) | exact And.left (And.right (And.right (And.right (And.right (And.right (And.right (And.right (And.right (by with_reducible assumption))))))))) | exact And.right (And.right (And.right (And.right (And.right (And.right (And.right (And.right (by with_reducible assumption)))))))) | exact And.left (And.right (And.right (And.right (And.right (And.right (And.right (And.right (And.right (And.right (by with_reducible assumption)))))))))) | exact And.right (And.right (And.right (And.right (And.right (And.right (And.right (And.right (And.right (by with_reducible assumption))))))))) | exact And.left (And.right (And.right (And.right (And.right (And.right (And.right (And.right (And.right (And.right (And.right (by with_reducible assumption))))))))))) | exact And.right (And.right (And.right (And.right (And.right (And.right (And.right (And.right (And.right (And.right (by with_reducible assumption)))))))))) | exact And.left (And.right (And.right (And.right (And.right (And.right (And.right (And.right (And.right (And.right (And.right (And.right (by with_reducible assumption)))))))))))) | exact And.right (And.right (And.right (And.right (And.right (And.right (And.right (And.right (And.right (And.right (And.right (by with_reducible assumption))))))))))) | exact And.left (And.right (And.right (And.right (And.right (And.right (And.right (And.right (And.right (And.right (And.right (And.right (And.right (by with_reducible assumption))))))))))))) | exact And.right (And.right (And.right (And.right (And.right (And.right (And.right (And.right (And.right (And.right (And.right (And.right (by with_reducible assumption)))))))))))) | exact And.left (And.right (And.right (And.right (And.right (And.right (And.right (And.right (And.right (And.right (And.right (And.right (And.right (And.right (by with_reducible assumption)))))))))))))) | exact And.right (And.right (And.right (And.right (And.right (And.right (And.right (And.right (And.right (And.right (And.right (And.right (And.right (by with_reducible assumption))))))))))))) | exact And.left (And.right (And.right (And.right (And.right (And.right (And.right (And.right (And.right (And.right (And.right (And.right (And.right (And.right (And.right (by with_reducible assumption))))))))))))))) | exact And.right (And.right (And.right (And.right (And.right (And.right (And.right (And.right (And.right (And.right (And.right (And.right (And.right (And.right (by with_reducible assumption))))))))))))))) | (refine Ne.symm ?_; first | with_reducible assumption | exact And.left (by with_reducible assumption) | exact And.left (And.right (by with_reducible assumption)) | exact And.right (by with_reducible assumption) | exact And.left (And.right (And.right (by with_reducible assumption))) | exact And.right (And.right (by with_reducible assumption)) | exact And.left (And.right (And.right (And.right (by with_reducible assumption)))) | exact And.right (And.right (And.right (by with_reducible assumption))) | exact And.left (And.right (And.right (And.right (And.right (by with_reducible assumption))))) | exact And.right (And.right (And.right (And.right (by with_reducible assumption)))) | exact And.left (And.right (And.right (And.right (And.right (And.right (by with_reducible assumption)))))) | exact And.right (And.right (And.right (And.right (And.right (by with_reducible assumption))))) | exact And.left (And.right (And.right (And.right (And.right (And.right (And.right (by with_reducible assumption))))))) | exact And.right (And.right (And.right (And.right (And.right (And.right (by with_reducible assumption)))))) | exact And.left (And.right (And.right (And.right (And.right (And.right (And.right (And.right (by with_reducible assumption)))))))) | exact And.right (And.right (And.right (And.right (And.right (And.right (And.right (by with_reducible assumption))))))) | exact And.left (And.right (And.right (And.right (And.right (And.right (And.right (And.right (And.right (by with_reducible assumption))))))))) | exact And.right (And.right (And.right (And.right (And.right (And.right (And.right (And.right (by with_reducible assumption)))))))) | exact And.left (And.right (And.right (And.right (And.right (And.right (And.right (And.right (And.right (And.right (by with_reducible assumption)))))))))) | exact And.right (And.right (And.right (And.right (And.right (And.right (And.right (And.right (And.right (by with_reducible assumption))))))))) | exact And.left (And.right (And.right (And.right (And.right (And.right (And.right (And.right (And.right (And.right (And.right (by with_reducible assumption))))))))))) | exact And.right (And.right (And.right (And.right (And.right (And.right (And.right (And.right (And.right (And.right (by with_reducible assumption)))))))))) | exact And.left (And.right (And.right (And.right (And.right (And.right (And.right (And.right (And.right (And.right (And.right (And.right (by with_reducible assumption)))))))))))) | exact And.right (And.right (And.right (And.right (And.right (And.right (And.right (And.right (And.right (And.right (And.right (by with_reducible assumption))))))))))) | exact And.left (And.right (And.right (And.right (And.right (And.right (And.right (And.right (And.right (And.right (And.right (And.right (And.right (by with_reducible assumption))))))))))))) | exact And.right (And.right (And.right (And.right (And.right (And.right (And.right (And.right (And.right (And.right (And.right (And.right (by with_reducible assumption)))))))))))) | exact And.left (And.right (And.right (And.right (And.right (And.right (And.right (And.right (And.right (And.right (And.right (And.right (And.right (And.right (by with_reducible assumption)))))))))))))) | exact And.right (And.right (And.right (And.right (And.right (And.right (And.right (And.right (And.right (And.right (And.right (And.right (And.right (by with_reducible assumption))))))))))))) | exact And.left (And.right (And.right (And.right (And.right (And.right (And.right (And.right (And.right (And.right (And.right (And.right (And.right (And.right (And.right (by with_reducible assumption))))))))))))))) | exact And.right (And.right (And.right (And.right (And.right (And.right (And.right (And.right (And.right (And.right (And.right (And.right (And.right (And.right (by with_reducible assumption))))))))))))))) | lia)
  k_with "k_all" => first | assumption | (refine allNe_lt (by assumption) ?_; lia)
  k_with "binaryOp LShift int int" => k_extra "shl"
  k_with "binaryOp RShift int int" => k_extra "shr"
  k_with "binaryOp Mult int int" => k_extra "mul"
  k_with "call ref" => fail
  first
  | (k_dflt cell_enter)
  | (k_dflt (refine' code_defC ?k1 ?k2 ?k3 ?k4 ?k5 ?kA ?kF ?kK ?k6 ?k7 ?k8 ?k9 ?kB ?kD ?_ ?c2 ?c3 ?c4; (case kA => exact rfl); (case kF => exact rfl); (case kK => assumption); (case k1 => k_asm); (case k2 => k_asm); (case k3 => k_asm); (case k4 => k_asm); (case k5 => k_asm); (case k6 => k_is); (case k7 => k_is); (case k8 => ktr_room); (case k9 => first | exact BindsTo.of_eq rfl | exact binds_K (by k_in) rfl (by k_is) rfl rfl rfl); (case kB => exact rfl); (case kD => decide); (case c2 => exact rfl); (case c3 => exact rfl); (case c4 => exact rfl); k_whole; intro g' L' h' tk' cells' FG' F' N' Y' B' X' T' l'; (try dsimp only); (try k_cells Y'); (try simp only [List.nil_append, List.cons_append] at N'); (try k_lt l'); (try obtain ⟨l1c, l1b, lAll⟩ := l'); (try k_lift B'); (try k_fold)))
  | (k_dflt (refine' code_def ?k1 ?k2 ?k3 ?k4 ?k5 ?kA ?kF ?kK ?k6 ?k7 ?k8 ?k9 ?kB ?_ ?c2 ?c3 ?c4 ?c5; (case kA => exact rfl); (case kF => exact rfl); (case kK => assumption); (case k1 => k_asm); (case k2 => k_asm); (case k3 => k_asm); (case k4 => k_asm); (case k5 => k_asm); (case k6 => k_is); (case k7 => k_is); (case k8 => ktr_room); (case k9 => first | exact BindsTo.of_eq rfl | exact binds_K (by k_in) rfl (by k_is) rfl rfl rfl); (case c5 => decide); (case kB => exact locs rfl); (case c2 => exact rfl); (case c3 => exact rfl); (case c4 => exact rfl); k_whole; intro g' L' h' FG' F' N' B' X' T'; (try dsimp only); (try k_lift B'); (try k_fold)))
  k_steps
  rotate_left
  · exfalso; lia
  rename_i o1 o2 o3 d1 d2 d3 lI hh1 lA DI hh2 iD nD sD eD1 eD2 eD3 lB hh3 oA dA fI ctI dcI h2 tk2 lI1 h3 oI F3 N3 dI hx00
  have hnD : (nD : Int) = ((Builtin.Int.intBits x : Int) + (Wd : Int) - 1).fdiv (Wd : Int) := by lia
  have hN64 : (nD : Int) ≤ 64 := hnD ▸ hc1
  generalize hO : fnMade _ _ _ _ _ _ _ _ _ _ = O at N3
  generalize hPOST : (((lI, _) :: _) : List (Addr × Obj)) = POST at N3
  have ind : ∀ (K : Nat) (x lo hi : Int) (tx tl th : Tok) (us : List Value) (ds : List Int) (k : Nat) {dp un : Nat} {gd : Option (List Code)} {cn : PySem.Str} {cs : Scope} {a : Addr} {ccd : Value} {cl : List (PySem.Str × Addr)} {outer : List Env} {A₀ : Around} {base h₀ : Heap} {L : Addr} {m : PySem.Str → Option Value} {s : Shared} {Q E : Value → Shared → Prop},
      Below A₀ base outer h₀ → Fr h₀ L s.heap m → (hd.heap_1 w.params).In h₀ → News h₀ L s.heap ((fI, O) :: (DI, W.listOf us.toArray k) :: POST) → Top topProg loose mean mg mb h₀ → cs.kind = .function →
      CodeHd base 59 55 → IntsAre us ds → ds.length = nD → 0 ≤ lo → lo < hi → hi ≤ nD → hi - lo ≤ K → 0 ≤ x → x < 2 ^ (Wd * (hi - lo).toNat) → dp + K + 1 < recursionLimit → un + 8 * K + 8 < cLine →
      (∀ us' k' h' tk', IntsAre us' (lay ds lo.toNat (digs Wd x (hi - lo).toNat)) → Fr h₀ L h' m → News h₀ L h' ((fI, O) :: (DI, W.listOf us'.toArray k') :: POST) → Q .none { s with heap := h', toks := tk' }) →
      wpAny (model Challenge.rw_sn0051_01.row.prog w) (ktrTop dp un gd cn cs L a ccd cl outer) (call (.ref fI) [.int x tx, .int lo tl, .int hi th]) Q E s := by
    intro K
    induction K with
    | zero => intros; exfalso; lia
    | succ K ih =>
      intro x lo hi tx tl th us ds k dp un gd cn cs a ccd cl outer A₀ base h₀ L m s Q E B F X N T hk codeHd2 hI hdl hlo hlt hhi hK hx0 hx hd1 hu hret
      subst hPOST
      subst hO
      k_with_none
      k_with "k_ne" => (refine neN ?_; (try dsimp only); first | with_reducible assumption | (refine Nat.ne_of_lt ?_; first | with_reducible assumption | exact And.left (by with_reducible assumption) | exact And.left (And.right (by with_reducible assumption)) | exact And.right (by with_reducible assumption) | exact And.left (And.right (And.right (by with_reducible assumption))) | exact And.right (And.right (by with_reducible assumption)) | exact And.left (And.right (And.right (And.right (by with_reducible assumption)))) | exact And.right (And.right (And.right (by with_reducible assumption))) | exact And.left (And.right (And.right (And.right (And.right (by with_reducible assumption))))) | exact And.right (And.right (And.right (And.right (by with_reducible assumption)))) | exact And.left (And.right (And.right (And.right (And.right (And.right (by with_reducible assumption)))))) | exact And.right (And.right (And.right (And.right (And.right (by with_reducible assumption))))) | exact And.left (And.right (And.right (And.right (And.right (And.right (And.right (by with_reducible assumption))))))) | exact And.right (And.right (And.right (And.right (And.right (And.right (by with_reducible assumption)))))) | exact And.left (And.right (And.right (And.right (And.right (And.right (And.right (And.right (by with_reducible assumption)))))))) | exact And.right (And.right (And.right (And.right (And.right (And.right (And.right (by with_reducible assumption))))))) | exact And.left (And.right (And.right (And.right (And.right (And.right (And.right (And.right (And.right (by with_reducible assumption))))))))) | exact And.right (And.right (And.right (And.right (And.right (And.right (And.right (And.right (by with_reducible assumption)))))))) | exact And.left (And.right (And.right (And.right (And.right (And.right (And.right (And.right (And.right (And.right (by with_reducible assumption)))))))))) | exact And.right (And.right (And.right (And.right (And.right (And.right (And.right (And.right (And.right (by with_reducible assumption))))))))) | exact And.left (And.right (And.right (And.right (And.right (And.right (And.right (And.right (And.right (And.right (And.right (by with_reducible assumption))))))))))) | exact And.right (And.right (And.right (And.right (And.right (And.right (And.right (And.right (And.right (And.right (by with_reducible assumption)))))))))) | exact And.left (And.right (And.right (And.right (And.right (And.right (And.right (And.right (And.right (And.right (And.right (And.right (by with_reducible assumption)))))))))))) | exact And.right (And.right (And.right (And.right (And.right (And.right (And.right (And.right (And.right (And.right (And.right (by with_reducible assumption))))))))))) | exact And.left (And.right (And.right (And.right (And.right (And.right (And.right (And.right (And.right (And.right (And.right (And.right (And.right (by with_reducible assumption))))))))))))) | exact And.right (And.right (And.right (And.right (And.right (And.right (And.right (And.right (And.right (And.right (And.right (And.right (by with_reducible assumption)))))))))))) | exact And.left (And.right (And.right (And.right (And.right (And.right (And.right (And.right (And.right (And.right (And.right (And.right (And.right (And.right (by with_reducible assumption)))))))))))))) | exact And.right (And.right (And.right (And.right (And.right (And.right (And.right (And.right (And.right (And.right (And.right (And.right (And.right (by with_reducible assumption))))))))))))) | exact And.left (And.right (And.right (And.right (And.right (And.right (And.right (And.right (And.right (And.right (And.right (And.right (And.right (And.right (And.right (by with_reducible assumption))))))))))))))) | exact And.right (And.right (And.right (And.right (And.right (And.right (And.right (And.right (And.right (And.right (And.right (And.right (And.right (And.right (by with_reducible assumption))))))))))))))) | (refine Nat.ne_of_gt ?_; first | with_reducible assumption | exact And.left (by with_reducible assumption) | exact And.left (And.right (by with_reducible assumption)) | exact And.right (by with_reducible assumption) | exact And.left (And.right (And.right (by with_reducible assumption))) | exact And.right (And.right (by with_reducible assumption)) | exact And.left (And.right (And.right (And.right (by with_reducible assumption)))) | exact And.right (And.right (And.right (by with_reducible assumption))) | exact And.left (And.right (And.right (And.right (And.right (by with_reducible assumption))))) | exact And.right (And.right (And.right (And.right (by with_reducible assumption)))) | exact And.left (And.right (And.right (And.right (And.right (And.right (by with_reducible assumption)))))) | exact And.right (And.right (And.right (And.right (And.right (by with_reducible assumption))))) | exact And.left (And.right (And.right (And.right (And.right (And.right (And.right (by with_reducible assumption))))))) | exact And.right (And.right (And.right (And.right (And.right (And.right (by with_reducible assumption)))))) | exact And.left (And.right (And.right (And.right (And.right (And.right (And.right (And.right (by with_reducible assumption)))))))) | exact And.right (And.right (And.right (And.right (And.right (And.right (And.right (by with_reducible assumption))))))) | exact And.left (And.right (And.right (And.right (And.right (And.right (And.right (And.right (And.right (by with_reducible assumption))))))))) | exact And.right (And.right (And.right (And.right (And.right (And.right (And.right (And.right (by with_reducible assumption)))))))) | exact And.left (And.right (And.right (And.right (And.right (And.right (And.right (And.right (And.right (And.right (by with_reducible assumption)))))))))) | exact And.right (And.right (And.right (And.right (And.right (And.right (And.right (And.right (And.right (by with_reducible assumption))))))))) | exact And.left (And.right (And.right (And.right (And.right (And.right (And.right (And.right (And.right (And.right (And.right (by with_reducible assumption))))))))))) | exact And.right (And.right (And.right (And.right (And.right (And.right (And.right (And.right (And.right (And.right (by with_reducible assumption)))))))))) | exact And.left (And.right (And.right (And.right (And.right (And.right (And.right (And.right (And.right (And.right (And.right (And.right (by with_reducible assumption)))))))))))) | exact And.right (And.right (And.right (And.right (And.right (And.right (And.right (And.right (And.right (And.right (And.right (by with_reducible assumption))))))))))) | exact And.left (And.right (And.right (And.right (And.right (And.right (And.right (And.right (And.right (And.right (And.right (And.right (And.right (by with_reducible assumption))))))))))))) | exact And.right (And.right (And.right (And.right (And.right (And.right (And.right (And.right (And.right (And.right (And.right (And.right (by with_reducible assumption)))))))))))) | exact And.left (And.right (And.right (And.right (And.right (And.right (And.right (And.right (And.right (And.right (And.right (And.right (And.right (And.right (by with_reducible assumption)))))))))))))) | exact And.right (And.right (And.right (And.right (And.right (And.right (And.right (And.right (And.right (And.right (And.right (And.right (And.right (by with_reducible assumption))))))))))))) | exact And.left (And.right (And.right (And.right (And.right (And.right (And.right (And.right (And.right (And.right (And.right (And.right (And.right (And.right (And.right (by with_reducible assumption))))))))))))))) | exact And.right (And.right (And.right (And.right (And.right (And.right (And.right (And.right (And.right (And.right (And.right (And.right (And.right (And.right (by with_reducible assumption))))))))))))))) | (first | with_reducible assumption | exact And.left (by with_reducible assumption) | exact And.left (And.right (by with_reducible assumption)) | exact And.right (by with_reducible assumption) | exact And.left (And.right (And.right (by with_reducible assumption))) | exact And.right (And.right (by with_reducible assumption)) | exact And.left (And.right (And.right (And.right (by with_reducible assumption)))) | exact And.right (And.right (And.right (by with_reducible assumption))) | exact And.left (And.right (And.right (And.right (And.right (by with_reducible assumption))))) | exact And.right (And.right (And.right (And.right (by with_reducible assumption)))) | exact And.left (And.right (And.right (And.right (And.right (And.right (by with_reducible assumption)))))) | exact And.right (And.right (And.right (And.right (And.right (by with_reducible assumption))))) | exact And.left (And.right (And.right (And.right (And.right (And.right (And.right (by with_reducible assumption))))))) | exact And.right (And.right (And.right (And.right (And.right (And.right (by with_reducible assumption)))))) | exact And.left (And.right (And.right (And.right (And.right (And.right (And.right (And.right (by with_reducible assumption)))))))) | exact And.right (And.right (And.right (And.right (And.right (And.right (And.right (by with_reducible assumption))))))) | exact And.left (And.right (And.right (And.right (And.right (And.right (And.right (And.right (And.right (by with_reducible assumption))))))))) | exact And.right (And.right (And.right (And.right (And.right (And.right (And.right (And.right (by with_reducible assumption)))))))) | exact And.left (And.right (And.right (And.right (And.right (And.right (And.right (And.right (And.right (And.right (by with_reducible assumption)))))))))) | exact And.right (And.right (And.right (And.right (And.right (And.right (And.right (And.right (And.right (by with_reducible assumption))))))))) | exact And.left (And.right (And.right (And.right (And.right (And.right (And.right (And.right (And.right (And.right (And.right (by with_reducible assumption))))))))))) | exact And.right (And.right (And.right (And.right (And.right (And.right (And.right (And.right (And.right (And.right (by with_reducible assumption)))))))))) | exact And.left (And.right (And.right (And.right (And.right (And.right (And.right (And.right (And.right (And.right (And.right (And.right (by with_reducible assumption)))))))))))) | exact And.right (And.right (And.right (And.right (And.right (And.right (And.right (And.right (And.right (And.right (And.right (by with_reducible assumption))))))))))) | exact And.left (And.right (And.right (And.right (And.right (And.right (And.right (And.right (And.right (And.right (And.right (And.right (And.right (by with_reducible assumption))))))))))))) | exact And.right (And.right (And.right (And.right (And.right (And.right (And.right (And.right (And.right (And.right (And.right (And.right (by with_reducible assumption)))))))))))) | exact And.left (And.right (And.right (And.right (And.right (And.right (And.right (And.right (And.right (And.right (And.right (And.right (And.right (And.right (by with_reducible assumption)))))))))))))) | exact And.right (And.right (And.right (And.right (And.right (And.right (And.right (And.right (And.right (And.right (And.right (And.right (And.right (by with_reducible assumption))))))))))))) | exact And.left (And.right (And.right (And.right (And.right (And.right (And.right (And.right (And.right (And.right (And.right (And.right (And.right (And.right (And.right (by with_reducible assumption))))))))))))))) | exact And.right (And.right (And.right (And.right (And.right (And.right (And.right (And.right (And.right (And.right (And.right (And.right (And.right (And.right (by with_reducible assumption))))))))))))))) | (refine Ne.symm ?_; first | with_reducible assumption | exact And.left (by with_reducible assumption) | exact And.left (And.right (by with_reducible assumption)) | exact And.right (by with_reducible assumption) | exact And.left (And.right (And.right (by with_reducible assumption))) | exact And.right (And.right (by with_reducible assumption)) | exact And.left (And.right (And.right (And.right (by with_reducible assumption)))) | exact And.right (And.right (And.right (by with_reducible assumption))) | exact And.left (And.right (And.right (And.right (And.right (by with_reducible assumption))))) | exact And.right (And.right (And.right (And.right (by with_reducible assumption)))) | exact And.left (And.right (And.right (And.right (And.right (And.right (by with_reducible assumption)))))) | exact And.right (And.right (And.right (And.right (And.right (by with_reducible assumption))))) | exact And.left (And.right (And.right (And.right (And.right (And.right (And.right (by with_reducible assumption))))))) | exact And.right (And.right (And.right (And.right (And.right (And.right (by with_reducible assumption)))))) | exact And.left (And.right (And.right (And.right (And.right (And.right (And.right (And.right (by with_reducible assumption)))))))) | exact And.right (And.right (And.right (And.right (And.right (And.right (And.right (by with_reducible assumption))))))) | exact And.left (And.right (And.right (And.right (And.right (And.right (And.right (And.right (And.right (by with_reducible assumption))))))))) | exact And.right (And.right (And.right (And.right (And.right (And.right (And.right (And.right (by with_reducible assumption)))))))) | exact And.left (And.right (And.right (And.right (And.right (And.right (And.right (And.right (And.right (And.right (by with_reducible assumption)))))))))) | exact And.right (And.right (And.right (And.right (And.right (And.right (And.right (And.right (And.right (by with_reducible assumption))))))))) | exact And.left (And.right (And.right (And.right (And.right (And.right (And.right (And.right (And.right (And.right (And.right (by with_reducible assumption))))))))))) | exact And.right (And.right (And.right (And.right (And.right (And.right (And.right (And.right (And.right (And.right (by with_reducible assumption)))))))))) | exact And.left (And.right (And.right (And.right (And.right (And.right (And.right (And.right (And.right (And.right (And.right (And.right (by with_reducible assumption)))))))))))) | exact And.right (And.right (And.right (And.right (And.right (And.right (And.right (And.right (And.right (And.right (And.right (by with_reducible assumption))))))))))) | exact And.left (And.right (And.right (And.right (And.right (And.right (And.right (And.right (And.right (And.right (And.right (And.right (And.right (by with_reducible assumption))))))))))))) | exact And.right (And.right (And.right (And.right (And.right (And.right (And.right (And.right (And.right (And.right (And.right (And.right (by with_reducible assumption)))))))))))) | exact And.left (And.right (And.right (And.right (And.right (And.right (And.right (And.right (And.right (And.right (And.right (And.right (And.right (And.right (by with_reducible assumption)))))))))))))) | exact And.right (And.right (And.right (And.right (And.right (And.right (And.right (And.right (And.right (And.right (And.right (And.right (And.right (by with_reducible assumption))))))))))))) | exact And.left (And.right (And.right (And.right (And.right (And.right (And.right (And.right (And.right (And.right (And.right (And.right (And.right (And.right (And.right (by with_reducible assumption))))))))))))))) | exact And.right (And.right (And.right (And.right (And.right (And.right (And.right (And.right (And.right (And.right (And.right (And.right (And.right (And.right (by with_reducible assumption))))))))))))))) | lia)
      k_with "k_all" => first | assumption | (refine allNe_lt (by assumption) ?_; lia)
      k_with "binaryOp LShift int int" => k_extra "shl"
      k_with "binaryOp RShift int int" => k_extra "shr"
      k_with "binaryOp Mult int int" => k_extra "mul"
      have hm : lo + 1 ≠ hi → Half lo hi ((lo+hi).fdiv (2 ^ Int.toNat 1)) nD K := fun h => half_ok hlo hhi hK hN64 (mid_imp hlo hlt h)
      have hdl' : (ds.length : Int) = nD := congrArg _ hdl
      have hwk := wk_le (d := hi - lo) hW (sub_64 hlo hhi hN64)
      k_with "shr" => (refine rshift_int (by first | decide | exact (shift_ok (hm (by assumption)).a6 (hm (by assumption)).a7 hW).1) ?_)
      k_with "shl" => (have h9a := shift_ok (hm (by assumption)).a6 (hm (by assumption)).a7 hW; refine lshift_int h9a.1 (shl_fit (fdiv_bits hx0 hx hwk) h9a.2) ?_)
      k_with "call ref" => ((try rw [xor_low hx0]); (refine' ih _ _ _ _ _ _ _ _ _ ?c1 ?c2 ?c3 ?c4 ?c5 ?c6 ?c7 ?ca ?cb ?c8 ?c9 ?c10 ?c11 ?cc ?cd ?c12 ?c13 ?_); (case c1 => k_dflt k_asm); (case c2 => k_dflt k_asm); (case c3 => k_dflt k_asm); (case c4 => k_dflt k_asm); (case c5 => k_dflt k_asm); (case c6 => exact rfl); (case c7 => assumption); (case ca => assumption); (case cb => first | exact hdl | (rw [lay_length (by rw [digs_length]; exact half_len hlo (hm (by assumption)) hdl')]; exact hdl)); (case c8 => first | exact hlo | exact (hm (by assumption)).a0); (case c9 => first | exact (hm (by assumption)).a1 | exact (hm (by assumption)).a2); (case c10 => first | exact hhi | exact (hm (by assumption)).a3); (case c11 => first | exact (hm (by assumption)).a4 | exact (hm (by assumption)).a5); (case cc => first | exact (low_lt (Int.le_of_lt (hm (by assumption)).a1)).1 | exact (up_lt hx0 hx (Int.le_of_lt (hm (by assumption)).a1) (Int.le_of_lt (hm (by assumption)).a2)).1); (case cd => first | exact (low_lt (Int.le_of_lt (hm (by assumption)).a1)).2 | exact (up_lt hx0 hx (Int.le_of_lt (hm (by assumption)).a1) (Int.le_of_lt (hm (by assumption)).a2)).2); (case c12 => first | exact room_k hd1 | ktr_room); (case c13 => first | exact unit_k hu | ktr_units); intro us9 k9 h9 tk9 I9 F9 N9; (try dsimp only); (try k_fold))
      refine wpAny_call ?_
      k_dflt (refine' code_nest ?k1 ?k2 ?k3 ?k4 ?k5 ?kA ?kF ?kK ?k6 ?k7 ?k8 ?k9 ?kB ?_ ?c2 ?c3 ?c4 ?c5; (case kA => exact rfl); (case kF => exact rfl); (case kK => first | exact rfl | assumption); (case k1 => k_asm); (case k2 => k_asm); (case k3 => k_asm); (case k4 => k_asm); (case k5 => k_asm); (case k6 => k_mem); (case k7 => exact codeRec_news (by k_asm) (by k_mem) (by assumption) (by assumption)); (case k8 => ktr_room); (case k9 => exact BindsTo.of_eq rfl); (case c5 => decide); (case kB => exact locs rfl); (case c2 => exact rfl); (case c3 => exact rfl); (case c4 => exact rfl); k_whole; intro g' L' h' FG' F' N' B' X' T'; (try dsimp only); (try k_lift B'); (try k_fold))
      k_steps
      · exact hret _ _ _ _ (by rw [← lay_base hlo (by assumption) (hdl' ▸ hhi) hx0 hx]; assumption) (by k_asm) (by k_asm)
      · rename_i I9a _ _ _ _ _ _
        exact hret _ _ _ _ (by rw [← lay_step (mid := (lo+hi).fdiv (2 ^ Int.toNat 1)) hlo (Int.le_of_lt (hm (by assumption)).a1) (Int.le_of_lt (hm (by assumption)).a2) (hdl' ▸ hhi) hx0]; assumption) (by k_asm) (by k_asm)
  subst hPOST
  subst hO
  k_with_none
  k_with "k_ne" => (refine neN ?_; (try dsimp only); first | with_reducible assumption | (refine Nat.ne_of_lt ?_; first | with_reducible assumption | exact And.left (by with_reducible assumption) | exact And.left (And.right (by with_reducible assumption)) | exact And.right (by with_reducible assumption) | exact And.left (And.right (And.right (by with_reducible assumption))) | exact And.right (And.right (by with_reducible assumption)) | exact And.left (And.right (And.right (And.right (by with_reducible assumption)))) | exact And.right (And.right (And.right (by with_reducible assumption))) | exact And.left (And.right (And.right (And.right (And.right (by with_reducible assumption))))) | exact And.right (And.right (And.right (And.right (by with_reducible assumption)))) | exact And.left (And.right (And.right (And.right (And.right (And.right (by with_reducible assumption)))))) | exact And.right (And.right (And.right (And.right (And.right (by with_reducible assumption))))) | exact And.left (And.right (And.right (And.right (And.right (And.right (And.right (by with_reducible assumption))))))) | exact And.right (And.right (And.right (And.right (And.right (And.right (by with_reducible assumption)))))) | exact And.left (And.right (And.right (And.right (And.right (And.right (And.right (And.right (by with_reducible assumption)))))))) | exact And.right (And.right (And.right (And.right (And.right (And.right (And.right (by with_reducible assumption))))))) | exact And.left (And.right (And.right (And.right (And.right (And.right (And.right (And.right (And.right (by with_reducible assumption))))))))) | exact And.right (And.right (And.right (And.right (And.right (And.right (And.right (And.right (by with_reducible assumption)))))))) | exact And.left (And.right (And.right (And.right (And.right (And.right (And.right (And.right (And.right (And.right (by with_reducible assumption)))))))))) | exact And.right (And.right (And.right (And.right (And.right (And.right (And.right (And.right (And.right (by with_reducible assumption))))))))) | exact And.left (And.right (And.right (And.right (And.right (And.right (And.right (And.right (And.right (And.right (And.right (by with_reducible assumption))))))))))) | exact And.right (And.right (And.right (And.right (And.right (And.right (And.right (And.right (And.right (And.right (by with_reducible assumption)))))))))) | exact And.left (And.right (And.right (And.right (And.right (And.right (And.right (And.right (And.right (And.right (And.right (And.right (by with_reducible assumption)))))))))))) | exact And.right (And.right (And.right (And.right (And.right (And.right (And.right (And.right (And.right (And.right (And.right (by with_reducible assumption))))))))))) | exact And.left (And.right (And.right (And.right (And.right (And.right (And.right (And.right (And.right (And.right (And.right (And.right (And.right (by with_reducible assumption))))))))))))) | exact And.right (And.right (And.right (And.right (And.right (And.right (And.right (And.right (And.right (And.right (And.right (And.right (by with_reducible assumption)))))))))))) | exact And.left (And.right (And.right (And.right (And.right (And.right (And.right (And.right (And.right (And.right (And.right (And.right (And.right (And.right (by with_reducible assumption)))))))))))))) | exact And.right (And.right (And.right (And.right (And.right (And.right (And.right (And.right (And.right (And.right (And.right (And.right (And.right (by with_reducible assumption))))))))))))) | exact And.left (And.right (And.right (And.right (And.right (And.right (And.right (And.right (And.right (And.right (And.right (And.right (And.right (And.right (And.right (by with_reducible assumption))))))))))))))) | exact And.right (And.right (And.right (And.right (And.right (And.right (And.right (And.right (And.right (And.right (And.right (And.right (And.right (And.right (by with_reducible assumption))))))))))))))) | (refine Nat.ne_of_gt ?_; first | with_reducible assumption | exact And.left (by with_reducible assumption) | exact And.left (And.right (by with_reducible assumption)) | exact And.right (by with_reducible assumption) | exact And.left (And.right (And.right (by with_reducible assumption))) | exact And.right (And.right (by with_reducible assumption)) | exact And.left (And.right (And.right (And.right (by with_reducible assumption)))) | exact And.right (And.right (And.right (by with_reducible assumption))) | exact And.left (And.right (And.right (And.right (And.right (by with_reducible assumption))))) | exact And.right (And.right (And.right (And.right (by with_reducible assumption)))) | exact And.left (And.right (And.right (And.right (And.right (And.right (by with_reducible assumption)))))) | exact And.right (And.right (And.right (And.right (And.right (by with_reducible assumption))))) | exact And.left (And.right (And.right (And.right (And.right (And.right (And.right (by with_reducible assumption))))))) | exact And.right (And.right (And.right (And.right (And.right (And.right (by with_reducible assumption)))))) | exact And.left (And.right (And.right (And.right (And.right (And.right (And.right (And.right (by with_reducible assumption)))))))) | exact And.right (And.right (And.right (And.right (And.right (And.right (And.right (by with_reducible assumption))))))) | exact And.left (And.right (And.right (And.right (And.right (And.right (And.right (And.right (And.right (by with_reducible assumption))))))))) | exact And.right (And.right (And.right (And.right (And.right (And.right (And.right (And.right (by with_reducible assumption)))))))) | exact And.left (And.right (And.right (And.right (And.right (And.right (And.right (And.right (And.right (And.right (by with_reducible assumption)))))))))) | exact And.right (And.right (And.right (And.right (And.right (And.right (And.right (And.right (And.right (by with_reducible assumption))))))))) | exact And.left (And.right (And.right (And.right (And.right (And.right (And.right (And.right (And.right (And.right (And.right (by with_reducible assumption))))))))))) | exact And.right (And.right (And.right (And.right (And.right (And.right (And.right (And.right (And.right (And.right (by with_reducible assumption)))))))))) | exact And.left (And.right (And.right (And.right (And.right (And.right (And.right (And.right (And.right (And.right (And.right (And.right (by with_reducible assumption)))))))))))) | exact And.right (And.right (And.right (And.right (And.right (And.right (And.right (And.right (And.right (And.right (And.right (by with_reducible assumption))))))))))) | exact And.left (And.right (And.right (And.right (And.right (And.right (And.right (And.right (And.right (And.right (And.right (And.right (And.right (by with_reducible assumption))))))))))))) | exact And.right (And.right (And.right (And.right (And.right (And.right (And.right (And.right (And.right (And.right (And.right (And.right (by with_reducible assumption)))))))))))) | exact And.left (And.right (And.right (And.right (And.right (And.right (And.right (And.right (And.right (And.right (And.right (And.right (And.right (And.right (by with_reducible assumption)))))))))))))) | exact And.right (And.right (And.right (And.right (And.right (And.right (And.right (And.right (And.right (And.right (And.right (And.right (And.right (by with_reducible assumption))))))))))))) | exact And.left (And.right (And.right (And.right (And.right (And.right (And.right (And.right (And.right (And.right (And.right (And.right (And.right (And.right (And.right (by with_reducible assumption))))))))))))))) | exact And.right (And.right (And.right (And.right (And.right (And.right (And.right (And.right (And.right (And.right (And.right (And.right (And.right (And.right (by with_reducible assumption))))))))))))))) | (first | with_reducible assumption | exact And.left (by with_reducible assumption) | exact And.left (And.right (by with_reducible assumption)) | exact And.right (by with_reducible assumption) | exact And.left (And.right (And.right (by with_reducible assumption))) | exact And.right (And.right (by with_reducible assumption)) | exact And.left (And.right (And.right (And.right (by with_reducible assumption)))) | exact And.right (And.right (And.right (by with_reducible assumption))) | exact And.left (And.right (And.right (And.right (And.right (by with_reducible assumption))))) | exact And.right (And.right (And.right (And.right (by with_reducible assumption)))) | exact And.left (And.right (And.right (And.right (And.right (And.right (by with_reducible assumption)))))) | exact And.right (And.right (And.right (And.right (And.right (by with_reducible assumption))))) | exact And.left (And.right (And.right (And.right (And.right (And.right (And.right (by with_reducible assumption))))))) | exact And.right (And.right (And.right (And.right (And.right (And.right (by with_reducible assumption)))))) | exact And.left (And.right (And.right (And.right (And.right (And.right (And.right (And.right (by with_reducible assumption)))))))) | exact And.right (And.right (And.right (And.right (And.right (And.right (And.right (by with_reducible assumption))))))) | exact And.left (And.right (And.right (And.right (And.right (And.right (And.right (And.right (And.right (by with_reducible assumption))))))))) | exact And.right (And.right (And.right (And.right (And.right (And.right (And.right (And.right (by with_reducible assumption)))))))) | exact And.left (And.right (And.right (And.right (And.right (And.right (And.right (And.right (And.right (And.right (by with_reducible assumption)))))))))) | exact And.right (And.right (And.right (And.right (And.right (And.right (And.right (And.right (And.right (by with_reducible assumption))))))))) | exact And.left (And.right (And.right (And.right (And.right (And.right (And.right (And.right (And.right (And.right (And.right (by with_reducible assumption))))))))))) | exact And.right (And.right (And.right (And.right (And.right (And.right (And.right (And.right (And.right (And.right (by with_reducible assumption)))))))))) | exact And.left (And.right (And.right (And.right (And.right (And.right (And.right (And.right (And.right (And.right (And.right (And.right (by with_reducible assumption)))))))))))) | exact And.right (And.right (And.right (And.right (And.right (And.right (And.right (And.right (And.right (And.right (And.right (by with_reducible assumption))))))))))) | exact And.left (And.right (And.right (And.right (And.right (And.right (And.right (And.right (And.right (And.right (And.right (And.right (And.right (by with_reducible assumption))))))))))))) | exact And.right (And.right (And.right (And.right (And.right (And.right (And.right (And.right (And.right (And.right (And.right (And.right (by with_reducible assumption)))))))))))) | exact And.left (And.right (And.right (And.right (And.right (And.right (And.right (And.right (And.right (And.right (And.right (And.right (And.right (And.right (by with_reducible assumption)))))))))))))) | exact And.right (And.right (And.right (And.right (And.right (And.right (And.right (And.right (And.right (And.right (And.right (And.right (And.right (by with_reducible assumption))))))))))))) | exact And.left (And.right (And.right (And.right (And.right (And.right (And.right (And.right (And.right (And.right (And.right (And.right (And.right (And.right (And.right (by with_reducible assumption))))))))))))))) | exact And.right (And.right (And.right (And.right (And.right (And.right (And.right (And.right (And.right (And.right (And.right (And.right (And.right (And.right (by with_reducible assumption))))))))))))))) | (refine Ne.symm ?_; first | with_reducible assumption | exact And.left (by with_reducible assumption) | exact And.left (And.right (by with_reducible assumption)) | exact And.right (by with_reducible assumption) | exact And.left (And.right (And.right (by with_reducible assumption))) | exact And.right (And.right (by with_reducible assumption)) | exact And.left (And.right (And.right (And.right (by with_reducible assumption)))) | exact And.right (And.right (And.right (by with_reducible assumption))) | exact And.left (And.right (And.right (And.right (And.right (by with_reducible assumption))))) | exact And.right (And.right (And.right (And.right (by with_reducible assumption)))) | exact And.left (And.right (And.right (And.right (And.right (And.right (by with_reducible assumption)))))) | exact And.right (And.right (And.right (And.right (And.right (by with_reducible assumption))))) | exact And.left (And.right (And.right (And.right (And.right (And.right (And.right (by with_reducible assumption))))))) | exact And.right (And.right (And.right (And.right (And.right (And.right (by with_reducible assumption)))))) | exact And.left (And.right (And.right (And.right (And.right (And.right (And.right (And.right (by with_reducible assumption)))))))) | exact And.right (And.right (And.right (And.right (And.right (And.right (And.right (by with_reducible assumption))))))) | exact And.left (And.right (And.right (And.right (And.right (And.right (And.right (And.right (And.right (by with_reducible assumption))))))))) | exact And.right (And.right (And.right (And.right (And.right (And.right (And.right (And.right (by with_reducible assumption)))))))) | exact And.left (And.right (And.right (And.right (And.right (And.right (And.right (And.right (And.right (And.right (by with_reducible assumption)))))))))) | exact And.right (And.right (And.right (And.right (And.right (And.right (And.right (And.right (And.right (by with_reducible assumption))))))))) | exact And.left (And.right (And.right (And.right (And.right (And.right (And.right (And.right (And.right (And.right (And.right (by with_reducible assumption))))))))))) | exact And.right (And.right (And.right (And.right (And.right (And.right (And.right (And.right (And.right (And.right (by with_reducible assumption)))))))))) | exact And.left (And.right (And.right (And.right (And.right (And.right (And.right (And.right (And.right (And.right (And.right (And.right (by with_reducible assumption)))))))))))) | exact And.right (And.right (And.right (And.right (And.right (And.right (And.right (And.right (And.right (And.right (And.right (by with_reducible assumption))))))))))) | exact And.left (And.right (And.right (And.right (And.right (And.right (And.right (And.right (And.right (And.right (And.right (And.right (And.right (by with_reducible assumption))))))))))))) | exact And.right (And.right (And.right (And.right (And.right (And.right (And.right (And.right (And.right (And.right (And.right (And.right (by with_reducible assumption)))))))))))) | exact And.left (And.right (And.right (And.right (And.right (And.right (And.right (And.right (And.right (And.right (And.right (And.right (And.right (And.right (by with_reducible assumption)))))))))))))) | exact And.right (And.right (And.right (And.right (And.right (And.right (And.right (And.right (And.right (And.right (And.right (And.right (And.right (by with_reducible assumption))))))))))))) | exact And.left (And.right (And.right (And.right (And.right (And.right (And.right (And.right (And.right (And.right (And.right (And.right (And.right (And.right (And.right (by with_reducible assumption))))))))))))))) | exact And.right (And.right (And.right (And.right (And.right (And.right (And.right (And.right (And.right (And.right (And.right (And.right (And.right (And.right (by with_reducible assumption))))))))))))))) | lia)
  k_with "k_all" => first | assumption | (refine allNe_lt (by assumption) ?_; lia)
  k_with "binaryOp LShift int int" => k_extra "shl"
  k_with "binaryOp RShift int int" => k_extra "shr"
  k_with "binaryOp Mult int int" => k_extra "mul"
  k_with "call ref" => ((refine' ind 64 _ _ _ _ _ _ _ _ _ ?c1 ?c2 ?c3 ?c4 ?c5 ?c6 ?c7 ?ca ?cb ?c8 ?c9 ?c10 ?c11 ?cc ?cd ?c12 ?c13 ?_); (case c1 => k_dflt k_asm); (case c2 => k_dflt k_asm); (case c3 => k_dflt k_asm); (case c4 => k_dflt k_asm); (case c5 => k_dflt k_asm); (case c6 => exact rfl); (case c7 => k_dflt kn_code); (case ca => assumption); (case cb => assumption); (case c8 => exact Int.le_refl 0); (case c9 => exact hnD ▸ hc0); (case c10 => exact Int.le_refl _); (case c11 => exact (Int.sub_zero (nD : Int)).symm ▸ hN64); (case cc => exact Int.le_of_lt hx0); (case cd => (rw [Int.sub_zero, hnD]; exact hxc)); (case c12 => first | exact room_64 hd1 | ktr_room); (case c13 => first | exact unit_64 hu | ktr_units); intro us9 k9 h9 tk9 I9 F9 N9; (try dsimp only); (try k_fold))
  k_steps
  rename_i kF kN Tc kX
  rw [Int.sub_zero, hnD, show (0 : Int).toNat = 0 from rfl, lay_whole (by rw [digs_length]; simp)] at I9
  obtain ⟨_, _, _, _, qc, q55, qAll⟩ := lB
  exact hret _ _ _ _ _ I9 (by k_asm) (kst_newsOf kN (by kst_inAny)) qc q55 qAll

end
end Mine
/-! X_d2iB -/
namespace Mine
section
theorem d2i_old {w : World} {loose : List PySem.Str} {mean : ExcName → Option Value} {mg mb : PySem.Str → Option Value}
    {dp un : Nat} {gd : Option (List Code)} {cn : PySem.Str} {cs : Scope} {a : Addr} {ccd : Value} {cl : List (PySem.Str × Addr)} {outer : List Env} {A₀ : Around} {base h₀ : Heap} {L : Addr} {m : PySem.Str → Option Value} {s : Shared} {Q E : Value → Shared → Prop} {news : List (Addr × Obj)}
    (B : Below A₀ base outer h₀) (F : Fr h₀ L s.heap m) (X : (hd.heap_1 w.params).In h₀) (N : News h₀ L s.heap news) (T : Top topProg loose mean mg mb h₀) (hk : cs.kind = .function)
    {c : Addr} {oc : Obj} {us : Array Value} {t : Tok} (hc62 : @LT.lt Nat _ 62 c) (hus : oc.data = .fields us) (hqn : us[1]? = some (.str qD t)) {l : Addr} {vs : List Value} {ns : List Int} {nn : Nat} (hi : IntsAre vs ns) (N0 : News h₀ L s.heap ((c, oc) :: (l, W.listOf vs.toArray nn) :: (62, tabObj #[rawInt 89, rawInt 4, .ref c]) :: news)) (hne : ∀ p ∈ news, p.1 ≠ 62) (hl62 : @LT.lt Nat _ 62 l) (codeHd : CodeHd base 66 62) (hlen : ns.length ≤ 64) {Wd : Nat} (hW : Wd ≤ 100) (hb : ∀ x ∈ ns, 0 ≤ x ∧ x < 2 ^ Wd) {tn : Tok}
    (hd1 : dp + 70 < recursionLimit) (hu : un + 600 < cLine)
    (hret : ∀ t' h1 tk1, Fr h₀ L h1 m → News h₀ L h1 ((c, oc) :: (l, W.listOf vs.toArray nn) :: (62, tabObj #[rawInt 89, rawInt 4, .ref c]) :: news) → Q (.int (dval Wd ns) t') { s with heap := h1, toks := tk1 }) :
    wpAny (model Challenge.rw_sn0051_01.row.prog w) (ktrTop dp un gd cn cs L a ccd cl outer) (call (.ref 67) [.ref l, .int Wd tn]) Q E s := by
  revert X
  k_fill
  intro X
  refine wpAny_call ?_
  k_with_none
  k_with "k_all" => first | assumption | (refine allNe_lt (by assumption) ?_; lia)
  k_with "binaryOp LShift int int" => k_extra "shl"
  k_with "binaryOp RShift int int" => k_extra "shr"
  k_with "binaryOp Mult int int" => k_extra "mul"
  k_with "call ref" => fail
  first
  | (k_dflt cell_enter)
  | (k_dflt (refine' code_defC ?k1 ?k2 ?k3 ?k4 ?k5 ?kA ?kF ?kK ?k6 ?k7 ?k8 ?k9 ?kB ?kD ?_ ?c2 ?c3 ?c4; (case kA => exact rfl); (case kF => exact rfl); (case kK => assumption); (case k1 => k_asm); (case k2 => k_asm); (case k3 => k_asm); (case k4 => k_asm); (case k5 => k_asm); (case k6 => k_is); (case k7 => k_is); (case k8 => ktr_room); (case k9 => first | exact BindsTo.of_eq rfl | exact binds_K (by k_in) rfl (by k_is) rfl rfl rfl); (case kB => exact rfl); (case kD => decide); (case c2 => exact rfl); (case c3 => exact rfl); (case c4 => exact rfl); k_whole; intro g' L' h' tk' cells' FG' F' N' Y' B' X' T' l'; (try dsimp only); (try k_cells Y'); (try simp only [List.nil_append, List.cons_append] at N'); (try k_lt l'); (try obtain ⟨l1c, l1a, l1b, lAll⟩ := l'); (try k_lift B'); (try k_fold)))
  | (k_dflt (refine' code_def ?k1 ?k2 ?k3 ?k4 ?k5 ?kA ?kF ?kK ?k6 ?k7 ?k8 ?k9 ?kB ?_ ?c2 ?c3 ?c4 ?c5; (case kA => exact rfl); (case kF => exact rfl); (case kK => assumption); (case k1 => k_asm); (case k2 => k_asm); (case k3 => k_asm); (case k4 => k_asm); (case k5 => k_asm); (case k6 => k_is); (case k7 => k_is); (case k8 => ktr_room); (case k9 => first | exact BindsTo.of_eq rfl | exact binds_K (by k_in) rfl (by k_is) rfl rfl rfl); (case c5 => decide); (case kB => exact locs rfl); (case c2 => exact rfl); (case c3 => exact rfl); (case c4 => exact rfl); k_whole; intro g' L' h' FG' F' N' B' X' T'; (try dsimp only); (try k_lift B'); (try k_fold)))
  k_steps
  rotate_left
  · rename_i o1 o2 o3 d1 d2 d3 fI ctI dcI h2 tk2 lI1 h3 oI F3 N3 dI hno kF kN Tc kX
    rw [← dval_none (w := Wd) hno]; exact hret _ _ _ (by k_asm) (kst_newsOf kN (by kst_inAny))
  rename_i o1 o2 o3 d1 d2 d3 fI ctI dcI h2 tk2 lI1 h3 oI F3 N3 dI hpos
  generalize hO : fnMade _ _ _ _ _ _ _ _ _ _ = O at N3
  generalize hLED : (_ :: _ : List (Addr × Obj)) = LED at N3
  have ind : ∀ (K : Nat) (lo hi : Int) (tl th : Tok) {dp un : Nat} {gd : Option (List Code)} {cn : PySem.Str} {cs : Scope} {a : Addr} {ccd : Value} {cl : List (PySem.Str × Addr)} {outer : List Env} {A₀ : Around} {base h₀ : Heap} {L : Addr} {m : PySem.Str → Option Value} {s : Shared} {Q E : Value → Shared → Prop},
      Below A₀ base outer h₀ → Fr h₀ L s.heap m → (hd.heap_1 w.params).In h₀ → News h₀ L s.heap LED → Top topProg loose mean mg mb h₀ → cs.kind = .function →
      CodeHd base 66 62 → 0 ≤ lo → lo < hi → hi ≤ ns.length → hi - lo ≤ K → dp + K + 1 < recursionLimit → un + 8 * K + 8 < cLine →
      (∀ t h' tk', Fr h₀ L h' m → News h₀ L h' LED → Q (.int (dseg Wd ns lo hi) t) { s with heap := h', toks := tk' }) →
      wpAny (model Challenge.rw_sn0051_01.row.prog w) (ktrTop dp un gd cn cs L a ccd cl outer) (call (.ref fI) [.int lo tl, .int hi th]) Q E s := by
    intro K
    induction K with
    | zero => intros; exfalso; lia
    | succ K ih =>
      intro lo hi tl th dp un gd cn cs a ccd cl outer A₀ base h₀ L m s Q E B F X N T hk codeHd2 hlo hlt hhi hK hd1 hu hret
      subst hLED
      subst hO
      k_with_none
      k_with "k_all" => first | assumption | (refine allNe_lt (by assumption) ?_; lia)
      k_with "binaryOp LShift int int" => k_extra "shl"
      k_with "binaryOp RShift int int" => k_extra "shr"
      k_with "binaryOp Mult int int" => k_extra "mul"
      refine wpAny_call ?_
      k_dflt (refine' code_nest ?k1 ?k2 ?k3 ?k4 ?k5 ?kA ?kF ?kK ?k6 ?k7 ?k8 ?k9 ?kB ?_ ?c2 ?c3 ?c4 ?c5; (case kA => exact rfl); (case kF => exact rfl); (case kK => first | exact rfl | assumption); (case k1 => k_asm); (case k2 => k_asm); (case k3 => k_asm); (case k4 => k_asm); (case k5 => k_asm); (case k6 => k_mem); (case k7 => exact codeRec_news (by k_asm) (by k_mem) (by assumption) (by assumption)); (case k8 => ktr_room); (case k9 => exact BindsTo.of_eq rfl); (case c5 => decide); (case kB => exact locs rfl); (case c2 => exact rfl); (case c3 => exact rfl); (case c4 => exact rfl); k_whole; intro g' L' h' FG' F' N' B' X' T'; (try dsimp only); (try k_lift B'); (try k_fold))
      k_steps
      · rw [dseg_one hlo (by assumption) hhi]
        exact hret _ _ _ (by k_asm) (by k_asm)
      · have hm := mid_lt hlo hlt (by assumption)
        generalize (lo + hi).fdiv (2 ^ Int.toNat 1) = mid at *
        have hH : Half lo hi mid ns.length K := half_ok hlo hhi hK (Int.ofNat_le.mpr hlen) hm
        have hs := shift_ok hH.a6 hH.a7 hW
        have hbit := dseg_bits hb (lo := mid) (hi := hi) hH.a0 (sub_64 hH.a0 hhi (Int.ofNat_le.mpr hlen)) hW
        k_with "shl" => (refine lshift_int hs.1 (shl_fit hbit hs.2) ?_)
        k_with "call ref" => ((refine' ih _ _ _ _ ?c1 ?c2 ?c3 ?c4 ?c5 ?c6 ?c7 ?c8 ?c9 ?c10 ?c11 ?c12 ?c13 ?_); (case c1 => k_dflt k_asm); (case c2 => k_dflt k_asm); (case c3 => k_dflt k_asm); (case c4 => k_dflt k_asm); (case c5 => k_dflt k_asm); (case c6 => exact rfl); (case c7 => exact codeHd2); (case c8 => first | exact hlo | exact hH.a0); (case c9 => first | exact hH.a1 | exact hH.a2); (case c10 => first | exact hhi | exact hH.a3); (case c11 => first | exact hH.a4 | exact hH.a5); (case c12 => first | exact room_k hd1 | ktr_room); (case c13 => first | exact unit_k hu | ktr_units); intro t9 h9 tk9 F9 N9; (try dsimp only); (try k_fold))
        k_steps
        rw [dseg_two hlo (Int.le_of_lt hH.a1) (Int.le_of_lt hH.a2) hhi]
        exact hret _ _ _ (by k_asm) (by k_asm)
  subst hLED
  subst hO
  k_with_none
  k_with "k_all" => first | assumption | (refine allNe_lt (by assumption) ?_; lia)
  k_with "binaryOp LShift int int" => k_extra "shl"
  k_with "binaryOp RShift int int" => k_extra "shr"
  k_with "binaryOp Mult int int" => k_extra "mul"
  k_with "call ref" => ((refine' ind 64 _ _ _ _ ?c1 ?c2 ?c3 ?c4 ?c5 ?c6 ?c7 ?c8 ?c9 ?c10 ?c11 ?c12 ?c13 ?_); (case c1 => k_dflt k_asm); (case c2 => k_dflt k_asm); (case c3 => k_dflt k_asm); (case c4 => k_dflt k_asm); (case c5 => k_dflt k_asm); (case c6 => exact rfl); (case c7 => k_dflt kn_code); (case c8 => exact Int.le_refl 0); (case c9 => first | assumption | exact Int.ofNat_lt.mpr (by assumption) | lia); (case c10 => exact Int.le_refl _); (case c11 => first | exact (Int.sub_zero (ns.length : Int)).symm ▸ Int.ofNat_le.mpr hlen | lia); (case c12 => first | exact room_64 hd1 | ktr_room); (case c13 => first | exact unit_64 hu | ktr_units); intro t9 h9 tk9 F9 N9; (try dsimp only); (try k_fold))
  k_steps
  rw [dseg_all]
  rename_i kF kN Tc kX; exact hret _ _ _ (by k_asm) (kst_newsOf kN (by kst_inAny))

end
end Mine
/-! X_div2 -/
namespace Mine
section
theorem div2_ok {w : World} {loose : List PySem.Str} {mean : ExcName → Option Value} {mg mb : PySem.Str → Option Value}
    {dp un : Nat} {gd : Option (List Code)} {cn : PySem.Str} {cs : Scope} {a : Addr} {ccd : Value} {cl : List (PySem.Str × Addr)} {outer : List Env} {A₀ : Around} {base h₀ : Heap} {L : Addr} {m : PySem.Str → Option Value} {s : Shared} {Q E : Value → Shared → Prop} {news : List (Addr × Obj)}
    (B : Below A₀ base outer h₀) (F : Fr h₀ L s.heap m) (X : (hd.heap_1 w.params).In h₀) (N : News h₀ L s.heap news) (T : Top topProg loose mean mg mb h₀) (hk : cs.kind = .function)
    {x y n : Int} {tx ty tn : Tok} (hy : y ≠ 0) (hnp : Builtin.divisionGoesByPylong x y = false) (hsm : (Builtin.Int.intBits x : Int) - n ≤ 4000)
    (hd1 : dp + 1 < recursionLimit) (hu : un + 8 < cLine)
    (hret : ∀ d t1 t2 h1 tk1, Fr h₀ L h1 m → News h₀ L h1 ((d, { cls := .type "tuple", data := .seq #[.int (x.fdiv y) t1, .int (x.fmod y) t2] }) :: news) → AllLt d news → Q (.ref d) { s with heap := h1, toks := tk1 }) :
    wpAny (model Challenge.rw_sn0051_01.row.prog w) (ktrTop dp un gd cn cs L a ccd cl outer) (call (.ref 46) [.int x tx, .int y ty, .int n tn]) Q E s := by
  revert X
  k_fill
  intro X
  refine wpAny_call ?_
  k_with_none
  k_with "k_all" => first | assumption | (refine allNe_lt (by assumption) ?_; omega)
  k_with "binaryOp LShift int int" => k_extra "shl"
  k_with "binaryOp RShift int int" => k_extra "shr"
  k_with "binaryOp Mult int int" => k_extra "mul"
  k_with "call builtin:divmod" => (k_here; (rename News _ _ _ _ => NX); have lX := allLt_of (fun p hp => Heap.lt_size (NX p hp).1); refine divmod_N (by k_asm) (by k_asm) ?x4qnz ?_ (Or.inl ?x4qnp); rotate_left; (case x4qnz => assumption); (case x4qnp => assumption); intro h' F' N')
  k_with "call ref" => fail
  first
  | (k_dflt cell_enter)
  | (k_dflt (refine' code_defC ?k1 ?k2 ?k3 ?k4 ?k5 ?kA ?kF ?kK ?k6 ?k7 ?k8 ?k9 ?kB ?kD ?_ ?c2 ?c3 ?c4; (case kA => exact rfl); (case kF => exact rfl); (case kK => assumption); (case k1 => k_asm); (case k2 => k_asm); (case k3 => k_asm); (case k4 => k_asm); (case k5 => k_asm); (case k6 => k_is); (case k7 => k_is); (case k8 => ktr_room); (case k9 => first | exact BindsTo.of_eq rfl | exact binds_K (by k_in) rfl (by k_is) rfl rfl rfl); (case kB => exact rfl); (case kD => decide); (case c2 => exact rfl); (case c3 => exact rfl); (case c4 => exact rfl); k_whole; intro g' L' h' tk' cells' FG' F' N' Y' B' X' T' l'; (try dsimp only); (try k_cells Y'); (try simp only [List.nil_append, List.cons_append] at N'); (try k_lt l'); (try obtain ⟨lAll⟩ := l'); (try k_lift B'); (try k_fold)))
  | (k_dflt (refine' code_def ?k1 ?k2 ?k3 ?k4 ?k5 ?kA ?kF ?kK ?k6 ?k7 ?k8 ?k9 ?kB ?_ ?c2 ?c3 ?c4 ?c5; (case kA => exact rfl); (case kF => exact rfl); (case kK => assumption); (case k1 => k_asm); (case k2 => k_asm); (case k3 => k_asm); (case k4 => k_asm); (case k5 => k_asm); (case k6 => k_is); (case k7 => k_is); (case k8 => ktr_room); (case k9 => first | exact BindsTo.of_eq rfl | exact binds_K (by k_in) rfl (by k_is) rfl rfl rfl); (case c5 => decide); (case kB => exact locs rfl); (case c2 => exact rfl); (case c3 => exact rfl); (case c4 => exact rfl); k_whole; intro g' L' h' FG' F' N' B' X' T'; (try dsimp only); (try k_lift B'); (try k_fold)))
  k_steps
  rename_i kF kN Tc kX
  exact hret _ _ _ _ _ (by k_asm) (by k_asm) (by assumption)

end
end Mine
/-! U_dmpA -/
namespace Mine
section
theorem dmp_new {c2 : Addr} {oc2 : Obj} {w : World} {loose : List PySem.Str} {mean : ExcName → Option Value} {mg mb : PySem.Str → Option Value}
    {dp un : Nat} {gd : Option (List Code)} {cn : PySem.Str} {cs : Scope} {a : Addr} {ccd : Value} {cl : List (PySem.Str × Addr)} {outer : List Env} {A₀ : Around} {base h₀ : Heap} {L : Addr} {m : PySem.Str → Option Value} {s : Shared} {Q E : Value → Shared → Prop} {news : List (Addr × Obj)}
    (B : Below A₀ base outer h₀) (F : Fr h₀ L s.heap m) (X : (hd.heap_1 w.params).In h₀) (N : News h₀ L s.heap ((55, tabObj #[]) :: (62, tabObj #[rawInt 89, rawInt 4, .ref c2]) :: (c2, oc2) :: news)) (T : Top topProg loose mean mg mb h₀) (hk : cs.kind = .function)
    {x y : Int} {tx ty : Tok} (hne5 : ∀ p ∈ news, p.1 ≠ 55) (hne6 : ∀ p ∈ news, p.1 ≠ 62) (codeHd1 : CodeHd base 59 55) (codeHd2 : CodeHd base 66 62) (hc62 : @LT.lt Nat _ 62 c2) {vs2 : Array Value} {t2 : Tok} (hus2 : oc2.data = .fields vs2) (hqn2 : vs2[1]? = some (.str qD t2)) (hx0 : 0 < x) (hy : 0 < y) (hW : Builtin.Int.intBits y ≤ 100) (hc0 : 0 < ((Builtin.Int.intBits x : Int) + (Builtin.Int.intBits y : Int) - 1).fdiv (Builtin.Int.intBits y : Int)) (hc1 : ((Builtin.Int.intBits x : Int) + (Builtin.Int.intBits y : Int) - 1).fdiv (Builtin.Int.intBits y : Int) ≤ 64) (hxc : x < 2 ^ (Builtin.Int.intBits y * (((Builtin.Int.intBits x : Int) + (Builtin.Int.intBits y : Int) - 1).fdiv (Builtin.Int.intBits y : Int)).toNat))
    (hd1 : dp + 80 < recursionLimit) (hu : un + 800 < cLine)
    (hret : ∀ c1 oc1 vs1 t1 d q u1 u2 h1 tk1, Fr h₀ L h1 m → News h₀ L h1 ((d, { cls := .type "tuple", data := .seq #[.int q u1, .int (x % y) u2] }) :: (c1, oc1) :: (55, tabObj #[rawInt 74, rawInt 4, .ref c1]) :: (62, tabObj #[rawInt 89, rawInt 4, .ref c2]) :: (c2, oc2) :: news) → oc1.data = .fields vs1 → vs1[1]? = some (.str qI t1) → (∀ p ∈ (55, tabObj #[rawInt 74, rawInt 4, .ref c1]) :: (62, tabObj #[rawInt 89, rawInt 4, .ref c2]) :: (c2, oc2) :: news, p.1 < c1) → (∀ p ∈ (c1, oc1) :: (55, tabObj #[rawInt 74, rawInt 4, .ref c1]) :: (62, tabObj #[rawInt 89, rawInt 4, .ref c2]) :: (c2, oc2) :: news, p.1 < d) → Q (.ref d) { s with heap := h1, toks := tk1 }) :
    wpAny (model Challenge.rw_sn0051_01.row.prog w) (ktrTop dp un gd cn cs L a ccd cl outer) (call (.ref 74) [.int x tx, .int y ty]) Q E s := by
  revert X
  k_fill
  intro X
  refine wpAny_call ?_
  k_with_none
  k_with "k_ne" => (refine neN ?_; (try dsimp only); first | with_reducible assumption | (refine Nat.ne_of_lt ?_; first | with_reducible assumption | exact And.left (by with_reducible assumption) | exact And.left (And.right (by with_reducible assumption)) | exact And.right (by with_reducible assumption) | exact And.left (And.right (And.right (by with_reducible assumption))) | exact And.right (And.right (by with_reducible assumption)) | exact And.left (And.right (And.right (And.right (by with_reducible assumption)))) | exact And.right (And.right (And.right (by with_reducible assumption))) | exact And.left (And.right (And.right (And.right (And.right (by with_reducible assumption))))) | exact And.right (And.right (And.right (And.right (by with_reducible assumption)))) | exact And.left (And.right (And.right (And.right (And.right (And.right (by with_reducible assumption)))))) | exact And.right (And.right (And.right (And.right (And.right (by with_reducible assumption))))) | exact And.left (And.right (And.right (And.right (And.right (And.right (And.right (by with_reducible assumption))))))) | exact And.right (And.right (And.right (And.right (And.right (And.right (by with_reducible assumption)))))) | exact And.left (And.right (And.right (And.right (And.right (And.right (And.right (And.right (by with_reducible assumption)))))))) | exact And.right (And.right (And.right (And.right (And.right (And.right (And.right (by with_reducible assumption))))))) | exact And.left (And.right (And.right (And.right (And.right (And.right (And.right (And.right (And.right (by with_reducible assumption))))))))) | exact And.right (And.right (And.right (And.right (And.right (And.right (And.right (And.right (by with_reducible assumption)))))))) | exact And.left (And.right (And.right (And.right (And.right (And.right (And.right (And.right (And.right (And.right (by with_reducible assumption)))))))))) | exact And.right (And.right (And.right (And.right (And.right (And.right (And.right (And.right (And.right (by with_reducible assumption))))))))) | exact And.left (And.right (And.right (And.right (And.right (And.right (And.right (And.right (And.right (And.right (And.right (by with_reducible assumption))))))))))) | exact And.right (And.right (And.right (And.right (And.right (And.right (And.right (And.right (And.right (And.right (by with_reducible assumption)))))))))) | exact And.left (And.right (And.right (And.right (And.right (And.right (And.right (And.right (And.right (And.right (And.right (And.right (by with_reducible assumption)))))))))))) | exact And.right (And.right (And.right (And.right (And.right (And.right (And.right (And.right (And.right (And.right (And.right (by with_reducible assumption))))))))))) | exact And.left (And.right (And.right (And.right (And.right (And.right (And.right (And.right (And.right (And.right (And.right (And.right (And.right (by with_reducible assumption))))))))))))) | exact And.right (And.right (And.right (And.right (And.right (And.right (And.right (And.right (And.right (And.right (And.right (And.right (by with_reducible assumption)))))))))))) | exact And.left (And.right (And.right (And.right (And.right (And.right (And.right (And.right (And.right (And.right (And.right (And.right (And.right (And.right (by with_reducible assumption)))))))))))))) | exact And.right (And.right (And.right (And.right (And.right (And.right (And.right (And.right (And.right (And.right (And.right (And.right (And.right (by with_reducible assumption))))))))))))) | exact And.left (And.right (And.right (And.right (And.right (And.right (And.right (And.right (And.right (And.right (And.right (And.right (And.right (And.right (And.right (by with_reducible assumption))))))))))))))) | exact And.right (And.right (And.right (And.right (And.right (And.right (And.right (And.right (And.right (And.right (And.right (And.right (And.right (And.right (by with_reducible assumption))))))))))))))) | (refine Nat.ne_of_gt ?_; first | with_reducible assumption | exact And.left (by with_reducible assumption) | exact And.left (And.right (by with_reducible assumption)) | exact And.right (by with_reducible assumption) | exact And.left (And.right (And.right (by with_reducible assumption))) | exact And.right (And.right (by with_reducible assumption)) | exact And.left (And.right (And.right (And.right (by with_reducible assumption)))) | exact And.right (And.right (And.right (by with_reducible assumption))) | exact And.left (And.right (And.right (And.right (And.right (by with_reducible assumption))))) | exact And.right (And.right (And.right (And.right (by with_reducible assumption)))) | exact And.left (And.right (And.right (And.right (And.right (And.right (by with_reducible assumption)))))) | exact And.right (And.right (And.right (And.right (And.right (by with_reducible assumption))))) | exact And.left (And.right (And.right (And.right (And.right (And.right (And.right (by with_reducible assumption))))))) | exact And.right (And.right (And.right (And.right (And.right (And.right (by with_reducible assumption)))))) | exact And.left (And.right (And.right (And.right (And.right (And.right (And.right (And.right (by with_reducible assumption)))))))) | exact And.right (And.right (And.right (And.right (And.right (And.right (And.right (by with_reducible assumption))))))) | exact And.left (And.right (And.right (And.right (And.right (And.right (And.right (And.right (And.right (by with_reducible assumption))))))))) | exact And.right (And.right (And.right (And.right (And.right (And.right (And.right (And.right (by with_reducible assumption)))))))) | exact And.left (And.right (And.right (And.right (And.right (And.right (And.right (And.right (And.right (And.right (by with_reducible assumption)))))))))) | exact And.right (And.right (And.right (And.right (And.right (And.right (And.right (And.right (And.right (by with_reducible assumption))))))))) | exact And.left (And.right (And.right (And.right (And.right (And.right (And.right (And.right (And.right (And.right (And.right (by with_reducible assumption))))))))))) | exact And.right (And.right (And.right (And.right (And.right (And.right (And.right (And.right (And.right (And.right (by with_reducible assumption)))))))))) | exact And.left (And.right (And.right (And.right (And.right (And.right (And.right (And.right (And.right (And.right (And.right (And.right (by with_reducible assumption)))))))))))) | exact And.right (And.right (And.right (And.right (And.right (And.right (And.right (And.right (And.right (And.right (And.right (by with_reducible assumption))))))))))) | exact And.left (And.right (And.right (And.right (And.right (And.right (And.right (And.right (And.right (And.right (And.right (And.right (And.right (by with_reducible assumption))))))))))))) | exact And.right (And.right (And.right (And.right (And.right (And.right (And.right (And.right (And.right (And.right (And.right (And.right (by with_reducible assumption)))))))))))) | exact And.left (And.right (And.right (And.right (And.right (And.right (And.right (And.right (And.right (And.right (And.right (And.right (And.right (And.right (by with_reducible assumption)))))))))))))) | exact And.right (And.right (And.right (And.right (And.right (And.right (And.right (And.right (And.right (And.right (And.right (And.right (And.right (by with_reducible assumption))))))))))))) | exact And.left (And.right (And.right (And.right (And.right (And.right (And.right (And.right (And.right (And.right (And.right (And.right (And.right (And.right (And.right (by with_reducible assumption))))))))))))))) | exact And.right (And.right (And.right (And.right (And.right (And.right (And.right (And.right (And.right (And.right (And.right (And.right (And.right (And.right (by with_reducible assumption))))))))))))))) | (first | with_reducible assumption | exact And.left (by with_reducible assumption) | exact And.left (And.right (by with_reducible assumption)) | exact And.right (by with_reducible assumption) | exact And.left (And.right (And.right (by with_reducible assumption))) | exact And.right (And.right (by with_reducible assumption)) | exact And.left (And.right (And.right (And.right (by with_reducible assumption)))) | exact And.right (And.right (And.right (by with_reducible assumption))) | exact And.left (And.right (And.right (And.right (And.right (by with_reducible assumption))))) | exact And.right (And.right (And.right (And.right (by with_reducible assumption)))) | exact And.left (And.right (And.right (And.right (And.right (And.right (by with_reducible assumption)))))) | exact And.right (And.right (And.right (And.right (And.right (by with_reducible assumption))))) | exact And.left (And.right (And.right (And.right (And.right (And.right (And.right (by with_reducible assumption))))))) | exact And.right (And.right (And.right (And.right (And.right (And.right (by with_reducible assumption)))))) | exact And.left (And.right (And.right (And.right (And.right (And.right (And.right (And.right (by with_reducible assumption)))))))) | exact And.right (And.right (And.right (And.right (And.right (And.right (And.right (by with_reducible assumption))))))) | exact And.left (And.right (And.right (And.right (And.right (And.right (And.right (And.right (And.right (by with_reducible assumption))))))))) | exact And.right (And.right (And.right (And.right (And.right (And.right (And.right (And.right (by with_reducible assumption)))))))) | exact And.left (And.right (And.right (And.right (And.right (And.right (And.right (And.right (And.right (And.right (by with_reducible assumption)))))))))) | exact And.right (And.right (And.right (And.right (And.right (And.right (And.right (And.right (And.right (by with_reducible assumption))))))))) | exact And.left (And.right (And.right (And.right (And.right (And.right (And.right (And.right (And.right (And.right (And.right (by with_reducible assumption))))))))))) | exact And.right (And.right (And.right (And.right (And.right (And.right (And.right (And.right (And.right (And.right (by with_reducible assumption)))))))))) | exact And.left (And.right (And.right (And.right (And.right (And.right (And.right (And.right (And.right (And.right (And.right (And.right (by with_reducible assumption)))))))))))) | exact And.right (And.right (And.right (And.right (And.right (And.right (And.right (And.right (And.right (And.right (And.right (by with_reducible assumption))))))))))) | exact And.left (And.right (And.right (And.right (And.right (And.right (And.right (And.right (And.right (And.right (And.right (And.right (And.right (by with_reducible assumption))))))))))))) | exact And.right (And.right (And.right (And.right (And.right (And.right (And.right (And.right (And.right (And.right (And.right (And.right (by with_reducible assumption)))))))))))) | exact And.left (And.right (And.right (And.right (And.right (And.right (And.right (And.right (And.right (And.right (And.right (And.right (And.right (And.right (by with_reducible assumption)))))))))))))) | exact And.right (And.right (And.right (And.right (And.right (And.right (And.right (And.right (And.right (And.right (And.right (And.right (And.right (by with_reducible assumption))))))))))))) | exact And.left (And.right (And.right (And.right (And.right (And.right (And.right (And.right (And.right (And.right (And.right (And.right (And.right (And.right (And.right (by with_reducible assumption))))))))))))))) | exact And.right (And.right (And.right (And.right (And.right (And.right (And.right (And.right (And.right (And.right (And.right (And.right (And.right (And.right (by with_reducible assumption))))))))))))))) | (refine Ne.symm ?_; first | with_reducible assumption | exact And.left (by with_reducible assumption) | exact And.left (And.right (by with_reducible assumption)) | exact And.right (by with_reducible assumption) | exact And.left (And.right (And.right (by with_reducible assumption))) | exact And.right (And.right (by with_reducible assumption)) | exact And.left (And.right (And.right (And.right (by with_reducible assumption)))) | exact And.right (And.right (And.right (by with_reducible assumption))) | exact And.left (And.right (And.right (And.right (And.right (by with_reducible assumption))))) | exact And.right (And.right (And.right (And.right (by with_reducible assumption)))) | exact And.left (And.right (And.right (And.right (And.right (And.right (by with_reducible assumption)))))) | exact And.right (And.right (And.right (And.right (And.right (by with_reducible assumption))))) | exact And.left (And.right (And.right (And.right (And.right (And.right (And.right (by with_reducible assumption))))))) | exact And.right (And.right (And.right (And.right (And.right (And.right (by with_reducible assumption)))))) | exact And.left (And.right (And.right (And.right (And.right (And.right (And.right (And.right (by with_reducible assumption)))))))) | exact And.right (And.right (And.right (And.right (And.right (And.right (And.right (by with_reducible assumption))))))) | exact And.left (And.right (And.right (And.right (And.right (And.right (And.right (And.right (And.right (by with_reducible assumption))))))))) | exact And.right (And.right (And.right (And.right (And.right (And.right (And.right (And.right (by with_reducible assumption)))))))) | exact And.left (And.right (And.right (And.right (And.right (And.right (And.right (And.right (And.right (And.right (by with_reducible assumption)))))))))) | exact And.right (And.right (And.right (And.right (And.right (And.right (And.right (And.right (And.right (by with_reducible assumption))))))))) | exact And.left (And.right (And.right (And.right (And.right (And.right (And.right (And.right (And.right (And.right (And.right (by with_reducible assumption))))))))))) | exact And.right (And.right (And.right (And.right (And.right (And.right (And.right (And.right (And.right (And.right (by with_reducible assumption)))))))))) | exact And.left (And.right (And.right (And.right (And.right (And.right (And.right (And.right (And.right (And.right (And.right (And.right (by with_reducible assumption)))))))))))) | exact And.right (And.right (And.right (And.right (And.right (And.right (And.right (And.right (And.right (And.right (And.right (by with_reducible assumption))))))))))) | exact And.left (And.right (And.right (And.right (And.right (And.right (And.right (And.right (And.right (And.right (And.right (And.right (And.right (by with_reducible assumption))))))))))))) | exact And.right (And.right (And.right (And.right (And.right (And.right (And.right (And.right (And.right (And.right (And.right (And.right (by with_reducible assumption)))))))))))) | exact And.left (And.right (And.right (And.right (And.right (And.right (And.right (And.right (And.right (And.right (And.right (And.right (And.right (And.right (by with_reducible assumption)))))))))))))) | exact And.right (And.right (And.right (And.right (And.right (And.right (And.right (And.right (And.right (And.right (And.right (And.right (And.right (by with_reducible assumption))))))))))))) | exact And.left (And.right (And.right (And.right (And.right (And.right (And.right (And.right (And.right (And.right (And.right (And.right (And.right (And.right (And.right (by with_reducible assumption))))))))))))))) | exact And.right (And.right (And.right (And.right (And.right (And.right (And.right (And.right (And.right (And.right (And.right (And.right (And.right (And.right (by with_reducible assumption))))))))))))))) | omega)
  k_with "k_all" => first | assumption | (refine allNe_lt (by assumption) ?_; omega)
  k_with "binaryOp LShift int int" => k_extra "shl"
  k_with "binaryOp RShift int int" => k_extra "shr"
  k_with "binaryOp Mult int int" => k_extra "mul"
  k_with "call ref" => fail
  k_with "pyIter ref" => fail
  first
  | (k_dflt cell_enter)
  | (k_dflt (refine' code_defC ?k1 ?k2 ?k3 ?k4 ?k5 ?kA ?kF ?kK ?k6 ?k7 ?k8 ?k9 ?kB ?kD ?_ ?c2 ?c3 ?c4; (case kA => exact rfl); (case kF => exact rfl); (case kK => assumption); (case k1 => k_asm); (case k2 => k_asm); (case k3 => k_asm); (case k4 => k_asm); (case k5 => k_asm); (case k6 => k_is); (case k7 => k_is); (case k8 => ktr_room); (case k9 => first | exact BindsTo.of_eq rfl | exact binds_K (by k_in) rfl (by k_is) rfl rfl rfl); (case kB => exact rfl); (case kD => decide); (case c2 => exact rfl); (case c3 => exact rfl); (case c4 => exact rfl); k_whole; intro g' L' h' tk' cells' FG' F' N' Y' B' X' T' l'; (try dsimp only); (try k_cells Y'); (try simp only [List.nil_append, List.cons_append] at N'); (try k_lt l'); (try obtain ⟨l1b, l1d, l1e, lAll⟩ := l'); (try k_lift B'); (try k_fold)))
  | (k_dflt (refine' code_def ?k1 ?k2 ?k3 ?k4 ?k5 ?kA ?kF ?kK ?k6 ?k7 ?k8 ?k9 ?kB ?_ ?c2 ?c3 ?c4 ?c5; (case kA => exact rfl); (case kF => exact rfl); (case kK => assumption); (case k1 => k_asm); (case k2 => k_asm); (case k3 => k_asm); (case k4 => k_asm); (case k5 => k_asm); (case k6 => k_is); (case k7 => k_is); (case k8 => ktr_room); (case k9 => first | exact BindsTo.of_eq rfl | exact binds_K (by k_in) rfl (by k_is) rfl rfl rfl); (case c5 => decide); (case kB => exact locs rfl); (case c2 => exact rfl); (case c3 => exact rfl); (case c4 => exact rfl); k_whole; intro g' L' h' FG' F' N' B' X' T'; (try dsimp only); (try k_lift B'); (try k_fold)))
  k_steps
  refine' i2d_new ?q1 ?q2 ?q3 ?q4 ?q5 ?q6 ?q7 ?q8 hW ?q9 hx0 hc0 hc1 hxc ?q10 ?q11 ?q12
  case q1 => k_dflt k_asm
  case q2 => k_dflt k_asm
  case q3 => k_dflt k_asm
  case q4 => k_dflt k_asm
  case q5 => k_dflt k_asm
  case q6 => exact rfl
  case q7 => k_all
  case q8 => assumption
  case q9 => exact bits_pos hy
  case q10 => ktr_room
  case q11 => ktr_units
  intro cI ocI vsI tI dI usI kI h1 tk1 I1 F1 N1 dI1 dI2 lt1 lt2 lt3
  (try dsimp only)
  (try k_fold)
  k_steps
  rename_i lQ hA lq1 hB D hC FD ND lD
  obtain ⟨lt3a, lt3b, lt3c⟩ := lt3
  obtain ⟨lq1, lq2, lq3, lq4, lq5, lqA⟩ := lq1
  obtain ⟨lD1, lD2, lD3, lD4, lD5, lD6, lD7⟩ := lD
  refine' kst_rev (σ := List Value × List Int × Nat × Int × Nat) (I := D) (l := dI) (fun c => (lQ, W.listOf c.1.toArray c.2.2.1) :: (cI, ocI) :: (55, tabObj #[rawInt 74, rawInt 4, Value.ref cI]) :: (62, tabObj #[rawInt 89, rawInt 4, .ref c2]) :: (c2, oc2) :: news) (fun c => [(Str.ofString "r", Value.int c.2.2.2.1 c.2.2.2.2)]) (fun c => IntsAre c.1 c.2.1) [Str.ofString "q_digit"]
    (fun pre c => c.2.2.2.1 = remFold (Builtin.Int.intBits y) y pre ∧ c.2.1.length = pre.length ∧ (∀ q ∈ c.2.1, 0 ≤ q ∧ q < 2 ^ Builtin.Int.intBits y)) ([], [], 0, 0, ?t0) rfl ⟨_, (ND _ (.head _)).1, rfl, rfl⟩ (News.isList ND (.tail _ (.tail _ (.head _)))) I1 (by k_ne) (ND _ (.head _)).2.2 (ND _ (.head _)).2.1.symm (ND _ (.tail _ (.tail _ (.head _)))).2.1.symm ?led FD ?nn .nil ?kk ?pp ?turn ?done
  case kk => kst_all
  case pp => exact ⟨rfl, rfl, fun q hq => nomatch hq⟩
  case nn => exact kst_newsOf ND (by kst_inAny)
  case led =>
    refine List.forall_mem_cons.mpr ⟨⟨by k_ne, by k_ne⟩, List.forall_mem_cons.mpr ⟨⟨by k_ne, by k_ne⟩, List.forall_mem_cons.mpr ⟨⟨by k_ne, by k_ne⟩, List.forall_mem_cons.mpr ⟨⟨by k_ne, by k_ne⟩, List.forall_mem_cons.mpr ⟨⟨by k_ne, by k_ne⟩, fun p hp => ⟨allNe_lt lD7 (Nat.le_refl _) p hp, allNe_lt lt3c (Nat.le_refl _) p hp⟩⟩⟩⟩⟩⟩
  case turn =>
   as_aux_lemma =>
    intro c pre post d td u h tk own hE hM hOff hFc hP F2 N2
    obtain ⟨us, qs, k, r, tr⟩ := c
    have kMark := kstMark
    (try dsimp only [kstB] at F2)
    (try dsimp only at N2 hFc hP)
    (try simp only [List.nil_append, List.cons_append, List.append_nil] at N2)
    (try simp only [List.map_cons, List.map_nil] at hOff)
    obtain ⟨hP1, hP2, hP3⟩ := hP
    have hdb : 0 ≤ d ∧ d < 2 ^ Builtin.Int.intBits y := digs_bound _ _ _ d hM
    have hrb : 0 ≤ r ∧ r < y := hP1 ▸ remFold_bound hy pre
    have hbr : Builtin.Int.intBits r ≤ 100 := Nat.le_trans (intBits_le_of_natAbs (by omega) (Nat.le_refl _)) hW
    have hqr := qr_bounds hrb hdb
    have hnp : Builtin.divisionGoesByPylong (r * 2 ^ ((Builtin.Int.intBits y : Nat) : Int).toNat + d) y = false := np_of_bits hW
    have hsm := rd_bits hrb hdb hW
    have hL := congrArg List.length hE
    simp only [List.length_reverse, digs_length, List.length_append, List.length_cons] at hL
    have hus := IntsAre.length hFc
    have lqB := lqA
    k_with "shl" => (refine lshift_int (by omega) (by omega) ?_)
    k_with "call ref" => ((refine' div2_ok ?c1 ?c2 ?c3 ?c4 ?c5 ?c6 ?c7 ?c8 ?c9 ?cd ?cu ?_); (case c1 => k_dflt k_asm); (case c2 => k_dflt k_asm); (case c3 => k_dflt k_asm); (case c4 => k_dflt k_asm); (case c5 => k_dflt k_asm); (case c6 => exact rfl); (case c7 => omega); (case c8 => exact hnp); (case c9 => exact hsm); (case cd => ktr_room); (case cu => ktr_units); intro d9 t9 u9 h9 tk9 F9 N9 A9; (try simp only [AllLt] at A9); (try dsimp only); (try k_fold))
    k_with "state" => exact dm_state hy hP1 hP2 hP3 hqr
    k_steps
  case done =>
   as_aux_lemma =>
    intro c u h tk hFc hP F2 N2
    obtain ⟨us, qs, k, r, tr⟩ := c
    have kMark := kstMark
    (try dsimp only [kstB] at F2)
    (try dsimp only at N2 hFc hP)
    (try simp only [List.nil_append, List.cons_append, List.append_nil] at N2)
    obtain ⟨hP1, hP2, hP3⟩ := hP
    simp only [List.length_reverse, digs_length] at hP2
    have hus := IntsAre.length hFc
    have lqB := lqA
    have hrev := IntsAre.reverse hFc
    k_with_none
    k_with "k_ne" => (refine neN ?_; (try dsimp only); first | with_reducible assumption | (refine Nat.ne_of_lt ?_; first | with_reducible assumption | exact And.left (by with_reducible assumption) | exact And.left (And.right (by with_reducible assumption)) | exact And.right (by with_reducible assumption) | exact And.left (And.right (And.right (by with_reducible assumption))) | exact And.right (And.right (by with_reducible assumption)) | exact And.left (And.right (And.right (And.right (by with_reducible assumption)))) | exact And.right (And.right (And.right (by with_reducible assumption))) | exact And.left (And.right (And.right (And.right (And.right (by with_reducible assumption))))) | exact And.right (And.right (And.right (And.right (by with_reducible assumption)))) | exact And.left (And.right (And.right (And.right (And.right (And.right (by with_reducible assumption)))))) | exact And.right (And.right (And.right (And.right (And.right (by with_reducible assumption))))) | exact And.left (And.right (And.right (And.right (And.right (And.right (And.right (by with_reducible assumption))))))) | exact And.right (And.right (And.right (And.right (And.right (And.right (by with_reducible assumption)))))) | exact And.left (And.right (And.right (And.right (And.right (And.right (And.right (And.right (by with_reducible assumption)))))))) | exact And.right (And.right (And.right (And.right (And.right (And.right (And.right (by with_reducible assumption))))))) | exact And.left (And.right (And.right (And.right (And.right (And.right (And.right (And.right (And.right (by with_reducible assumption))))))))) | exact And.right (And.right (And.right (And.right (And.right (And.right (And.right (And.right (by with_reducible assumption)))))))) | exact And.left (And.right (And.right (And.right (And.right (And.right (And.right (And.right (And.right (And.right (by with_reducible assumption)))))))))) | exact And.right (And.right (And.right (And.right (And.right (And.right (And.right (And.right (And.right (by with_reducible assumption))))))))) | exact And.left (And.right (And.right (And.right (And.right (And.right (And.right (And.right (And.right (And.right (And.right (by with_reducible assumption))))))))))) | exact And.right (And.right (And.right (And.right (And.right (And.right (And.right (And.right (And.right (And.right (by with_reducible assumption)))))))))) | exact And.left (And.right (And.right (And.right (And.right (And.right (And.right (And.right (And.right (And.right (And.right (And.right (by with_reducible assumption)))))))))))) | exact And.right (And.right (And.right (And.right (And.right (And.right (And.right (And.right (And.right (And.right (And.right (by with_reducible assumption))))))))))) | exact And.left (And.right (And.right (And.right (And.right (And.right (And.right (And.right (And.right (And.right (And.right (And.right (And.right (by with_reducible assumption))))))))))))) | exact And.right (And.right (And.right (And.right (And.right (And.right (And.right (And.right (And.right (And.right (And.right (And.right (by with_reducible assumption)))))))))))) | exact And.left (And.right (And.right (And.right (And.right (And.right (And.right (And.right (And.right (And.right (And.right (And.right (And.right (And.right (by with_reducible assumption)))))))))))))) | exact And.right (And.right (And.right (And.right (And.right (And.right (And.right (And.right (And.right (And.right (And.right (And.right (And.right (by with_reducible assumption))))))))))))) | exact And.left (And.right (And.right (And.right (And.right (And.right (And.right (And.right (And.right (And.right (And.right (And.right (And.right (And.right (And.right (by with_reducible assumption))))))))))))))) | exact And.right (And.right (And.right (And.right (And.right (And.right (And.right (And.right (And.right (And.right (And.right (And.right (And.right (And.right (by with_reducible assumption))))))))))))))) | (refine Nat.ne_of_gt ?_; first | with_reducible assumption | exact And.left (by with_reducible assumption) | exact And.left (And.right (by with_reducible assumption)) | exact And.right (by with_reducible assumption) | exact And.left (And.right (And.right (by with_reducible assumption))) | exact And.right (And.right (by with_reducible assumption)) | exact And.left (And.right (And.right (And.right (by with_reducible assumption)))) | exact And.right (And.right (And.right (by with_reducible assumption))) | exact And.left (And.right (And.right (And.right (And.right (by with_reducible assumption))))) | exact And.right (And.right (And.right (And.right (by with_reducible assumption)))) | exact And.left (And.right (And.right (And.right (And.right (And.right (by with_reducible assumption)))))) | exact And.right (And.right (And.right (And.right (And.right (by with_reducible assumption))))) | exact And.left (And.right (And.right (And.right (And.right (And.right (And.right (by with_reducible assumption))))))) | exact And.right (And.right (And.right (And.right (And.right (And.right (by with_reducible assumption)))))) | exact And.left (And.right (And.right (And.right (And.right (And.right (And.right (And.right (by with_reducible assumption)))))))) | exact And.right (And.right (And.right (And.right (And.right (And.right (And.right (by with_reducible assumption))))))) | exact And.left (And.right (And.right (And.right (And.right (And.right (And.right (And.right (And.right (by with_reducible assumption))))))))) | exact And.right (And.right (And.right (And.right (And.right (And.right (And.right (And.right (by with_reducible assumption)))))))) | exact And.left (And.right (And.right (And.right (And.right (And.right (And.right (And.right (And.right (And.right (by with_reducible assumption)))))))))) | exact And.right (And.right (And.right (And.right (And.right (And.right (And.right (And.right (And.right (by with_reducible assumption))))))))) | exact And.left (And.right (And.right (And.right (And.right (And.right (And.right (And.right (And.right (And.right (And.right (by with_reducible assumption))))))))))) | exact And.right (And.right (And.right (And.right (And.right (And.right (And.right (And.right (And.right (And.right (by with_reducible assumption)))))))))) | exact And.left (And.right (And.right (And.right (And.right (And.right (And.right (And.right (And.right (And.right (And.right (And.right (by with_reducible assumption)))))))))))) | exact And.right (And.right (And.right (And.right (And.right (And.right (And.right (And.right (And.right (And.right (And.right (by with_reducible assumption))))))))))) | exact And.left (And.right (And.right (And.right (And.right (And.right (And.right (And.right (And.right (And.right (And.right (And.right (And.right (by with_reducible assumption))))))))))))) | exact And.right (And.right (And.right (And.right (And.right (And.right (And.right (And.right (And.right (And.right (And.right (And.right (by with_reducible assumption)))))))))))) | exact And.left (And.right (And.right (And.right (And.right (And.right (And.right (And.right (And.right (And.right (And.right (And.right (And.right (And.right (by with_reducible assumption)))))))))))))) | exact And.right (And.right (And.right (And.right (And.right (And.right (And.right (And.right (And.right (And.right (And.right (And.right (And.right (by with_reducible assumption))))))))))))) | exact And.left (And.right (And.right (And.right (And.right (And.right (And.right (And.right (And.right (And.right (And.right (And.right (And.right (And.right (And.right (by with_reducible assumption))))))))))))))) | exact And.right (And.right (And.right (And.right (And.right (And.right (And.right (And.right (And.right (And.right (And.right (And.right (And.right (And.right (by with_reducible assumption))))))))))))))) | (first | with_reducible assumption | exact And.left (by with_reducible assumption) | exact And.left (And.right (by with_reducible assumption)) | exact And.right (by with_reducible assumption) | exact And.left (And.right (And.right (by with_reducible assumption))) | exact And.right (And.right (by with_reducible assumption)) | exact And.left (And.right (And.right (And.right (by with_reducible assumption)))) | exact And.right (And.right (And.right (by with_reducible assumption))) | exact And.left (And.right (And.right (And.right (And.right (by with_reducible assumption))))) | exact And.right (And.right (And.right (And.right (by with_reducible assumption)))) | exact And.left (And.right (And.right (And.right (And.right (And.right (by with_reducible assumption)))))) | exact And.right (And.right (And.right (And.right (And.right (by with_reducible assumption))))) | exact And.left (And.right (And.right (And.right (And.right (And.right (And.right (by with_reducible assumption))))))) | exact And.right (And.right (And.right (And.right (And.right (And.right (by with_reducible assumption)))))) | exact And.left (And.right (And.right (And.right (And.right (And.right (And.right (And.right (by with_reducible assumption)))))))) | exact And.right (And.right (And.right (And.right (And.right (And.right (And.right (by with_reducible assumption))))))) | exact And.left (And.right (And.right (And.right (And.right (And.right (And.right (And.right (And.right (by with_reducible assumption))))))))) | exact And.right (And.right (And.right (And.right (And.right (And.right (And.right (And.right (by with_reducible assumption)))))))) | exact And.left (And.right (And.right (And.right (And.right (And.right (And.right (And.right (And.right (And.right (by with_reducible assumption)))))))))) | exact And.right (And.right (And.right (And.right (And.right (And.right (And.right (And.right (And.right (by with_reducible assumption))))))))) | exact And.left (And.right (And.right (And.right (And.right (And.right (And.right (And.right (And.right (And.right (And.right (by with_reducible assumption))))))))))) | exact And.right (And.right (And.right (And.right (And.right (And.right (And.right (And.right (And.right (And.right (by with_reducible assumption)))))))))) | exact And.left (And.right (And.right (And.right (And.right (And.right (And.right (And.right (And.right (And.right (And.right (And.right (by with_reducible assumption)))))))))))) | exact And.right (And.right (And.right (And.right (And.right (And.right (And.right (And.right (And.right (And.right (And.right (by with_reducible assumption))))))))))) | exact And.left (And.right (And.right (And.right (And.right (And.right (And.right (And.right (And.right (And.right (And.right (And.right (And.right (by with_reducible assumption))))))))))))) | exact And.right (And.right (And.right (And.right (And.right (And.right (And.right (And.right (And.right (And.right (And.right (And.right (by with_reducible assumption)))))))))))) | exact And.left (And.right (And.right (And.right (And.right (And.right (And.right (And.right (And.right (And.right (And.right (And.right (And.right (And.right (by with_reducible assumption)))))))))))))) | exact And.right (And.right (And.right (And.right (And.right (And.right (And.right (And.right (And.right (And.right (And.right (And.right (And.right (by with_reducible assumption))))))))))))) | exact And.left (And.right (And.right (And.right (And.right (And.right (And.right (And.right (And.right (And.right (And.right (And.right (And.right (And.right (And.right (by with_reducible assumption))))))))))))))) | exact And.right (And.right (And.right (And.right (And.right (And.right (And.right (And.right (And.right (And.right (And.right (And.right (And.right (And.right (by with_reducible assumption))))))))))))))) | (refine Ne.symm ?_; first | with_reducible assumption | exact And.left (by with_reducible assumption) | exact And.left (And.right (by with_reducible assumption)) | exact And.right (by with_reducible assumption) | exact And.left (And.right (And.right (by with_reducible assumption))) | exact And.right (And.right (by with_reducible assumption)) | exact And.left (And.right (And.right (And.right (by with_reducible assumption)))) | exact And.right (And.right (And.right (by with_reducible assumption))) | exact And.left (And.right (And.right (And.right (And.right (by with_reducible assumption))))) | exact And.right (And.right (And.right (And.right (by with_reducible assumption)))) | exact And.left (And.right (And.right (And.right (And.right (And.right (by with_reducible assumption)))))) | exact And.right (And.right (And.right (And.right (And.right (by with_reducible assumption))))) | exact And.left (And.right (And.right (And.right (And.right (And.right (And.right (by with_reducible assumption))))))) | exact And.right (And.right (And.right (And.right (And.right (And.right (by with_reducible assumption)))))) | exact And.left (And.right (And.right (And.right (And.right (And.right (And.right (And.right (by with_reducible assumption)))))))) | exact And.right (And.right (And.right (And.right (And.right (And.right (And.right (by with_reducible assumption))))))) | exact And.left (And.right (And.right (And.right (And.right (And.right (And.right (And.right (And.right (by with_reducible assumption))))))))) | exact And.right (And.right (And.right (And.right (And.right (And.right (And.right (And.right (by with_reducible assumption)))))))) | exact And.left (And.right (And.right (And.right (And.right (And.right (And.right (And.right (And.right (And.right (by with_reducible assumption)))))))))) | exact And.right (And.right (And.right (And.right (And.right (And.right (And.right (And.right (And.right (by with_reducible assumption))))))))) | exact And.left (And.right (And.right (And.right (And.right (And.right (And.right (And.right (And.right (And.right (And.right (by with_reducible assumption))))))))))) | exact And.right (And.right (And.right (And.right (And.right (And.right (And.right (And.right (And.right (And.right (by with_reducible assumption)))))))))) | exact And.left (And.right (And.right (And.right (And.right (And.right (And.right (And.right (And.right (And.right (And.right (And.right (by with_reducible assumption)))))))))))) | exact And.right (And.right (And.right (And.right (And.right (And.right (And.right (And.right (And.right (And.right (And.right (by with_reducible assumption))))))))))) | exact And.left (And.right (And.right (And.right (And.right (And.right (And.right (And.right (And.right (And.right (And.right (And.right (And.right (by with_reducible assumption))))))))))))) | exact And.right (And.right (And.right (And.right (And.right (And.right (And.right (And.right (And.right (And.right (And.right (And.right (by with_reducible assumption)))))))))))) | exact And.left (And.right (And.right (And.right (And.right (And.right (And.right (And.right (And.right (And.right (And.right (And.right (And.right (And.right (by with_reducible assumption)))))))))))))) | exact And.right (And.right (And.right (And.right (And.right (And.right (And.right (And.right (And.right (And.right (And.right (And.right (And.right (by with_reducible assumption))))))))))))) | exact And.left (And.right (And.right (And.right (And.right (And.right (And.right (And.right (And.right (And.right (And.right (And.right (And.right (And.right (And.right (by with_reducible assumption))))))))))))))) | exact And.right (And.right (And.right (And.right (And.right (And.right (And.right (And.right (And.right (And.right (And.right (And.right (And.right (And.right (by with_reducible assumption))))))))))))))) | omega)
    k_with "k_all" => first | assumption | (refine allNe_lt (by assumption) ?_; omega)
    k_with "binaryOp LShift int int" => k_extra "shl"
    k_with "binaryOp RShift int int" => k_extra "shr"
    k_with "binaryOp Mult int int" => k_extra "mul"
    k_with "call ref" => fail
    k_with "call builtin:list.reverse" => ((refine' kl_reverse (l := us.reverse) ?F ?N ?e ?U ?z ?_); (case F => k_dflt k_asm); (case N => k_dflt k_asm); (case U => k_dflt k_upd); (case e => rfl); (case z => (rw [PySem.sizeLine_eq]; show us.length ≤ _; omega)); intro h9 F9 N9)
    k_steps
    rename (News _ _ _ ((lQ, _) :: _)) => NQ
    refine' d2i_old (ns := qs.reverse) (vs := us.reverse) (Wd := Builtin.Int.intBits y) (news := ((cI, ocI) :: (55, tabObj #[rawInt 74, rawInt 4, Value.ref cI]) :: news)) ?w1 ?w2 ?w3 ?w4 ?w5 ?w6 hc62 hus2 hqn2 hrev ?w7 ?w8 ?w9 ?w10 ?w11 hW ?w12 ?w13 ?w14 ?w15
    case w1 => k_dflt k_asm
    case w2 => k_dflt k_asm
    case w3 => k_dflt k_asm
    case w4 => exact kst_newsOf NQ (by kst_inAny)
    case w5 => k_dflt k_asm
    case w6 => exact rfl
    case w7 => exact kst_newsOf NQ (by kst_inAny)
    case w8 => k_all
    case w9 => (show @LT.lt Nat _ 62 lQ); omega
    case w10 => assumption
    case w11 => rw [List.length_reverse]; omega
    case w12 => exact fun q hq => hP3 q (List.mem_reverse.mp hq)
    case w13 => ktr_room
    case w14 => ktr_units
    intro t9 h9 tk9 F9 N9
    (try dsimp only)
    (try k_fold)
    k_steps
    rename_i kF kN Tc kX
    have hrr : r = x % y := by rw [hP1, remFold_val hy, dval_digs _ _ _ (Int.le_of_lt hx0) hxc]
    rw [hrr] at kN
    refine hret cI ocI vsI tI _ (dval (Builtin.Int.intBits y) qs.reverse) t9 tr _ _ (by k_asm) (kst_newsOf kN (by kst_inAny)) dI1 dI2 (List.forall_mem_cons.mpr ⟨by show @LT.lt Nat _ 55 cI; omega, List.forall_mem_cons.mpr ⟨by show @LT.lt Nat _ 62 cI; omega, List.forall_mem_cons.mpr ⟨by show @LT.lt Nat _ c2 cI; omega, fun p hp => Nat.lt_trans (kst_ltOf lt3c p hp) lt1⟩⟩⟩) ?_
    rename (@LT.lt Nat _ _ _ ∧ _) => lX
    obtain ⟨x1, x2, x3, x4, x5, xA⟩ := lX
    exact List.forall_mem_cons.mpr ⟨x4, List.forall_mem_cons.mpr ⟨x5, List.forall_mem_cons.mpr ⟨x3, List.forall_mem_cons.mpr ⟨x1, kst_ltOf xA⟩⟩⟩⟩

end
end Mine
/-! U_dmpB -/
namespace Mine
section
theorem dmp_old {c1 c2 : Addr} {oc1 oc2 : Obj} {w : World} {loose : List PySem.Str} {mean : ExcName → Option Value} {mg mb : PySem.Str → Option Value}
    {dp un : Nat} {gd : Option (List Code)} {cn : PySem.Str} {cs : Scope} {a : Addr} {ccd : Value} {cl : List (PySem.Str × Addr)} {outer : List Env} {A₀ : Around} {base h₀ : Heap} {L : Addr} {m : PySem.Str → Option Value} {s : Shared} {Q E : Value → Shared → Prop} {news : List (Addr × Obj)}
    (B : Below A₀ base outer h₀) (F : Fr h₀ L s.heap m) (X : (hd.heap_1 w.params).In h₀) (N : News h₀ L s.heap ((c1, oc1) :: (55, tabObj #[rawInt 74, rawInt 4, .ref c1]) :: (62, tabObj #[rawInt 89, rawInt 4, .ref c2]) :: (c2, oc2) :: news)) (T : Top topProg loose mean mg mb h₀) (hk : cs.kind = .function)
    (hc55 : @LT.lt Nat _ 55 c1) (hc162 : c1 ≠ (62 : Nat)) {vs1 : Array Value} {t1 : Tok} (hus1 : oc1.data = .fields vs1) (hqn1 : vs1[1]? = some (.str qI t1)) {x y : Int} {tx ty : Tok} (hne5 : ∀ p ∈ news, p.1 ≠ 55) (hne6 : ∀ p ∈ news, p.1 ≠ 62) (codeHd1 : CodeHd base 59 55) (codeHd2 : CodeHd base 66 62) (hc62 : @LT.lt Nat _ 62 c2) (hc255 : c2 ≠ (55 : Nat)) {vs2 : Array Value} {t2 : Tok} (hus2 : oc2.data = .fields vs2) (hqn2 : vs2[1]? = some (.str qD t2)) (hx0 : 0 < x) (hy : 0 < y) (hW : Builtin.Int.intBits y ≤ 100) (hc0 : 0 < ((Builtin.Int.intBits x : Int) + (Builtin.Int.intBits y : Int) - 1).fdiv (Builtin.Int.intBits y : Int)) (hc1 : ((Builtin.Int.intBits x : Int) + (Builtin.Int.intBits y : Int) - 1).fdiv (Builtin.Int.intBits y : Int) ≤ 64) (hxc : x < 2 ^ (Builtin.Int.intBits y * (((Builtin.Int.intBits x : Int) + (Builtin.Int.intBits y : Int) - 1).fdiv (Builtin.Int.intBits y : Int)).toNat))
    (hd1 : dp + 80 < recursionLimit) (hu : un + 800 < cLine)
    (hret : ∀ d q u1 u2 h1 tk1, Fr h₀ L h1 m → News h₀ L h1 ((d, { cls := .type "tuple", data := .seq #[.int q u1, .int (x % y) u2] }) :: (c1, oc1) :: (55, tabObj #[rawInt 74, rawInt 4, .ref c1]) :: (62, tabObj #[rawInt 89, rawInt 4, .ref c2]) :: (c2, oc2) :: news) → (∀ p ∈ (c1, oc1) :: (55, tabObj #[rawInt 74, rawInt 4, .ref c1]) :: (62, tabObj #[rawInt 89, rawInt 4, .ref c2]) :: (c2, oc2) :: news, p.1 < d) → Q (.ref d) { s with heap := h1, toks := tk1 }) :
    wpAny (model Challenge.rw_sn0051_01.row.prog w) (ktrTop dp un gd cn cs L a ccd cl outer) (call (.ref 74) [.int x tx, .int y ty]) Q E s := by
  revert X
  k_fill
  intro X
  refine wpAny_call ?_
  k_with_none
  k_with "k_ne" => (refine neN ?_; (try dsimp only); first | with_reducible assumption | (refine Nat.ne_of_lt ?_; first | with_reducible assumption | exact And.left (by with_reducible assumption) | exact And.left (And.right (by with_reducible assumption)) | exact And.right (by with_reducible assumption) | exact And.left (And.right (And.right (by with_reducible assumption))) | exact And.right (And.right (by with_reducible assumption)) | exact And.left (And.right (And.right (And.right (by with_reducible assumption)))) | exact And.right (And.right (And.right (by with_reducible assumption))) | exact And.left (And.right (And.right (And.right (And.right (by with_reducible assumption))))) | exact And.right (And.right (And.right (And.right (by with_reducible assumption)))) | exact And.left (And.right (And.right (And.right (And.right (And.right (by with_reducible assumption)))))) | exact And.right (And.right (And.right (And.right (And.right (by with_reducible assumption))))) | exact And.left (And.right (And.right (And.right (And.right (And.right (And.right (by with_reducible assumption))))))) | exact And.right (And.right (And.right (And.right (And.right (And.right (by with_reducible assumption)))))) | exact And.left (And.right (And.right (And.right (And.right (And.right (And.right (And.right (by with_reducible assumption)))))))) | exact And.right (And.right (And.right (And.right (And.right (And.right (And.right (by with_reducible assumption))))))) | exact And.left (And.right (And.right (And.right (And.right (And.right (And.right (And.right (And.right (by with_reducible assumption))))))))) | exact And.right (And.right (And.right (And.right (And.right (And.right (And.right (And.right (by with_reducible assumption)))))))) | exact And.left (And.right (And.right (And.right (And.right (And.right (And.right (And.right (And.right (And.right (by with_reducible assumption)))))))))) | exact And.right (And.right (And.right (And.right (And.right (And.right (And.right (And.right (And.right (by with_reducible assumption))))))))) | exact And.left (And.right (And.right (And.right (And.right (And.right (And.right (And.right (And.right (And.right (And.right (by with_reducible assumption))))))))))) | exact And.right (And.right (And.right (And.right (And.right (And.right (And.right (And.right (And.right (And.right (by with_reducible assumption)))))))))) | exact And.left (And.right (And.right (And.right (And.right (And.right (And.right (And.right (And.right (And.right (And.right (And.right (by with_reducible assumption)))))))))))) | exact And.right (And.right (And.right (And.right (And.right (And.right (And.right (And.right (And.right (And.right (And.right (by with_reducible assumption))))))))))) | exact And.left (And.right (And.right (And.right (And.right (And.right (And.right (And.right (And.right (And.right (And.right (And.right (And.right (by with_reducible assumption))))))))))))) | exact And.right (And.right (And.right (And.right (And.right (And.right (And.right (And.right (And.right (And.right (And.right (And.right (by with_reducible assumption)))))))))))) | exact And.left (And.right (And.right (And.right (And.right (And.right (And.right (And.right (And.right (And.right (And.right (And.right (And.right (And.right (by with_reducible assumption)))))))))))))) | exact And.right (And.right (And.right (And.right (And.right (And.right (And.right (And.right (And.right (And.right (And.right (And.right (And.right (by with_reducible assumption))))))))))))) | exact And.left (And.right (And.right (And.right (And.right (And.right (And.right (And.right (And.right (And.right (And.right (And.right (And.right (And.right (And.right (by with_reducible assumption))))))))))))))) | exact And.right (And.right (And.right (And.right (And.right (And.right (And.right (And.right (And.right (And.right (And.right (And.right (And.right (And.right (by with_reducible assumption))))))))))))))) | (refine Nat.ne_of_gt ?_; first | with_reducible assumption | exact And.left (by with_reducible assumption) | exact And.left (And.right (by with_reducible assumption)) | exact And.right (by with_reducible assumption) | exact And.left (And.right (And.right (by with_reducible assumption))) | exact And.right (And.right (by with_reducible assumption)) | exact And.left (And.right (And.right (And.right (by with_reducible assumption)))) | exact And.right (And.right (And.right (by with_reducible assumption))) | exact And.left (And.right (And.right (And.right (And.right (by with_reducible assumption))))) | exact And.right (And.right (And.right (And.right (by with_reducible assumption)))) | exact And.left (And.right (And.right (And.right (And.right (And.right (by with_reducible assumption)))))) | exact And.right (And.right (And.right (And.right (And.right (by with_reducible assumption))))) | exact And.left (And.right (And.right (And.right (And.right (And.right (And.right (by with_reducible assumption))))))) | exact And.right (And.right (And.right (And.right (And.right (And.right (by with_reducible assumption)))))) | exact And.left (And.right (And.right (And.right (And.right (And.right (And.right (And.right (by with_reducible assumption)))))))) | exact And.right (And.right (And.right (And.right (And.right (And.right (And.right (by with_reducible assumption))))))) | exact And.left (And.right (And.right (And.right (And.right (And.right (And.right (And.right (And.right (by with_reducible assumption))))))))) | exact And.right (And.right (And.right (And.right (And.right (And.right (And.right (And.right (by with_reducible assumption)))))))) | exact And.left (And.right (And.right (And.right (And.right (And.right (And.right (And.right (And.right (And.right (by with_reducible assumption)))))))))) | exact And.right (And.right (And.right (And.right (And.right (And.right (And.right (And.right (And.right (by with_reducible assumption))))))))) | exact And.left (And.right (And.right (And.right (And.right (And.right (And.right (And.right (And.right (And.right (And.right (by with_reducible assumption))))))))))) | exact And.right (And.right (And.right (And.right (And.right (And.right (And.right (And.right (And.right (And.right (by with_reducible assumption)))))))))) | exact And.left (And.right (And.right (And.right (And.right (And.right (And.right (And.right (And.right (And.right (And.right (And.right (by with_reducible assumption)))))))))))) | exact And.right (And.right (And.right (And.right (And.right (And.right (And.right (And.right (And.right (And.right (And.right (by with_reducible assumption))))))))))) | exact And.left (And.right (And.right (And.right (And.right (And.right (And.right (And.right (And.right (And.right (And.right (And.right (And.right (by with_reducible assumption))))))))))))) | exact And.right (And.right (And.right (And.right (And.right (And.right (And.right (And.right (And.right (And.right (And.right (And.right (by with_reducible assumption)))))))))))) | exact And.left (And.right (And.right (And.right (And.right (And.right (And.right (And.right (And.right (And.right (And.right (And.right (And.right (And.right (by with_reducible assumption)))))))))))))) | exact And.right (And.right (And.right (And.right (And.right (And.right (And.right (And.right (And.right (And.right (And.right (And.right (And.right (by with_reducible assumption))))))))))))) | exact And.left (And.right (And.right (And.right (And.right (And.right (And.right (And.right (And.right (And.right (And.right (And.right (And.right (And.right (And.right (by with_reducible assumption))))))))))))))) | exact And.right (And.right (And.right (And.right (And.right (And.right (And.right (And.right (And.right (And.right (And.right (And.right (And.right (And.right (by with_reducible assumption))))))))))))))) | (first | with_reducible assumption | exact And.left (by with_reducible assumption) | exact And.left (And.right (by with_reducible assumption)) | exact And.right (by with_reducible assumption) | exact And.left (And.right (And.right (by with_reducible assumption))) | exact And.right (And.right (by with_reducible assumption)) | exact And.left (And.right (And.right (And.right (by with_reducible assumption)))) | exact And.right (And.right (And.right (by with_reducible assumption))) | exact And.left (And.right (And.right (And.right (And.right (by with_reducible assumption))))) | exact And.right (And.right (And.right (And.right (by with_reducible assumption)))) | exact And.left (And.right (And.right (And.right (And.right (And.right (by with_reducible assumption)))))) | exact And.right (And.right (And.right (And.right (And.right (by with_reducible assumption))))) | exact And.left (And.right (And.right (And.right (And.right (And.right (And.right (by with_reducible assumption))))))) | exact And.right (And.right (And.right (And.right (And.right (And.right (by with_reducible assumption)))))) | exact And.left (And.right (And.right (And.right (And.right (And.right (And.right (And.right (by with_reducible assumption)))))))) | exact And.right (And.right (And.right (And.right (And.right (And.right (And.right (by with_reducible assumption))))))) | exact And.left (And.right (And.right (And.right (And.right (And.right (And.right (And.right (And.right (by with_reducible assumption))))))))) | exact And.right (And.right (And.right (And.right (And.right (And.right (And.right (And.right (by with_reducible assumption)))))))) | exact And.left (And.right (And.right (And.right (And.right (And.right (And.right (And.right (And.right (And.right (by with_reducible assumption)))))))))) | exact And.right (And.right (And.right (And.right (And.right (And.right (And.right (And.right (And.right (by with_reducible assumption))))))))) | exact And.left (And.right (And.right (And.right (And.right (And.right (And.right (And.right (And.right (And.right (And.right (by with_reducible assumption))))))))))) | exact And.right (And.right (And.right (And.right (And.right (And.right (And.right (And.right (And.right (And.right (by with_reducible assumption)))))))))) | exact And.left (And.right (And.right (And.right (And.right (And.right (And.right (And.right (And.right (And.right (And.right (And.right (by with_reducible assumption)))))))))))) | exact And.right (And.right (And.right (And.right (And.right (And.right (And.right (And.right (And.right (And.right (And.right (by with_reducible assumption))))))))))) | exact And.left (And.right (And.right (And.right (And.right (And.right (And.right (And.right (And.right (And.right (And.right (And.right (And.right (by with_reducible assumption))))))))))))) | exact And.right (And.right (And.right (And.right (And.right (And.right (And.right (And.right (And.right (And.right (And.right (And.right (by with_reducible assumption)))))))))))) | exact And.left (And.right (And.right (And.right (And.right (And.right (And.right (And.right (And.right (And.right (And.right (And.right (And.right (And.right (by with_reducible assumption)))))))))))))) | exact And.right (And.right (And.right (And.right (And.right (And.right (And.right (And.right (And.right (And.right (And.right (And.right (And.right (by with_reducible assumption))))))))))))) | exact And.left (And.right (And.right (And.right (And.right (And.right (And.right (And.right (And.right (And.right (And.right (And.right (And.right (And.right (And.right (by with_reducible assumption))))))))))))))) | exact And.right (And.right (And.right (And.right (And.right (And.right (And.right (And.right (And.right (And.right (And.right (And.right (And.right (And.right (by with_reducible assumption))))))))))))))) | (refine Ne.symm ?_; first | with_reducible assumption | exact And.left (by with_reducible assumption) | exact And.left (And.right (by with_reducible assumption)) | exact And.right (by with_reducible assumption) | exact And.left (And.right (And.right (by with_reducible assumption))) | exact And.right (And.right (by with_reducible assumption)) | exact And.left (And.right (And.right (And.right (by with_reducible assumption)))) | exact And.right (And.right (And.right (by with_reducible assumption))) | exact And.left (And.right (And.right (And.right (And.right (by with_reducible assumption))))) | exact And.right (And.right (And.right (And.right (by with_reducible assumption)))) | exact And.left (And.right (And.right (And.right (And.right (And.right (by with_reducible assumption)))))) | exact And.right (And.right (And.right (And.right (And.right (by with_reducible assumption))))) | exact And.left (And.right (And.right (And.right (And.right (And.right (And.right (by with_reducible assumption))))))) | exact And.right (And.right (And.right (And.right (And.right (And.right (by with_reducible assumption)))))) | exact And.left (And.right (And.right (And.right (And.right (And.right (And.right (And.right (by with_reducible assumption)))))))) | exact And.right (And.right (And.right (And.right (And.right (And.right (And.right (by with_reducible assumption))))))) | exact And.left (And.right (And.right (And.right (And.right (And.right (And.right (And.right (And.right (by with_reducible assumption))))))))) | exact And.right (And.right (And.right (And.right (And.right (And.right (And.right (And.right (by with_reducible assumption)))))))) | exact And.left (And.right (And.right (And.right (And.right (And.right (And.right (And.right (And.right (And.right (by with_reducible assumption)))))))))) | exact And.right (And.right (And.right (And.right (And.right (And.right (And.right (And.right (And.right (by with_reducible assumption))))))))) | exact And.left (And.right (And.right (And.right (And.right (And.right (And.right (And.right (And.right (And.right (And.right (by with_reducible assumption))))))))))) | exact And.right (And.right (And.right (And.right (And.right (And.right (And.right (And.right (And.right (And.right (by with_reducible assumption)))))))))) | exact And.left (And.right (And.right (And.right (And.right (And.right (And.right (And.right (And.right (And.right (And.right (And.right (by with_reducible assumption)))))))))))) | exact And.right (And.right (And.right (And.right (And.right (And.right (And.right (And.right (And.right (And.right (And.right (by with_reducible assumption))))))))))) | exact And.left (And.right (And.right (And.right (And.right (And.right (And.right (And.right (And.right (And.right (And.right (And.right (And.right (by with_reducible assumption))))))))))))) | exact And.right (And.right (And.right (And.right (And.right (And.right (And.right (And.right (And.right (And.right (And.right (And.right (by with_reducible assumption)))))))))))) | exact And.left (And.right (And.right (And.right (And.right (And.right (And.right (And.right (And.right (And.right (And.right (And.right (And.right (And.right (by with_reducible assumption)))))))))))))) | exact And.right (And.right (And.right (And.right (And.right (And.right (And.right (And.right (And.right (And.right (And.right (And.right (And.right (by with_reducible assumption))))))))))))) | exact And.left (And.right (And.right (And.right (And.right (And.right (And.right (And.right (And.right (And.right (And.right (And.right (And.right (And.right (And.right (by with_reducible assumption))))))))))))))) | exact And.right (And.right (And.right (And.right (And.right (And.right (And.right (And.right (And.right (And.right (And.right (And.right (And.right (And.right (by with_reducible assumption))))))))))))))) | omega)
  k_with "k_all" => first | assumption | (refine allNe_lt (by assumption) ?_; omega)
  k_with "binaryOp LShift int int" => k_extra "shl"
  k_with "binaryOp RShift int int" => k_extra "shr"
  k_with "binaryOp Mult int int" => k_extra "mul"
  k_with "call ref" => fail
  k_with "pyIter ref" => fail
  first
  | (k_dflt cell_enter)
  | (k_dflt (refine' code_defC ?k1 ?k2 ?k3 ?k4 ?k5 ?kA ?kF ?kK ?k6 ?k7 ?k8 ?k9 ?kB ?kD ?_ ?c2 ?c3 ?c4; (case kA => exact rfl); (case kF => exact rfl); (case kK => assumption); (case k1 => k_asm); (case k2 => k_asm); (case k3 => k_asm); (case k4 => k_asm); (case k5 => k_asm); (case k6 => k_is); (case k7 => k_is); (case k8 => ktr_room); (case k9 => first | exact BindsTo.of_eq rfl | exact binds_K (by k_in) rfl (by k_is) rfl rfl rfl); (case kB => exact rfl); (case kD => decide); (case c2 => exact rfl); (case c3 => exact rfl); (case c4 => exact rfl); k_whole; intro g' L' h' tk' cells' FG' F' N' Y' B' X' T' l'; (try dsimp only); (try k_cells Y'); (try simp only [List.nil_append, List.cons_append] at N'); (try k_lt l'); (try obtain ⟨l1c, l1b, l1d, l1e, lAll⟩ := l'); (try k_lift B'); (try k_fold)))
  | (k_dflt (refine' code_def ?k1 ?k2 ?k3 ?k4 ?k5 ?kA ?kF ?kK ?k6 ?k7 ?k8 ?k9 ?kB ?_ ?c2 ?c3 ?c4 ?c5; (case kA => exact rfl); (case kF => exact rfl); (case kK => assumption); (case k1 => k_asm); (case k2 => k_asm); (case k3 => k_asm); (case k4 => k_asm); (case k5 => k_asm); (case k6 => k_is); (case k7 => k_is); (case k8 => ktr_room); (case k9 => first | exact BindsTo.of_eq rfl | exact binds_K (by k_in) rfl (by k_is) rfl rfl rfl); (case c5 => decide); (case kB => exact locs rfl); (case c2 => exact rfl); (case c3 => exact rfl); (case c4 => exact rfl); k_whole; intro g' L' h' FG' F' N' B' X' T'; (try dsimp only); (try k_lift B'); (try k_fold)))
  k_steps
  refine' i2d_old ?q1 ?q2 ?q3 ?q4 ?q5 ?q6 hc55 hus1 hqn1 ?q7 ?q8 hW ?q9 hx0 hc0 hc1 hxc ?q10 ?q11 ?q12
  case q1 => k_dflt k_asm
  case q2 => k_dflt k_asm
  case q3 => k_dflt k_asm
  case q4 => k_dflt k_asm
  case q5 => k_dflt k_asm
  case q6 => exact rfl
  case q7 => k_all
  case q8 => assumption
  case q9 => exact bits_pos hy
  case q10 => ktr_room
  case q11 => ktr_units
  intro dI usI kI h1 tk1 I1 F1 N1 lt1 lt2 lt3
  (try dsimp only)
  (try k_fold)
  k_steps
  rename_i lQ hA lq1 hB D hC FD ND lD
  obtain ⟨lt3a, lt3b, lt3c⟩ := lt3
  obtain ⟨lq1, lq2, lq3, lq4, lq5, lqA⟩ := lq1
  obtain ⟨lD1, lD2, lD3, lD4, lD5, lD6, lD7⟩ := lD
  refine' kst_rev (σ := List Value × List Int × Nat × Int × Nat) (I := D) (l := dI) (fun c => (lQ, W.listOf c.1.toArray c.2.2.1) :: (c1, oc1) :: (55, tabObj #[rawInt 74, rawInt 4, Value.ref c1]) :: (62, tabObj #[rawInt 89, rawInt 4, .ref c2]) :: (c2, oc2) :: news) (fun c => [(Str.ofString "r", Value.int c.2.2.2.1 c.2.2.2.2)]) (fun c => IntsAre c.1 c.2.1) [Str.ofString "q_digit"]
    (fun pre c => c.2.2.2.1 = remFold (Builtin.Int.intBits y) y pre ∧ c.2.1.length = pre.length ∧ (∀ q ∈ c.2.1, 0 ≤ q ∧ q < 2 ^ Builtin.Int.intBits y)) ([], [], 0, 0, ?t0) rfl ⟨_, (ND _ (.head _)).1, rfl, rfl⟩ (News.isList ND (.tail _ (.tail _ (.head _)))) I1 (by k_ne) (ND _ (.head _)).2.2 (ND _ (.head _)).2.1.symm (ND _ (.tail _ (.tail _ (.head _)))).2.1.symm ?led FD ?nn .nil ?kk ?pp ?turn ?done
  case kk => kst_all
  case pp => exact ⟨rfl, rfl, fun q hq => nomatch hq⟩
  case nn => exact kst_newsOf ND (by kst_inAny)
  case led =>
    refine List.forall_mem_cons.mpr ⟨⟨by k_ne, by k_ne⟩, List.forall_mem_cons.mpr ⟨⟨by k_ne, by k_ne⟩, List.forall_mem_cons.mpr ⟨⟨by k_ne, by k_ne⟩, List.forall_mem_cons.mpr ⟨⟨by k_ne, by k_ne⟩, List.forall_mem_cons.mpr ⟨⟨by k_ne, by k_ne⟩, fun p hp => ⟨allNe_lt lD7 (Nat.le_refl _) p hp, allNe_lt lt3c (Nat.le_refl _) p hp⟩⟩⟩⟩⟩⟩
  case turn =>
   as_aux_lemma =>
    intro c pre post d td u h tk own hE hM hOff hFc hP F2 N2
    obtain ⟨us, qs, k, r, tr⟩ := c
    have kMark := kstMark
    (try dsimp only [kstB] at F2)
    (try dsimp only at N2 hFc hP)
    (try simp only [List.nil_append, List.cons_append, List.append_nil] at N2)
    (try simp only [List.map_cons, List.map_nil] at hOff)
    obtain ⟨hP1, hP2, hP3⟩ := hP
    have hdb : 0 ≤ d ∧ d < 2 ^ Builtin.Int.intBits y := digs_bound _ _ _ d hM
    have hrb : 0 ≤ r ∧ r < y := hP1 ▸ remFold_bound hy pre
    have hbr : Builtin.Int.intBits r ≤ 100 := Nat.le_trans (intBits_le_of_natAbs (by omega) (Nat.le_refl _)) hW
    have hqr := qr_bounds hrb hdb
    have hnp : Builtin.divisionGoesByPylong (r * 2 ^ ((Builtin.Int.intBits y : Nat) : Int).toNat + d) y = false := np_of_bits hW
    have hsm := rd_bits hrb hdb hW
    have hL := congrArg List.length hE
    simp only [List.length_reverse, digs_length, List.length_append, List.length_cons] at hL
    have hus := IntsAre.length hFc
    have lqB := lqA
    k_with "shl" => (refine lshift_int (by omega) (by omega) ?_)
    k_with "call ref" => ((refine' div2_ok ?c1 ?c2 ?c3 ?c4 ?c5 ?c6 ?c7 ?c8 ?c9 ?cd ?cu ?_); (case c1 => k_dflt k_asm); (case c2 => k_dflt k_asm); (case c3 => k_dflt k_asm); (case c4 => k_dflt k_asm); (case c5 => k_dflt k_asm); (case c6 => exact rfl); (case c7 => omega); (case c8 => exact hnp); (case c9 => exact hsm); (case cd => ktr_room); (case cu => ktr_units); intro d9 t9 u9 h9 tk9 F9 N9 A9; (try simp only [AllLt] at A9); (try dsimp only); (try k_fold))
    k_with "state" => exact dm_state hy hP1 hP2 hP3 hqr
    k_steps
  case done =>
   as_aux_lemma =>
    intro c u h tk hFc hP F2 N2
    obtain ⟨us, qs, k, r, tr⟩ := c
    have kMark := kstMark
    (try dsimp only [kstB] at F2)
    (try dsimp only at N2 hFc hP)
    (try simp only [List.nil_append, List.cons_append, List.append_nil] at N2)
    obtain ⟨hP1, hP2, hP3⟩ := hP
    simp only [List.length_reverse, digs_length] at hP2
    have hus := IntsAre.length hFc
    have lqB := lqA
    have hrev := IntsAre.reverse hFc
    k_with_none
    k_with "k_ne" => (refine neN ?_; (try dsimp only); first | with_reducible assumption | (refine Nat.ne_of_lt ?_; first | with_reducible assumption | exact And.left (by with_reducible assumption) | exact And.left (And.right (by with_reducible assumption)) | exact And.right (by with_reducible assumption) | exact And.left (And.right (And.right (by with_reducible assumption))) | exact And.right (And.right (by with_reducible assumption)) | exact And.left (And.right (And.right (And.right (by with_reducible assumption)))) | exact And.right (And.right (And.right (by with_reducible assumption))) | exact And.left (And.right (And.right (And.right (And.right (by with_reducible assumption))))) | exact And.right (And.right (And.right (And.right (by with_reducible assumption)))) | exact And.left (And.right (And.right (And.right (And.right (And.right (by with_reducible assumption)))))) | exact And.right (And.right (And.right (And.right (And.right (by with_reducible assumption))))) | exact And.left (And.right (And.right (And.right (And.right (And.right (And.right (by with_reducible assumption))))))) | exact And.right (And.right (And.right (And.right (And.right (And.right (by with_reducible assumption)))))) | exact And.left (And.right (And.right (And.right (And.right (And.right (And.right (And.right (by with_reducible assumption)))))))) | exact And.right (And.right (And.right (And.right (And.right (And.right (And.right (by with_reducible assumption))))))) | exact And.left (And.right (And.right (And.right (And.right (And.right (And.right (And.right (And.right (by with_reducible assumption))))))))) | exact And.right (And.right (And.right (And.right (And.right (And.right (And.right (And.right (by with_reducible assumption)))))))) | exact And.left (And.right (And.right (And.right (And.right (And.right (And.right (And.right (And.right (And.right (by with_reducible assumption)))))))))) | exact And.right (And.right (And.right (And.right (And.right (And.right (And.right (And.right (And.right (by with_reducible assumption))))))))) | exact And.left (And.right (And.right (And.right (And.right (And.right (And.right (And.right (And.right (And.right (And.right (by with_reducible assumption))))))))))) | exact And.right (And.right (And.right (And.right (And.right (And.right (And.right (And.right (And.right (And.right (by with_reducible assumption)))))))))) | exact And.left (And.right (And.right (And.right (And.right (And.right (And.right (And.right (And.right (And.right (And.right (And.right (by with_reducible assumption)))))))))))) | exact And.right (And.right (And.right (And.right (And.right (And.right (And.right (And.right (And.right (And.right (And.right (by with_reducible assumption))))))))))) | exact And.left (And.right (And.right (And.right (And.right (And.right (And.right (And.right (And.right (And.right (And.right (And.right (And.right (by with_reducible assumption))))))))))))) | exact And.right (And.right (And.right (And.right (And.right (And.right (And.right (And.right (And.right (And.right (And.right (And.right (by with_reducible assumption)))))))))))) | exact And.left (And.right (And.right (And.right (And.right (And.right (And.right (And.right (And.right (And.right (And.right (And.right (And.right (And.right (by with_reducible assumption)))))))))))))) | exact And.right (And.right (And.right (And.right (And.right (And.right (And.right (And.right (And.right (And.right (And.right (And.right (And.right (by with_reducible assumption))))))))))))) | exact And.left (And.right (And.right (And.right (And.right (And.right (And.right (And.right (And.right (And.right (And.right (And.right (And.right (And.right (And.right (by with_reducible assumption))))))))))))))) | exact And.right (And.right (And.right (And.right (And.right (And.right (And.right (And.right (And.right (And.right (And.right (And.right (And.right (And.right (by with_reducible assumption))))))))))))))) | (refine Nat.ne_of_gt ?_; first | with_reducible assumption | exact And.left (by with_reducible assumption) | exact And.left (And.right (by with_reducible assumption)) | exact And.right (by with_reducible assumption) | exact And.left (And.right (And.right (by with_reducible assumption))) | exact And.right (And.right (by with_reducible assumption)) | exact And.left (And.right (And.right (And.right (by with_reducible assumption)))) | exact And.right (And.right (And.right (by with_reducible assumption))) | exact And.left (And.right (And.right (And.right (And.right (by with_reducible assumption))))) | exact And.right (And.right (And.right (And.right (by with_reducible assumption)))) | exact And.left (And.right (And.right (And.right (And.right (And.right (by with_reducible assumption)))))) | exact And.right (And.right (And.right (And.right (And.right (by with_reducible assumption))))) | exact And.left (And.right (And.right (And.right (And.right (And.right (And.right (by with_reducible assumption))))))) | exact And.right (And.right (And.right (And.right (And.right (And.right (by with_reducible assumption)))))) | exact And.left (And.right (And.right (And.right (And.right (And.right (And.right (And.right (by with_reducible assumption)))))))) | exact And.right (And.right (And.right (And.right (And.right (And.right (And.right (by with_reducible assumption))))))) | exact And.left (And.right (And.right (And.right (And.right (And.right (And.right (And.right (And.right (by with_reducible assumption))))))))) | exact And.right (And.right (And.right (And.right (And.right (And.right (And.right (And.right (by with_reducible assumption)))))))) | exact And.left (And.right (And.right (And.right (And.right (And.right (And.right (And.right (And.right (And.right (by with_reducible assumption)))))))))) | exact And.right (And.right (And.right (And.right (And.right (And.right (And.right (And.right (And.right (by with_reducible assumption))))))))) | exact And.left (And.right (And.right (And.right (And.right (And.right (And.right (And.right (And.right (And.right (And.right (by with_reducible assumption))))))))))) | exact And.right (And.right (And.right (And.right (And.right (And.right (And.right (And.right (And.right (And.right (by with_reducible assumption)))))))))) | exact And.left (And.right (And.right (And.right (And.right (And.right (And.right (And.right (And.right (And.right (And.right (And.right (by with_reducible assumption)))))))))))) | exact And.right (And.right (And.right (And.right (And.right (And.right (And.right (And.right (And.right (And.right (And.right (by with_reducible assumption))))))))))) | exact And.left (And.right (And.right (And.right (And.right (And.right (And.right (And.right (And.right (And.right (And.right (And.right (And.right (by with_reducible assumption))))))))))))) | exact And.right (And.right (And.right (And.right (And.right (And.right (And.right (And.right (And.right (And.right (And.right (And.right (by with_reducible assumption)))))))))))) | exact And.left (And.right (And.right (And.right (And.right (And.right (And.right (And.right (And.right (And.right (And.right (And.right (And.right (And.right (by with_reducible assumption)))))))))))))) | exact And.right (And.right (And.right (And.right (And.right (And.right (And.right (And.right (And.right (And.right (And.right (And.right (And.right (by with_reducible assumption))))))))))))) | exact And.left (And.right (And.right (And.right (And.right (And.right (And.right (And.right (And.right (And.right (And.right (And.right (And.right (And.right (And.right (by with_reducible assumption))))))))))))))) | exact And.right (And.right (And.right (And.right (And.right (And.right (And.right (And.right (And.right (And.right (And.right (And.right (And.right (And.right (by with_reducible assumption))))))))))))))) | (first | with_reducible assumption | exact And.left (by with_reducible assumption) | exact And.left (And.right (by with_reducible assumption)) | exact And.right (by with_reducible assumption) | exact And.left (And.right (And.right (by with_reducible assumption))) | exact And.right (And.right (by with_reducible assumption)) | exact And.left (And.right (And.right (And.right (by with_reducible assumption)))) | exact And.right (And.right (And.right (by with_reducible assumption))) | exact And.left (And.right (And.right (And.right (And.right (by with_reducible assumption))))) | exact And.right (And.right (And.right (And.right (by with_reducible assumption)))) | exact And.left (And.right (And.right (And.right (And.right (And.right (by with_reducible assumption)))))) | exact And.right (And.right (And.right (And.right (And.right (by with_reducible assumption))))) | exact And.left (And.right (And.right (And.right (And.right (And.right (And.right (by with_reducible assumption))))))) | exact And.right (And.right (And.right (And.right (And.right (And.right (by with_reducible assumption)))))) | exact And.left (And.right (And.right (And.right (And.right (And.right (And.right (And.right (by with_reducible assumption)))))))) | exact And.right (And.right (And.right (And.right (And.right (And.right (And.right (by with_reducible assumption))))))) | exact And.left (And.right (And.right (And.right (And.right (And.right (And.right (And.right (And.right (by with_reducible assumption))))))))) | exact And.right (And.right (And.right (And.right (And.right (And.right (And.right (And.right (by with_reducible assumption)))))))) | exact And.left (And.right (And.right (And.right (And.right (And.right (And.right (And.right (And.right (And.right (by with_reducible assumption)))))))))) | exact And.right (And.right (And.right (And.right (And.right (And.right (And.right (And.right (And.right (by with_reducible assumption))))))))) | exact And.left (And.right (And.right (And.right (And.right (And.right (And.right (And.right (And.right (And.right (And.right (by with_reducible assumption))))))))))) | exact And.right (And.right (And.right (And.right (And.right (And.right (And.right (And.right (And.right (And.right (by with_reducible assumption)))))))))) | exact And.left (And.right (And.right (And.right (And.right (And.right (And.right (And.right (And.right (And.right (And.right (And.right (by with_reducible assumption)))))))))))) | exact And.right (And.right (And.right (And.right (And.right (And.right (And.right (And.right (And.right (And.right (And.right (by with_reducible assumption))))))))))) | exact And.left (And.right (And.right (And.right (And.right (And.right (And.right (And.right (And.right (And.right (And.right (And.right (And.right (by with_reducible assumption))))))))))))) | exact And.right (And.right (And.right (And.right (And.right (And.right (And.right (And.right (And.right (And.right (And.right (And.right (by with_reducible assumption)))))))))))) | exact And.left (And.right (And.right (And.right (And.right (And.right (And.right (And.right (And.right (And.right (And.right (And.right (And.right (And.right (by with_reducible assumption)))))))))))))) | exact And.right (And.right (And.right (And.right (And.right (And.right (And.right (And.right (And.right (And.right (And.right (And.right (And.right (by with_reducible assumption))))))))))))) | exact And.left (And.right (And.right (And.right (And.right (And.right (And.right (And.right (And.right (And.right (And.right (And.right (And.right (And.right (And.right (by with_reducible assumption))))))))))))))) | exact And.right (And.right (And.right (And.right (And.right (And.right (And.right (And.right (And.right (And.right (And.right (And.right (And.right (And.right (by with_reducible assumption))))))))))))))) | (refine Ne.symm ?_; first | with_reducible assumption | exact And.left (by with_reducible assumption) | exact And.left (And.right (by with_reducible assumption)) | exact And.right (by with_reducible assumption) | exact And.left (And.right (And.right (by with_reducible assumption))) | exact And.right (And.right (by with_reducible assumption)) | exact And.left (And.right (And.right (And.right (by with_reducible assumption)))) | exact And.right (And.right (And.right (by with_reducible assumption))) | exact And.left (And.right (And.right (And.right (And.right (by with_reducible assumption))))) | exact And.right (And.right (And.right (And.right (by with_reducible assumption)))) | exact And.left (And.right (And.right (And.right (And.right (And.right (by with_reducible assumption)))))) | exact And.right (And.right (And.right (And.right (And.right (by with_reducible assumption))))) | exact And.left (And.right (And.right (And.right (And.right (And.right (And.right (by with_reducible assumption))))))) | exact And.right (And.right (And.right (And.right (And.right (And.right (by with_reducible assumption)))))) | exact And.left (And.right (And.right (And.right (And.right (And.right (And.right (And.right (by with_reducible assumption)))))))) | exact And.right (And.right (And.right (And.right (And.right (And.right (And.right (by with_reducible assumption))))))) | exact And.left (And.right (And.right (And.right (And.right (And.right (And.right (And.right (And.right (by with_reducible assumption))))))))) | exact And.right (And.right (And.right (And.right (And.right (And.right (And.right (And.right (by with_reducible assumption)))))))) | exact And.left (And.right (And.right (And.right (And.right (And.right (And.right (And.right (And.right (And.right (by with_reducible assumption)))))))))) | exact And.right (And.right (And.right (And.right (And.right (And.right (And.right (And.right (And.right (by with_reducible assumption))))))))) | exact And.left (And.right (And.right (And.right (And.right (And.right (And.right (And.right (And.right (And.right (And.right (by with_reducible assumption))))))))))) | exact And.right (And.right (And.right (And.right (And.right (And.right (And.right (And.right (And.right (And.right (by with_reducible assumption)))))))))) | exact And.left (And.right (And.right (And.right (And.right (And.right (And.right (And.right (And.right (And.right (And.right (And.right (by with_reducible assumption)))))))))))) | exact And.right (And.right (And.right (And.right (And.right (And.right (And.right (And.right (And.right (And.right (And.right (by with_reducible assumption))))))))))) | exact And.left (And.right (And.right (And.right (And.right (And.right (And.right (And.right (And.right (And.right (And.right (And.right (And.right (by with_reducible assumption))))))))))))) | exact And.right (And.right (And.right (And.right (And.right (And.right (And.right (And.right (And.right (And.right (And.right (And.right (by with_reducible assumption)))))))))))) | exact And.left (And.right (And.right (And.right (And.right (And.right (And.right (And.right (And.right (And.right (And.right (And.right (And.right (And.right (by with_reducible assumption)))))))))))))) | exact And.right (And.right (And.right (And.right (And.right (And.right (And.right (And.right (And.right (And.right (And.right (And.right (And.right (by with_reducible assumption))))))))))))) | exact And.left (And.right (And.right (And.right (And.right (And.right (And.right (And.right (And.right (And.right (And.right (And.right (And.right (And.right (And.right (by with_reducible assumption))))))))))))))) | exact And.right (And.right (And.right (And.right (And.right (And.right (And.right (And.right (And.right (And.right (And.right (And.right (And.right (And.right (by with_reducible assumption))))))))))))))) | omega)
    k_with "k_all" => first | assumption | (refine allNe_lt (by assumption) ?_; omega)
    k_with "binaryOp LShift int int" => k_extra "shl"
    k_with "binaryOp RShift int int" => k_extra "shr"
    k_with "binaryOp Mult int int" => k_extra "mul"
    k_with "call ref" => fail
    k_with "call builtin:list.reverse" => ((refine' kl_reverse (l := us.reverse) ?F ?N ?e ?U ?z ?_); (case F => k_dflt k_asm); (case N => k_dflt k_asm); (case U => k_dflt k_upd); (case e => rfl); (case z => (rw [PySem.sizeLine_eq]; show us.length ≤ _; omega)); intro h9 F9 N9)
    k_steps
    rename (News _ _ _ ((lQ, _) :: _)) => NQ
    refine' d2i_old (ns := qs.reverse) (vs := us.reverse) (Wd := Builtin.Int.intBits y) (news := ((c1, oc1) :: (55, tabObj #[rawInt 74, rawInt 4, Value.ref c1]) :: news)) ?w1 ?w2 ?w3 ?w4 ?w5 ?w6 hc62 hus2 hqn2 hrev ?w7 ?w8 ?w9 ?w10 ?w11 hW ?w12 ?w13 ?w14 ?w15
    case w1 => k_dflt k_asm
    case w2 => k_dflt k_asm
    case w3 => k_dflt k_asm
    case w4 => exact kst_newsOf NQ (by kst_inAny)
    case w5 => k_dflt k_asm
    case w6 => exact rfl
    case w7 => exact kst_newsOf NQ (by kst_inAny)
    case w8 => k_all
    case w9 => (show @LT.lt Nat _ 62 lQ); omega
    case w10 => assumption
    case w11 => rw [List.length_reverse]; omega
    case w12 => exact fun q hq => hP3 q (List.mem_reverse.mp hq)
    case w13 => ktr_room
    case w14 => ktr_units
    intro t9 h9 tk9 F9 N9
    (try dsimp only)
    (try k_fold)
    k_steps
    rename_i kF kN Tc kX
    have hrr : r = x % y := by rw [hP1, remFold_val hy, dval_digs _ _ _ (Int.le_of_lt hx0) hxc]
    rw [hrr] at kN
    refine hret _ (dval (Builtin.Int.intBits y) qs.reverse) t9 tr _ _ (by k_asm) (kst_newsOf kN (by kst_inAny)) ?_
    rename (@LT.lt Nat _ _ _ ∧ _) => lX
    obtain ⟨x1, x2, x3, x4, x5, xA⟩ := lX
    exact List.forall_mem_cons.mpr ⟨x4, List.forall_mem_cons.mpr ⟨x5, List.forall_mem_cons.mpr ⟨x3, List.forall_mem_cons.mpr ⟨x1, kst_ltOf xA⟩⟩⟩⟩

end
end Mine
/-! P17 -/
namespace Mine
section
section
open PySem.Flt PySem.Builtin PySem.Calls
/-- the greatest, the least of three floats -/
noncomputable def mx3 (x y z : UInt64) : UInt64 := if (Float64.cmp x y == some .lt) = true then (if (Float64.cmp y z == some .lt) = true then z else y) else (if (Float64.cmp x z == some .lt) = true then z else x)
noncomputable def mn3 (x y z : UInt64) : UInt64 := if (Float64.cmp y x == some .lt) = true then (if (Float64.cmp z y == some .lt) = true then z else y) else (if (Float64.cmp z x == some .lt) = true then z else x)
theorem max3_num {prog : Program} {w : World} {A : Around} {E : Value → Shared → Prop} {s : Shared} {Q : Value → Shared → Prop} {a b c : Value} (hh : A.handled = none) (ha : NumV a) (hb : NumV b) (hc : NumV c)
    (h : ∀ h' tk, (∀ d o, s.heap.get? d = some o → h'.get? d = some o) → Q (if ltV a b then (if ltV b c then c else b) else (if ltV a c then c else a)) { s with heap := h', toks := tk }) :
    wpAny (model prog w) A (call (.builtin "max") [a, b, c]) Q E s := by
  have hT : (s.heap.push { cls := .type "tuple", data := .seq #[a, b, c] }).IsTuple s.heap.objs.size #[a, b, c] := ⟨_, Heap.get?_push_size _ rfl, rfl, 0, rfl⟩
  refine call_max_three (wpAny_pyIter_tuple hT ?_)
  have hsz : (s.heap.push { cls := .type "tuple", data := .seq #[a, b, c] }).objs.size = s.heap.objs.size + 1 := Heap.size_push ..
  refine ⟨_, [_, s.heap.objs.size], [_], _, _, _, _, rfl, Walks.tuple (A := A.in1) hh _ s.heap.objs.size (by rw [hsz]; exact Nat.ne_of_lt (Nat.lt_succ_self _)) #[a, b, c],
    ⟨⟨_, Heap.get?_push_size _ rfl, rfl, rfl⟩, hT.push _⟩, fun d hd => ?_, by simp, cmpOf_gt #[a, b, c] (by simp [ha, hb, hc]), fun v h' tk hP hk => ?_⟩
  · show d < ((s.heap.push _).push _).objs.size
    rw [Heap.size_push, hsz]
    rcases List.mem_cons.mp hd with rfl | hd
    · rw [hsz]; exact Nat.lt_succ_self _
    · rcases List.mem_cons.mp hd with rfl | hd
      · exact Nat.lt_succ_of_lt (Nat.lt_succ_self _)
      · cases hd
  · have hold : ∀ d o, s.heap.get? d = some o → h'.get? d = some o := fun d o e => by
      refine hk d o (fun hm => ?_) (Heap.get?_push_of_some _ (Heap.get?_push_of_some _ e))
      rcases List.mem_cons.mp hm with e1 | hm
      · have := Heap.lt_size e; rw [e1, hsz] at this; exact Nat.lt_irrefl _ (Nat.lt_of_succ_lt this)
      · cases hm
    have := h h' tk hold
    have hv : v = if ltV a b then (if ltV b c then c else b) else (if ltV a c then c else a) := by
      cases h1 : ltV a b <;> cases h2 : ltV b c <;> cases h3 : ltV a c <;> simp [argBest, h1, h2, h3] at hP <;> simp [hP]
    rw [hv]; exact this
theorem min3_num {prog : Program} {w : World} {A : Around} {E : Value → Shared → Prop} {s : Shared} {Q : Value → Shared → Prop} {a b c : Value} (hh : A.handled = none) (ha : NumV a) (hb : NumV b) (hc : NumV c)
    (h : ∀ h' tk, (∀ d o, s.heap.get? d = some o → h'.get? d = some o) → Q (if ltV b a then (if ltV c b then c else b) else (if ltV c a then c else a)) { s with heap := h', toks := tk }) :
    wpAny (model prog w) A (call (.builtin "min") [a, b, c]) Q E s := by
  have hT : (s.heap.push { cls := .type "tuple", data := .seq #[a, b, c] }).IsTuple s.heap.objs.size #[a, b, c] := ⟨_, Heap.get?_push_size _ rfl, rfl, 0, rfl⟩
  refine call_min_three (wpAny_pyIter_tuple hT ?_)
  have hsz : (s.heap.push { cls := .type "tuple", data := .seq #[a, b, c] }).objs.size = s.heap.objs.size + 1 := Heap.size_push ..
  refine ⟨_, [_, s.heap.objs.size], [_], _, _, _, _, rfl, Walks.tuple (A := A.in1) hh _ s.heap.objs.size (by rw [hsz]; exact Nat.ne_of_lt (Nat.lt_succ_self _)) #[a, b, c],
    ⟨⟨_, Heap.get?_push_size _ rfl, rfl, rfl⟩, hT.push _⟩, fun d hd => ?_, by simp, cmpOf_lt #[a, b, c] (by simp [ha, hb, hc]), fun v h' tk hP hk => ?_⟩
  · show d < ((s.heap.push _).push _).objs.size
    rw [Heap.size_push, hsz]
    rcases List.mem_cons.mp hd with rfl | hd
    · rw [hsz]; exact Nat.lt_succ_self _
    · rcases List.mem_cons.mp hd with rfl | hd
      · exact Nat.lt_succ_of_lt (Nat.lt_succ_self _)
      · cases hd
  · have hold : ∀ d o, s.heap.get? d = some o → h'.get? d = some o := fun d o e => by
      refine hk d o (fun hm => ?_) (Heap.get?_push_of_some _ (Heap.get?_push_of_some _ e))
      rcases List.mem_cons.mp hm with e1 | hm
      · have := Heap.lt_size e; rw [e1, hsz] at this; exact Nat.lt_irrefl _ (Nat.lt_of_succ_lt this)
      · cases hm
    have := h h' tk hold
    have hv : v = if ltV b a then (if ltV c b then c else b) else (if ltV c a then c else a) := by
      cases h1 : ltV b a <;> cases h2 : ltV c b <;> cases h3 : ltV c a <;> simp [argBest, h1, h2, h3] at hP <;> simp [hP]
    rw [hv]; exact this
theorem max3_ff {prog : Program} {w : World} {A : Around} {E : Value → Shared → Prop} {s : Shared} {Q : Value → Shared → Prop} {x y z : UInt64} {t u v : Tok} {h₀ : Heap} {L : Addr} {m : PySem.Str → Option Value} {news : List (Addr × Obj)}
    (hh : A.handled = none) (F : Fr h₀ L s.heap m) (N : News h₀ L s.heap news)
    (h : ∀ h' tk v', Fr h₀ L h' m → News h₀ L h' news → Q (.float (mx3 x y z) v') { s with heap := h', toks := tk }) :
    wpAny (model prog w) A (call (.builtin "max") [.float x t, .float y u, .float z v]) Q E s := by
  refine max3_num hh (.float x t) (.float y u) (.float z v) fun h' tk kp => ?_
  unfold mx3 at h
  have key := fun v' => h h' tk v' (F.grownK kp) (N.grown kp)
  have e1 : ltV (.float x t) (.float y u) = (Float64.cmp x y == some .lt) := rfl
  have e2 : ltV (.float y u) (.float z v) = (Float64.cmp y z == some .lt) := rfl
  have e3 : ltV (.float x t) (.float z v) = (Float64.cmp x z == some .lt) := rfl
  rw [e1, e2, e3]
  cases h1 : (Float64.cmp x y == some .lt) <;> cases h2 : (Float64.cmp y z == some .lt) <;> cases h3 : (Float64.cmp x z == some .lt) <;> rw [h1, h2, h3] at key <;> exact key _
theorem min3_ff {prog : Program} {w : World} {A : Around} {E : Value → Shared → Prop} {s : Shared} {Q : Value → Shared → Prop} {x y z : UInt64} {t u v : Tok} {h₀ : Heap} {L : Addr} {m : PySem.Str → Option Value} {news : List (Addr × Obj)}
    (hh : A.handled = none) (F : Fr h₀ L s.heap m) (N : News h₀ L s.heap news)
    (h : ∀ h' tk v', Fr h₀ L h' m → News h₀ L h' news → Q (.float (mn3 x y z) v') { s with heap := h', toks := tk }) :
    wpAny (model prog w) A (call (.builtin "min") [.float x t, .float y u, .float z v]) Q E s := by
  refine min3_num hh (.float x t) (.float y u) (.float z v) fun h' tk kp => ?_
  unfold mn3 at h
  have key := fun v' => h h' tk v' (F.grownK kp) (N.grown kp)
  have e1 : ltV (.float y u) (.float x t) = (Float64.cmp y x == some .lt) := rfl
  have e2 : ltV (.float z v) (.float y u) = (Float64.cmp z y == some .lt) := rfl
  have e3 : ltV (.float z v) (.float x t) = (Float64.cmp z x == some .lt) := rfl
  rw [e1, e2, e3]
  cases h1 : (Float64.cmp y x == some .lt) <;> cases h2 : (Float64.cmp z y == some .lt) <;> cases h3 : (Float64.cmp z x == some .lt) <;> rw [h1, h2, h3] at key <;> exact key _
end

end
end Mine
/-! P18 -/
namespace Mine
section
section
open PySem.Builtin PySem.Flt

/-- what hsv_to_rgb and rgb_to_hsv reckon -/
noncomputable def hsvI (h : UInt64) : Int := Int.fmod (Flt.toInt Float64.truncOf (Float64.mul h 4618441417868443648)) 6
structure HSm (h : UInt64) : Prop where
  h : (Flt.toInt Float64.truncOf (Float64.mul h 4618441417868443648)).natAbs < 1000
noncomputable def hsvF (h : UInt64) : UInt64 := Float64.sub (Float64.mul h 4618441417868443648) (Float64.ofInt (Flt.toInt Float64.truncOf (Float64.mul h 4618441417868443648)))
noncomputable def hsvP (s v : UInt64) : UInt64 := Float64.mul v (Float64.sub 4607182418800017408 s)
noncomputable def hsvQ (h s v : UInt64) : UInt64 := Float64.mul v (Float64.sub 4607182418800017408 (Float64.mul s (hsvF h)))
noncomputable def hsvU (h s v : UInt64) : UInt64 := Float64.mul v (Float64.sub 4607182418800017408 (Float64.mul s (Float64.sub 4607182418800017408 (hsvF h))))
noncomputable def hsvT (h s v : UInt64) : UInt64 × UInt64 × UInt64 :=
  if hsvI h = 0 then (v, hsvU h s v, hsvP s v) else if hsvI h = 1 then (hsvQ h s v, v, hsvP s v) else if hsvI h = 2 then (hsvP s v, v, hsvU h s v) else if hsvI h = 3 then (hsvP s v, hsvQ h s v, v) else if hsvI h = 4 then (hsvU h s v, hsvP s v, v) else (v, hsvP s v, hsvQ h s v)
noncomputable def rgbC (r g b x : UInt64) : UInt64 := Float64.div (Float64.sub (mx3 r g b) x) (Float64.sub (mx3 r g b) (mn3 r g b))
noncomputable def rgbH (r g b : UInt64) : UInt64 :=
  (Float64.divmod (Float64.div (if (Float64.cmp r (mx3 r g b) == some Ordering.eq) = true then Float64.sub (rgbC r g b b) (rgbC r g b g) else if (Float64.cmp g (mx3 r g b) == some Ordering.eq) = true then Float64.sub (Float64.add 4611686018427387904 (rgbC r g b r)) (rgbC r g b b) else Float64.sub (Float64.add 4616189618054758400 (rgbC r g b g)) (rgbC r g b r)) 4618441417868443648) 4607182418800017408).2
theorem hsv0 {h s v : UInt64} (e : hsvI h = 0) : hsvT h s v = (v, hsvU h s v, hsvP s v) := by unfold hsvT; rw [e]; rfl
theorem hsv1 {h s v : UInt64} (e : hsvI h = 1) : hsvT h s v = (hsvQ h s v, v, hsvP s v) := by unfold hsvT; rw [e]; rfl
theorem hsv2 {h s v : UInt64} (e : hsvI h = 2) : hsvT h s v = (hsvP s v, v, hsvU h s v) := by unfold hsvT; rw [e]; rfl
theorem hsv3 {h s v : UInt64} (e : hsvI h = 3) : hsvT h s v = (hsvP s v, hsvQ h s v, v) := by unfold hsvT; rw [e]; rfl
theorem hsv4 {h s v : UInt64} (e : hsvI h = 4) : hsvT h s v = (hsvU h s v, hsvP s v, v) := by unfold hsvT; rw [e]; rfl
theorem hsv5 {h s v : UInt64} (e : hsvI h = 5) : hsvT h s v = (v, hsvP s v, hsvQ h s v) := by unfold hsvT; rw [e]; rfl
theorem six_no : ∀ n < 6, n = 0 ∨ n = 1 ∨ n = 2 ∨ n = 3 ∨ n = 4 ∨ n = 5 := by decide +kernel
theorem hsv6 {h : UInt64} (e0 : hsvI h ≠ 0) (e1 : hsvI h ≠ 1) (e2 : hsvI h ≠ 2) (e3 : hsvI h ≠ 3) (e4 : hsvI h ≠ 4) (e5 : hsvI h ≠ 5) : False := by
  have h1 : 0 ≤ hsvI h := Int.fmod_nonneg_of_pos _ (by decide)
  have h2 : hsvI h < 6 := Int.fmod_lt_of_pos _ (by decide)
  obtain ⟨n, hn⟩ := Int.eq_ofNat_of_zero_le h1
  rw [hn] at e0 e1 e2 e3 e4 e5 h2
  rcases six_no n (Int.ofNat_lt.mp h2) with rfl | rfl | rfl | rfl | rfl | rfl
  · exact e0 rfl
  · exact e1 rfl
  · exact e2 rfl
  · exact e3 rfl
  · exact e4 rfl
  · exact e5 rfl
theorem rgb0 {r g b : UInt64} (e : (Float64.cmp r (mx3 r g b) == some Ordering.eq) = true) : rgbH r g b = (Float64.divmod (Float64.div (Float64.sub (rgbC r g b b) (rgbC r g b g)) 4618441417868443648) 4607182418800017408).2 := by
  unfold rgbH; rw [if_pos e]
theorem rgb1 {r g b : UInt64} (e : (Float64.cmp r (mx3 r g b) == some Ordering.eq) = false) (e1 : (Float64.cmp g (mx3 r g b) == some Ordering.eq) = true) : rgbH r g b = (Float64.divmod (Float64.div (Float64.sub (Float64.add 4611686018427387904 (rgbC r g b r)) (rgbC r g b b)) 4618441417868443648) 4607182418800017408).2 := by
  unfold rgbH; rw [if_neg (by rw [e]; decide), if_pos e1]
theorem rgb2 {r g b : UInt64} (e : (Float64.cmp r (mx3 r g b) == some Ordering.eq) = false) (e1 : (Float64.cmp g (mx3 r g b) == some Ordering.eq) = false) : rgbH r g b = (Float64.divmod (Float64.div (Float64.sub (Float64.add 4616189618054758400 (rgbC r g b g)) (rgbC r g b r)) 4618441417868443648) 4607182418800017408).2 := by
  unfold rgbH; rw [if_neg (by rw [e]; decide), if_neg (by rw [e1]; decide)]
end

end
end Mine
/-! P19 -/
namespace Mine
section
section
open PySem.Builtin PySem.Builtin.Re PySem.Builtin.Str PySem.Calls
theorem runFor_done {m : Sre.M} (h : m.outcome.isSome = true) : ∀ n, m.runFor n = m
  | 0 => rfl
  | n + 1 => by unfold Sre.M.runFor; rw [if_pos h]
theorem runFor_add (a : Nat) : ∀ (m : Sre.M) (b : Nat), m.runFor (a + b) = (m.runFor a).runFor b := by
  induction a with
  | zero => intro m b; rw [Nat.zero_add]; rfl
  | succ a ih =>
    intro m b
    rw [Nat.succ_add]
    by_cases h : m.outcome.isSome = true
    · rw [runFor_done h, runFor_done h, runFor_done h]
    · show Sre.M.runFor (a + b + 1) m = (Sre.M.runFor (a + 1) m).runFor b
      rw [Sre.M.runFor, if_neg h, Sre.M.runFor, if_neg h]
      exact ih _ b
variable {M₀ : Model} {A : Around} {E : Value → Shared → Prop} {s : Shared}
theorem wp_drive {Q : Sre.M → Shared → Prop} : ∀ (k t : Nat) (m : Sre.M), k < t → ((m.runFor (4 * k + 4)).outcome.isSome = true) → Q (m.runFor (4 * k + 4)) s → wpAny M₀ A (reDrive t m) Q E s
  | k, 0, m, h, _, _ => absurd h (Nat.not_lt_zero _)
  | 0, t + 1, m, _, ho, hQ => by
    show wpAny M₀ A (if (m.runFor 4).outcome.isSome = true then pure (m.runFor 4) else _) Q E s
    rw [if_pos ho]
    exact wpAny_pure hQ
  | k + 1, t + 1, m, h, ho, hQ => by
    have e : m.runFor (4 * (k + 1) + 4) = (m.runFor 4).runFor (4 * k + 4) := by rw [← runFor_add]; congr 1; lia
    rw [e] at ho hQ
    show wpAny M₀ A (if (m.runFor 4).outcome.isSome = true then pure (m.runFor 4) else (rule "sre.turn" >>= fun _ => reDrive t (m.runFor 4))) Q E s
    by_cases h4 : (m.runFor 4).outcome.isSome = true
    · rw [if_pos h4]
      rw [runFor_done h4] at hQ
      exact wpAny_pure hQ
    · rw [if_neg h4]
      exact wpAny_bind (wpAny_rule (wp_drive k t _ (by lia) ho hQ))
theorem wp_rules {Q : Unit → Shared → Prop} (c : Nat → Bool) (n : Nat → String) (hQ : Q () s) : ∀ l : List Nat, wpAny M₀ A (forIn l PUnit.unit fun i _ => (if c i = true then (do rule (n i); pure (ForInStep.yield PUnit.unit)) else pure (ForInStep.yield PUnit.unit))) Q E s
  | [] => wpAny_pure hQ
  | i :: l => by
    rw [List.forIn_cons]
    refine wpAny_bind ?_
    by_cases h : c i = true
    · rw [if_pos h]
      exact wpAny_bind (wpAny_rule (wpAny_pure (wp_rules c n hQ l)))
    · rw [if_neg h]
      exact wpAny_pure (wp_rules c n hQ l)
theorem wp_runToEnd {Q : Option Sre.M → Shared → Prop} {m : Sre.M} {k : Nat} (hk : k < 100000) (hm : (m.runFor (4 * k + 4)).outcome = some .matched ∨ (m.runFor (4 * k + 4)).outcome = some .failed)
    (h1 : (m.runFor (4 * k + 4)).outcome = some .matched → Q (some (m.runFor (4 * k + 4))) s) (h2 : (m.runFor (4 * k + 4)).outcome = some .failed → Q none s) : wpAny M₀ A (reRunToEnd m) Q E s := by
  unfold reRunToEnd
  refine wpAny_bind (wp_drive k (2 ^ 64) m (Nat.lt_of_lt_of_le hk (by decide)) (by rcases hm with e | e <;> rw [e] <;> rfl) ?_)
  refine wpAny_bind ?_
  refine wp_rules (fun i => (m.runFor (4 * k + 4)).seen.has i) (fun i => Sre.names.getD i "") ?_ _
  rcases hm with e | e
  · rw [e]; exact wpAny_pure (h1 e)
  · rw [e]; exact wpAny_pure (h2 e)
end

end
end Mine
/-! P20 -/
namespace Mine
section
section
open PySem.Builtin PySem.Builtin.Re PySem.Builtin.Str PySem.Calls
variable {M₀ : Model} {A : Around} {E : Value → Shared → Prop} {s : Shared}
/-- a pattern object of str, no groups -/
structure IsPat (h : Heap) (P : Addr) (code : Array Nat) : Prop where
  at' : ∃ (o : Obj) (fs : Array Value) (c : Addr) (oc : Obj) (its : Array Value) (n : Nat), h.get? P = some o ∧ o.data = .fields fs ∧ reRawNat (fs.getD 6 .none) = 0 ∧ reRawNat (fs.getD 2 .none) = 0 ∧ fs.getD 5 .none = .ref c ∧ h.get? c = some oc ∧ oc.data = .seq its n ∧ ((its.map reRawOf).map (·.toNat)) = code
theorem IsPat.up {h h' : Heap} {P : Addr} {code : Array Nat} (x : IsPat h P code) (k : ∀ b o, h.get? b = some o → h'.get? b = some o) : IsPat h' P code := by
  obtain ⟨o, fs, c, oc, its, n, h1, h2, h3, h4, h5, h6, h7, h8⟩ := x.at'
  exact ⟨o, fs, c, oc, its, n, k _ _ h1, h2, h3, h4, h5, k _ _ h6, h7, h8⟩
noncomputable def tgt (P : Addr) (code : Array Nat) (x : PySem.Str) (t : Tok) : ReTarget := { pattern := .ref P, string := .str x t, code, text := x.cps, kind := 0, groups := 0, pos := 0, lim := x.cps.size }
theorem wp_target {P : Addr} {code : Array Nat} {x : PySem.Str} {t : Tok} {Q : ReTarget → Shared → Prop} (hP : IsPat s.heap P code) (h : Q (tgt P code x t) s) : wpAny M₀ A (reWholeTarget (.ref P) (.str x t)) Q E s := by
  obtain ⟨o, fs, c, oc, its, n, h1, h2, h3, h4, h5, h6, h7, h8⟩ := hP.at'
  unfold reWholeTarget
  refine wpAny_bind (wpAny_fieldsOf h1 h2 ?_)
  refine wpAny_bind ?_
  show wpAny M₀ A (pure (x.cps, 0)) _ _ _
  refine wpAny_pure ?_
  rw [h3, h5, h4]
  show wpAny M₀ A (reRawItems (.ref c) >>= _) _ _ _
  refine wpAny_bind ?_
  unfold reRawItems
  refine wpAny_bind (wpAny_seqItems h6 h7 ?_)
  refine wpAny_pure ?_
  show wpAny M₀ A (pure _) _ _ _
  refine wpAny_pure ?_
  rw [show (((some its).getD #[]).map reRawOf) = its.map reRawOf from rfl, h8]
  exact h
noncomputable def findF (code text : Array Nat) (start lim : Nat) (must : Bool) (k : Nat) : Sre.M := (Sre.forSearch code text 0 start lim must).runFor (4 * k + 4)
theorem wp_next {P : Addr} {code : Array Nat} {x : PySem.Str} {t : Tok} {start : Nat} {must : Bool} {k : Nat} {Q : Option Sre.M → Shared → Prop} (hk : k < 100000)
    (hm : (findF code x.cps start x.cps.size must k).outcome = some .matched ∨ (findF code x.cps start x.cps.size must k).outcome = some .failed)
    (h1 : (findF code x.cps start x.cps.size must k).outcome = some .matched → Q (some (findF code x.cps start x.cps.size must k)) s) (h2 : (findF code x.cps start x.cps.size must k).outcome = some .failed → Q none s) :
    wpAny M₀ A (reNextFound (tgt P code x t) start must) Q E s := wp_runToEnd hk hm h1 h2
end

end
end Mine
/-! P21 -/
namespace Mine
section
section
open PySem.Builtin PySem.Builtin.Re PySem.Builtin.Str PySem.Calls
theorem plain_sub_loop : plainId "re.Pattern.sub.loop" = true := by decide +kernel
theorem entry_sub_loop : entryFor table "re.Pattern.sub.loop" = some Builtin.«re.Pattern.sub.loop» := entryFor_of_fast (by kernel_rfl)
/-- the pieces that sub lays out -/
noncomputable def subF (code : Array Nat) (x r : PySem.Str) (k : Nat) : Nat → Nat → Nat → Bool → Option (List PySem.Str)
  | 0, _, _, _ => none
  | f + 1, done, start, must =>
    match (findF code x.cps start x.cps.size must k).outcome with
    | some .matched => (subF code x r k f (findF code x.cps start x.cps.size must k).handed (findF code x.cps start x.cps.size must k).handed ((findF code x.cps start x.cps.size must k).handed == (findF code x.cps start x.cps.size must k).start)).map fun ps =>
        (if done < (findF code x.cps start x.cps.size must k).start then [⟨x.cps.extract done (findF code x.cps start x.cps.size must k).start⟩] else []) ++ r :: ps
    | some .failed => some (if done < x.cps.size then [⟨x.cps.extract done x.cps.size⟩] else [])
    | _ => none
theorem sum_le {B : Nat} : ∀ {l : List PySem.Str}, (∀ y ∈ l, y.length ≤ B) → (l.map (·.length)).sum ≤ B * l.length
  | [], _ => Nat.zero_le _
  | y :: l, h => by
    have h1 := h y (List.mem_cons_self ..)
    have h2 := sum_le (l := l) fun z hz => h z (List.mem_cons_of_mem _ hz)
    simp only [List.map_cons, List.sum_cons, List.length_cons, Nat.mul_succ]
    lia
variable {prog : Program} {w : World} {A : Around} {R : Result → Shared → Prop}
theorem rm_a {a b n f : Nat} (h : a = b) (h2 : b ≤ n + 1) (hz : n + 3 * (f + 1) ≤ 1000) : a ≤ 1001 := by lia
theorem rm_b {b n f : Nat} (h2 : b ≤ n + 1) (hz : n + 3 * (f + 1) ≤ 1000) : b + 1 + 3 * f ≤ 1000 := by lia
theorem rm_s {a b : Nat} (h : a ≤ b) (hb : b ≤ 16777216) : a ≤ PySem.sizeLine := by rw [PySem.sizeLine_eq]; lia
theorem rm_c {x : PySem.Str} (hx : x.length ≤ 4096) (a b : Nat) : (⟨x.cps.extract a b⟩ : PySem.Str).length ≤ 4096 := by
  show (x.cps.extract _ _).size ≤ _
  rw [Array.size_extract]
  exact Nat.le_trans (Nat.sub_le ..) (Nat.le_trans (Nat.min_le_right ..) hx)
theorem rm_d {x : PySem.Str} : (⟨x.cps.extract 0 0⟩ : PySem.Str).length = 0 := by
  show (x.cps.extract 0 0).size = 0
  rw [Array.size_extract, Nat.zero_min]
theorem sub_loop {h₁ : Heap} {P S : Addr} {code : Array Nat} {x r : PySem.Str} {t u : Tok} {k : Nat} (hk : k < 100000) (hP : IsPat h₁ P code) (hS1 : h₁.get? S = none) (hx : x.length ≤ 4096) (hr : r.length ≤ 64) :
    ∀ (f done start : Nat) (must : Bool) (ps : List PySem.Str) (s : Shared) (its : List Value) (ss : List PySem.Str) (n : Int) (a1 a2 a3 a4 a5 : Tok) (c : Nat), subF code x r k f done start must = some ps →
    (∀ b o, h₁.get? b = some o → s.heap.get? b = some o) → s.heap.get? S = some { cls := .type "list", data := .seq its.toArray c } → StrsAre its ss → ss.length + 3 * f ≤ 1000 → (∀ y ∈ ss, y.length ≤ 4096) → ss ++ ps ≠ [] →
    (∀ h' tk t', (∀ b o, h₁.get? b = some o → h'.get? b = some o) → R (.ok (.ret (.str (Txt.join ⟨x.cps.extract 0 0⟩ (ss ++ ps)) t'))) { s with heap := h', toks := tk }) →
    codeAny (model prog w) A (.builtin "re.Pattern.sub.loop" ⟨[.ref P, .str x t, .str r u, .int 0 a1, .int 0 a2, .int n a3, .int (done : Nat) a4, .int (start : Nat) a5, .bool must, .ref S, .bool false], []⟩) R s := by
  intro f
  induction f with
  | zero => intro done start must ps s its ss n a1 a2 a3 a4 a5 c h; cases h
  | succ f ih =>
    intro done start must ps s its ss n a1 a2 a3 a4 a5 c h hb hS hi hz hy hne hR
    refine codeAny_builtin entry_sub_loop ?_
    rw [Around.under_plainId plain_sub_loop _]
    show wpAny _ A.in1 (reWholeTarget (.ref P) (.str x t) >>= _) _ _ s
    refine wpAny_bind (wp_target (hP.up hb) ?_)
    show wpAny _ A.in1 (reLiteralCannotBeTurned (.str r u) >>= _) _ _ s
    refine wpAny_bind ?_
    show wpAny _ A.in1 (pure ()) _ _ s
    refine wpAny_pure ?_
    show wpAny _ A.in1 (reNextFound (tgt P code x t) start must >>= _) _ _ s
    refine wpAny_bind ?_
    have hs := h
    unfold subF at hs
    refine wp_next hk ?_ (fun e => ?_) (fun e => ?_)
    · cases e : (findF code x.cps start x.cps.size must k).outcome with
      | none => rw [e] at hs; cases hs
      | some o => cases o with
        | matched => exact .inl rfl
        | failed => exact .inr rfl
        | stuck w => rw [e] at hs; cases hs
    · rw [e] at hs
      clear h
      generalize findF code x.cps start x.cps.size must k = G at *
      obtain ⟨ps', hps, rfl⟩ := Option.map_eq_some_iff.mp hs
      have tail : ∀ (h2 : Heap) (tk2 : Nat) (its2 : List Value) (ss2 : List PySem.Str) (c2 : Nat), (∀ b o, h₁.get? b = some o → h2.get? b = some o) → h2.get? S = some { cls := .type "list", data := .seq its2.toArray c2 } → StrsAre its2 ss2 → ss2.length ≤ ss.length + 1 → (∀ y ∈ ss2, y.length ≤ 4096) →
          ss2 ++ r :: ps' = ss ++ ((if done < G.start then [⟨x.cps.extract done G.start⟩] else []) ++ r :: ps') →
          wpAny (model prog w) A.in1 (updateSeq S (fun x => x.push (.str r u)) >>= fun _ => again (.builtin "re.Pattern.sub.loop" ⟨[.ref P, .str x t, .str r u, rawInt 0, rawInt 0, rawInt (n + 1), rawInt G.handed, rawInt G.handed, .bool (G.handed == G.start), .ref S, .bool false], []⟩))
            (fun fin s' => match fin with | .done f => R (.ok f) s' | .again c' => c'.quiet = true ∧ codeAny (model prog w) A c' R s') (fun e s' => R (.error e) s') { s with heap := h2, toks := tk2 } := by
        intro h2 tk2 its2 ss2 c2 hb2 hS2 hi2 hl2 hy2 e2
        have hlen : its2.length = ss2.length := hi2.length
        refine wpAny_bind (wpAny_updateSeq hS2 rfl ?_ (by rw [List.size_toArray]; exact rm_s (rm_a hlen hl2 hz) (by decide)) (by rw [Array.size_push, List.size_toArray]; exact Nat.succ_le_succ (rm_s (rm_a hlen hl2 hz) (by decide))))
        refine wpAny_pure ⟨plainId_quiet plain_sub_loop _, ?_⟩
        refine ih _ _ _ ps' _ (its2 ++ [.str r u]) (ss2 ++ [r]) (n + 1) 0 0 0 0 0 (c2 + 1) hps (fun b o hbo => ?_) ?_ (hi2.append' (.cons r u .nil)) (by rw [List.length_append, List.length_singleton]; exact rm_b hl2 hz) (fun y hy' => ?_) (by simp) (fun h' tk t' hk' => ?_)
        · by_cases hbS : S = b
          · subst hbS; rw [hS1] at hbo; cases hbo
          · exact (Heap.get?_update_other _ _ hbS).trans (hb2 b o hbo)
        · rw [Heap.get?_update_self _ hS2 rfl]
          simp [Obj.mapSeq]
        · rcases List.mem_append.mp hy' with hy' | hy'
          · exact hy2 y hy'
          · rw [List.mem_singleton.mp hy']; exact Nat.le_trans hr (by decide)
        · have q := hR h' tk t' hk'
          rw [← e2] at q
          rw [List.append_assoc]
          exact q
      by_cases hd : done < G.start
      · show wpAny _ A.in1 (if done < G.start then _ else _) _ _ s
        rw [if_pos hd]
        show wpAny _ A.in1 (mkStr ⟨x.cps.extract done G.start⟩ >>= _) _ _ s
        have hxl := rm_c hx done G.start
        have hlen : its.length = ss.length := hi.length
        refine wpAny_bind (wpAny_mkStr ?_ (rm_s hxl (by decide)))
        refine wpAny_bind (wpAny_updateSeq hS rfl ?_ (by rw [List.size_toArray]; exact rm_s (rm_a hlen (Nat.le_succ _) hz) (by decide)) (by rw [Array.size_push, List.size_toArray]; exact Nat.succ_le_succ (rm_s (rm_a hlen (Nat.le_succ _) hz) (by decide))))
        refine tail _ _ (its ++ [.str _ s.toks]) (ss ++ [⟨x.cps.extract done G.start⟩]) (c + 1) (fun b o hbo => ?_) ?_ (hi.append' (.cons _ _ .nil)) (by rw [List.length_append, List.length_singleton]; exact Nat.le_refl _) (fun y hy' => ?_) (by rw [if_pos hd]; simp)
        · by_cases hbS : S = b
          · subst hbS; rw [hS1] at hbo; cases hbo
          · exact (Heap.get?_update_other _ _ hbS).trans (hb b o hbo)
        · rw [Heap.get?_update_self _ hS rfl]
          simp [Obj.mapSeq]
        · rcases List.mem_append.mp hy' with hy' | hy'
          · exact hy y hy'
          · rw [List.mem_singleton.mp hy']; exact hxl
      · show wpAny _ A.in1 (if done < G.start then _ else _) _ _ s
        rw [if_neg hd]
        refine tail s.heap s.toks its ss c hb hS hi (Nat.le_succ _) hy (by rw [if_neg hd]; simp)
    · rw [e] at hs
      cases hs
      have tail : ∀ (h2 : Heap) (tk2 : Nat) (its2 : List Value) (ss2 : List PySem.Str) (c2 : Nat), (∀ b o, h₁.get? b = some o → h2.get? b = some o) → h2.get? S = some { cls := .type "list", data := .seq its2.toArray c2 } → StrsAre its2 ss2 → ss2.length ≤ ss.length + 1 → (∀ y ∈ ss2, y.length ≤ 4096) →
          ss2 = ss ++ (if done < x.cps.size then [⟨x.cps.extract done x.cps.size⟩] else []) →
          wpAny (model prog w) A.in1 (mkStr ⟨x.cps.extract 0 0⟩ >>= fun joiner => seqItems? (.ref S) >>= fun r => if (r.getD #[]).isEmpty = true then (pure joiner >>= fun text => if false = true then (holding [text] (mkInt n >>= fun q => newTuple [text, q]) >>= fun z => ret z) else ret text) else (call (.builtin "str.join") [joiner, .ref S] >>= fun text => if false = true then (holding [text] (mkInt n >>= fun q => newTuple [text, q]) >>= fun z => ret z) else ret text))
            (fun fin s' => match fin with | .done f => R (.ok f) s' | .again c' => c'.quiet = true ∧ codeAny (model prog w) A c' R s') (fun e s' => R (.error e) s') { s with heap := h2, toks := tk2 } := by
        intro h2 tk2 its2 ss2 c2 hb2 hS2 hi2 hl2 hy2 e2
        have hlen : its2.length = ss2.length := hi2.length
        have hne2 : ss2 ≠ [] := by rw [e2]; exact hne
        refine wpAny_bind (wpAny_mkStr ?_ (Nat.le_trans (Nat.le_of_eq rm_d) (Nat.zero_le _)))
        refine wpAny_bind (wpAny_seqItems hS2 rfl ?_)
        rw [if_neg (by
          show ¬ its2.toArray.isEmpty = true
          cases its2 with
          | nil => cases ss2 with
            | nil => exact absurd rfl hne2
            | cons _ _ => simp at hlen
          | cons v l => simp)]
        refine wpAny_bind ?_
        refine join_list (ys := ss2) ⟨_, hS2, rfl, c2, rfl⟩ (by simpa using hi2) ?_ fun t' k' => ?_
        · have q := sum_le hy2
          rw [rm_d]
          have : ss2.length ≤ 1001 := rm_a rfl hl2 hz
          have : 4096 * ss2.length ≤ 4096 * 1001 := Nat.mul_le_mul_left _ this
          lia
        · rw [if_neg (by decide)]
          refine wpAny_pure ?_
          rw [e2]
          exact hR h2 k' t' hb2
      by_cases hd : done < x.cps.size
      · show wpAny _ A.in1 (if done < x.cps.size then _ else _) _ _ s
        rw [if_pos hd]
        show wpAny _ A.in1 (mkStr ⟨x.cps.extract done x.cps.size⟩ >>= _) _ _ s
        have hxl := rm_c hx done x.cps.size
        have hlen : its.length = ss.length := hi.length
        refine wpAny_bind (wpAny_mkStr ?_ (rm_s hxl (by decide)))
        refine wpAny_bind (wpAny_updateSeq hS rfl ?_ (by rw [List.size_toArray]; exact rm_s (rm_a hlen (Nat.le_succ _) hz) (by decide)) (by rw [Array.size_push, List.size_toArray]; exact Nat.succ_le_succ (rm_s (rm_a hlen (Nat.le_succ _) hz) (by decide))))
        refine tail _ _ (its ++ [.str _ s.toks]) (ss ++ [⟨x.cps.extract done x.cps.size⟩]) (c + 1) (fun b o hbo => ?_) ?_ (hi.append' (.cons _ _ .nil)) (by rw [List.length_append, List.length_singleton]; exact Nat.le_refl _) (fun y hy' => ?_) (by rw [if_pos hd])
        · by_cases hbS : S = b
          · subst hbS; rw [hS1] at hbo; cases hbo
          · exact (Heap.get?_update_other _ _ hbS).trans (hb b o hbo)
        · rw [Heap.get?_update_self _ hS rfl]
          simp [Obj.mapSeq]
        · rcases List.mem_append.mp hy' with hy' | hy'
          · exact hy y hy'
          · rw [List.mem_singleton.mp hy']; exact hxl
      · show wpAny _ A.in1 (if done < x.cps.size then _ else _) _ _ s
        rw [if_neg hd]
        exact tail s.heap s.toks its ss c hb hS hi (Nat.le_succ _) hy (by rw [if_neg hd, List.append_nil])
end

end
end Mine
/-! P22 -/
namespace Mine
section
section
open PySem.Builtin PySem.Builtin.Re PySem.Builtin.Str PySem.Calls
theorem slot_sub : Slot "re.Pattern" "sub" "re.Pattern.sub" :=
  .of (owner := "re.Pattern") (n := "sub") (by rw [typeLookup_type, builtinLookup_eq_fast]; kernel_rfl) (by decide +kernel) (by decide +kernel) (by decide +kernel)
    (by first | exact .inl (by decide +kernel) | exact .inr (by decide +kernel)) (by rw [isSubtype_type]; kernel_rfl)
theorem type_sub : typeOf (.builtin "re.Pattern.sub") = pure (.type "method_descriptor") := by show builtinType _ = _; rw [builtinType_eq_fast]; kernel_rfl
theorem entry_sub : entryFor table "re.Pattern.sub" = some Builtin.«re.Pattern.sub» := entryFor_of_fast (by kernel_rfl)
theorem args_sub (a b c : Value) : argsOk "re.Pattern.sub" ⟨[a, b, c], []⟩ := by unfold argsOk; kernel_rfl
theorem plain_pat : PlainAttrs "re.Pattern" :=
  ⟨⟨"object.__getattribute__", by rw [typeLookup_type, builtinLookup_eq_fast]; kernel_rfl, by decide +kernel⟩, by rw [typeLookup_type, builtinLookup_eq_fast]; kernel_rfl⟩
theorem nocall_str : typeLookup (.type "str") "__call__" = pure none := by rw [typeLookup_type, builtinLookup_eq_fast]; kernel_rfl
end

end
end Mine
/-! P23 -/
namespace Mine
section
section
open PySem.Builtin PySem.Builtin.Re PySem.Builtin.Str PySem.Calls
variable {prog : Program} {w : World} {A : Around} {E : Value → Shared → Prop} {s : Shared}
theorem wp_sub {P : Addr} {o : Obj} {code : Array Nat} {x r : PySem.Str} {t u : Tok} {k f : Nat} {ps : List PySem.Str} {Q : Value → Shared → Prop} (hk : k < 100000) (ho : s.heap.get? P = some o) (hoc : o.cls = .type "re.Pattern") (hP : IsPat s.heap P code) (hx : x.length ≤ 4096) (hr : r.length ≤ 64)
    (h92 : r.cps.contains 92 = false) (hf : 3 * f ≤ 1000) (hsub : subF code x r k f 0 0 false = some ps) (hne : ps ≠ [])
    (h : ∀ h' tk t', (∀ b o, s.heap.get? b = some o → h'.get? b = some o) → Q (.str (Txt.join ⟨x.cps.extract 0 0⟩ ps) t') { s with heap := h', toks := tk }) :
    wpAny (model prog w) A (call (.builtin "re.Pattern.sub") [.ref P, .str r u, .str x t]) Q E s := by
  refine wpAny_call (codeAny_call_builtin slot_sub.plain entry_sub (slot_sub.check _ _ _ _ _ _ _ _ ⟨o, ho, hoc⟩ (args_sub _ _ _) ?_))
  show wpAny _ _ (reNamed "re.Pattern.sub" "sub" ["repl", "string", "count"] 2 [.str r u, .str x t] [] >>= _) _ _ s
  refine wpAny_bind (wpAny_of_eq (show reNamed "re.Pattern.sub" "sub" ["repl", "string", "count"] 2 [.str r u, .str x t] [] = pure [some (.str r u), some (.str x t), none] from rfl) ?_)
  dsimp only
  refine wpAny_bind (wpAny_pure ?_)
  refine wpAny_bind (wpAny_specialOf (T := "str") (typeIs_str _ _ _) nocall_str ?_)
  rw [if_neg (by decide)]
  refine wpAny_bind ?_
  show wpAny _ _ (pure (some r)) _ _ _
  refine wpAny_pure ?_
  dsimp only
  refine wpAny_bind (wpAny_pure ?_)
  rw [if_neg (by decide), h92, if_pos (by decide)]
  refine wpAny_bind (wpAny_pure ?_)
  refine wpAny_bind (wpAny_holding (wp_target hP ?_))
  rw [if_neg (by show ¬ ((0 : Nat) == 1) = true; decide)]
  refine wpAny_bind (wpAny_newList ?_ (by rw [PySem.sizeLine_eq]; decide))
  refine wpAny_pure ⟨plainId_quiet plain_sub_loop _, ?_⟩
  refine sub_loop (h₁ := s.heap) hk hP ?_ hx hr f 0 0 false ps _ [] [] 0 _ _ _ _ _ _ hsub (fun b o hbo => Heap.get?_push_of_some _ hbo) (Heap.get?_push_size _ rfl) .nil (by simpa using hf) (fun y hy => nomatch hy) hne fun h' tk t' hk' => h h' tk t' hk'
  cases e : s.heap.get? s.heap.objs.size with
  | none => rfl
  | some o => exact absurd (Heap.lt_size e) (Nat.lt_irrefl _)
end

end
end Mine
/-! P24 -/
namespace Mine
section
section
open PySem.Builtin PySem.Builtin.Re PySem.Builtin.Str PySem.Calls
noncomputable def code1 : Array Nat := #[14, 4, 0, 1, 1, 6, 1, 16, 46, 1]
noncomputable def code2 : Array Nat := #[14, 9, 4, 1, 2, 16, 10, 16, 13, 0, 7, 7, 16, 13, 16, 10, 15, 18, 5, 16, 10, 15, 13, 11, 16, 13, 5, 5, 0, 16, 10, 1, 15, 2, 0, 1]
/-- x is quoted as y -/
structure Quo (x y : PySem.Str) : Prop where
  q : ∃ (ps qs : List PySem.Str) (k k' : Nat), k < 100000 ∧ k' < 100000 ∧ x.length ≤ 4096 ∧ subF code2 x (PySem.Str.ofString "\r\n") k 333 0 0 false = some ps ∧ ps ≠ [] ∧ (Txt.join ⟨x.cps.extract 0 0⟩ ps).length ≤ 4096 ∧
    subF code1 (Txt.join ⟨x.cps.extract 0 0⟩ ps) (PySem.Str.ofString "..") k' 333 0 0 false = some qs ∧ qs ≠ [] ∧ Txt.join ⟨(Txt.join ⟨x.cps.extract 0 0⟩ ps).cps.extract 0 0⟩ qs = y
variable {prog : Program} {w : World} {A : Around} {E : Value → Shared → Prop} {s : Shared} {h₀ : Heap} {L : Addr} {m : PySem.Str → Option Value} {news : List (Addr × Obj)}
theorem kx_getsub {K : Frag} {P : Addr} {o : Obj} {pl : Sem Bool} {Q : Value × List Value → Shared → Prop} (X : K.In h₀) (F : Fr h₀ L s.heap m) (hl : K.lookup P = some o) (hc : o.cls = .type "re.Pattern") (hd : o.dict = none)
    (h : Q (.builtin "re.Pattern.sub", [.ref P]) s) : wpAny (model prog w) A (getMethod (.ref P) (PySem.Str.ofString "sub") pl) Q E s :=
  getMethod_builtin ⟨o, F.keep _ _ (X _ _ hl), hc⟩ plain_pat slot_sub type_sub (fun a e => by cases e; exact ⟨o, F.keep _ _ (X _ _ hl), hd⟩) h
theorem kx_sub {K : Frag} {P c : Addr} {o oc : Obj} {code : Array Nat} {fs its : Array Value} {n : Nat} {x r : PySem.Str} {t u : Tok} {k : Nat} {ps : List PySem.Str} {Q : Value → Shared → Prop} (X : K.In h₀) (F : Fr h₀ L s.heap m) (N : News h₀ L s.heap news)
    (hl : K.lookup P = some o) (hc : o.cls = .type "re.Pattern") (hd : o.data = .fields fs) (h6 : reRawNat (fs.getD 6 .none) = 0) (h2 : reRawNat (fs.getD 2 .none) = 0) (h5 : fs.getD 5 .none = .ref c) (hlc : K.lookup c = some oc) (hdc : oc.data = .seq its n) (hcode : (its.map reRawOf).map (·.toNat) = code)
    (hk : k < 100000) (hx : x.length ≤ 4096) (hr : r.length ≤ 64) (h92 : r.cps.contains 92 = false) (hsub : subF code x r k 333 0 0 false = some ps) (hne : ps ≠ [])
    (h : ∀ h' tk t', Fr h₀ L h' m → News h₀ L h' news → Q (.str (Txt.join ⟨x.cps.extract 0 0⟩ ps) t') { s with heap := h', toks := tk }) :
    wpAny (model prog w) A (call (.builtin "re.Pattern.sub") [.ref P, .str r u, .str x t]) Q E s :=
  wp_sub hk (F.keep _ _ (X _ _ hl)) hc ⟨⟨o, fs, c, oc, its, n, F.keep _ _ (X _ _ hl), hd, h6, h2, h5, F.keep _ _ (X _ _ hlc), hdc, hcode⟩⟩ hx hr h92 (by decide) hsub hne fun h' tk t' kp => h h' tk t' (F.grownK kp) (N.grown kp)
theorem crlf_ok : (PySem.Str.ofString "\r\n").length ≤ 64 ∧ (PySem.Str.ofString "\r\n").cps.contains 92 = false := by decide +kernel
theorem dd_ok : (PySem.Str.ofString "..").length ≤ 64 ∧ (PySem.Str.ofString "..").cps.contains 92 = false := by decide +kernel
end

end
end Mine
/-! X_quo -/
namespace Mine
section
theorem quo_ok {w : World} {loose : List PySem.Str} {mean : ExcName → Option Value} {mg mb : PySem.Str → Option Value}
    {dp un : Nat} {gd : Option (List Code)} {cn : PySem.Str} {cs : Scope} {a : Addr} {ccd : Value} {cl : List (PySem.Str × Addr)} {outer : List Env} {A₀ : Around} {base h₀ : Heap} {L : Addr} {m : PySem.Str → Option Value} {s : Shared} {Q E : Value → Shared → Prop} {news : List (Addr × Obj)}
    (B : Below A₀ base outer h₀) (F : Fr h₀ L s.heap m) (X : (hd.heap_1 w.params).In h₀) (N : News h₀ L s.heap news) (T : Top topProg loose mean mg mb h₀) (hk : cs.kind = .function)
    {x y : PySem.Str} {tx : Tok} (hq : Quo x y)
    (hd1 : dp + 2 < recursionLimit) (hu : un + 32 < cLine)
    (hret : ∀ t1 h1 tk1, Fr h₀ L h1 m → News h₀ L h1 news → Q (.str y t1) { s with heap := h1, toks := tk1 }) :
    wpAny (model Challenge.rw_sn0051_01.row.prog w) (ktrTop dp un gd cn cs L a ccd cl outer) (call (.ref 119) [.str x tx]) Q E s := by
  revert X
  k_fill
  intro X
  refine wpAny_call ?_
  obtain ⟨ps, qs, k, k', hk1, hk2, hx, h1, h2, h3, h4, h5, h6⟩ := hq.q
  subst h6
  k_with_none
  k_with "getMethod ref" => (k_here; (with_reducible show wpAny _ _ (getMethod (Value.ref _) (PySem.Str.ofString "sub") _) _ _ _); (with_unfolding_all refine' kx_getsub ?x0qX ?x0qF ?x0ql ?x0qc ?x0qd ?_; (case x0qX => k_in); (case x0qF => k_asm); (case x0ql => k_is); (case x0qc => with_unfolding_all rfl); (case x0qd => with_unfolding_all rfl)))
  k_with "call builtin:re.Pattern.sub" => k_extra "sub"
  k_with "sub" => (k_here; first | ((with_unfolding_all refine' kx_sub (P := 112) (c := 111) (code := code2) ?X ?F ?N ?l ?c ?d ?h6 ?h2 ?h5 ?lc ?dc ?cc hk1 hx crlf_ok.1 crlf_ok.2 h1 h2 ?_); (case X => k_in); (case F => k_asm); (case N => k_asm); (case l => k_is); (case lc => k_is); (case c => with_unfolding_all rfl); (case d => with_unfolding_all rfl); (case h6 => with_unfolding_all rfl); (case h2 => with_unfolding_all rfl); (case h5 => with_unfolding_all rfl); (case dc => with_unfolding_all rfl); (case cc => with_unfolding_all rfl); (intro h9 tk9 t9 F9 N9)) | ((with_unfolding_all refine' kx_sub (P := 107) (c := 106) (code := code1) ?X ?F ?N ?l ?c ?d ?h6 ?h2 ?h5 ?lc ?dc ?cc hk2 h3 dd_ok.1 dd_ok.2 h4 h5 ?_); (case X => k_in); (case F => k_asm); (case N => k_asm); (case l => k_is); (case lc => k_is); (case c => with_unfolding_all rfl); (case d => with_unfolding_all rfl); (case h6 => with_unfolding_all rfl); (case h2 => with_unfolding_all rfl); (case h5 => with_unfolding_all rfl); (case dc => with_unfolding_all rfl); (case cc => with_unfolding_all rfl); (intro h9 tk9 t9 F9 N9)))
  first
  | (k_dflt cell_enter)
  | (k_dflt (refine' code_def ?k1 ?k2 ?k3 ?k4 ?k5 ?kA ?kF ?kK ?k6 ?k7 ?k8 ?k9 ?kB ?_ ?c2 ?c3 ?c4 ?c5; (case kA => exact rfl); (case kF => exact rfl); (case kK => assumption); (case k1 => k_asm); (case k2 => k_asm); (case k3 => k_asm); (case k4 => k_asm); (case k5 => k_asm); (case k6 => k_is); (case k7 => k_is); (case k8 => ktr_room); (case k9 => first | exact BindsTo.of_eq rfl | exact binds_K (by k_in) rfl (by k_is) rfl rfl rfl); (case c5 => decide); (case kB => exact locs rfl); (case c2 => exact rfl); (case c3 => exact rfl); (case c4 => exact rfl); k_whole; intro g' L' h' FG' F' N' B' X' T'; (try dsimp only); (try k_lift B'); (try k_fold)))
  | (k_dflt (refine' code_defC ?k1 ?k2 ?k3 ?k4 ?k5 ?kA ?kF ?kK ?k6 ?k7 ?k8 ?k9 ?kB ?kD ?_ ?c2 ?c3 ?c4; (case kA => exact rfl); (case kF => exact rfl); (case kK => assumption); (case k1 => k_asm); (case k2 => k_asm); (case k3 => k_asm); (case k4 => k_asm); (case k5 => k_asm); (case k6 => k_is); (case k7 => k_is); (case k8 => ktr_room); (case k9 => first | exact BindsTo.of_eq rfl | exact binds_K (by k_in) rfl (by k_is) rfl rfl rfl); (case kB => exact rfl); (case kD => decide); (case c2 => exact rfl); (case c3 => exact rfl); (case c4 => exact rfl); k_whole; intro g' L' h' tk' cells' FG' F' N' Y' B' X' T' l'; (try dsimp only); (try k_cells Y'); (try simp only [List.nil_append, List.cons_append] at N'); (try k_lt l'); (try k_lift B'); (try k_fold)))
  k_steps
  rename News _ _ _ _ => kN
  exact hret _ _ _ (by k_asm) (kst_newsOf kN (by kst_inAny))

end
end Mine
/-! P8 -/
namespace Mine
section

section
open PySem.Builtin PySem.Builtin.Str PySem.Calls PySem.Spec
variable {prog : Program} {w : World} {A : Around} {E : Value → Shared → Prop} {s : Shared} {x y : PySem.Str} {t u v v2 : Tok} {i j : Int} {Q : Value → Shared → Prop}
noncomputable def toIx (n : Nat) (i : Int) : Nat := min (max 0 (if i < 0 then i + n else i)).toNat n
noncomputable def find4 (x y : PySem.Str) (i j : Int) : Int := match occurrences x y (fromIndex x.length i) (toIx x.length j) 1 with | k :: _ => (k : Int) | [] => -1
noncomputable def rfind4 (x y : PySem.Str) (i j : Int) : Int := match lastOccurrence x y (fromIndex x.length i) (toIx x.length j) with | some k => (k : Int) | none => -1
theorem gives_find4 : Gives («str.find» ⟨[.str x t, .str y u, .int i v, .int j v2], []⟩) (.int (find4 x y i j)) := by
  show Gives (match occurrences x y (fromIndex x.length i) (toIx x.length j) 1 with | k :: _ => retInt k | [] => (do rule "str.find.not-found"; retInt (-1))) _
  unfold find4
  cases occurrences x y (fromIndex x.length i) (toIx x.length j) 1 with
  | nil => exact .rule (.of_eq rfl)
  | cons k _ => exact .of_eq rfl
theorem gives_rfind4 : Gives («str.rfind» ⟨[.str x t, .str y u, .int i v, .int j v2], []⟩) (.int (rfind4 x y i j)) := by
  show Gives (match lastOccurrence x y (fromIndex x.length i) (toIx x.length j) with | some k => retInt k | none => (do rule "str.rfind.not-found"; retInt (-1))) _
  unfold rfind4
  cases lastOccurrence x y (fromIndex x.length i) (toIx x.length j) with
  | none => exact .rule (.of_eq rfl)
  | some k => exact .of_eq rfl
theorem kx_find4 (hq : Q (.int (find4 x y i j) s.toks) { s with toks := s.toks + 1 }) : wpAny (model prog w) A (call (.builtin "str.find") [.str x t, .str y u, .int i v, .int j v2]) Q E s :=
  call_gives F.slot_str_find (typeIs_str _ _ _) F.entry_str_find (F.args_str_find_4 _ _ _ _) gives_find4 hq
theorem kx_rfind4 (hq : Q (.int (rfind4 x y i j) s.toks) { s with toks := s.toks + 1 }) : wpAny (model prog w) A (call (.builtin "str.rfind") [.str x t, .str y u, .int i v, .int j v2]) Q E s :=
  call_gives F.slot_str_rfind (typeIs_str _ _ _) F.entry_str_rfind (F.args_str_rfind_4 _ _ _ _) gives_rfind4 hq
end
/-- a row of a page: k dots and an E -/
noncomputable def rowE (k : Nat) : PySem.Str := ⟨(List.replicate k 46 ++ [69]).toArray⟩
theorem row_nl : ∀ k < 17, Txt.find (rowE k) (PySem.Str.ofString "\n") = -1 := by decide +kernel
theorem row_len (k : Nat) : (rowE k).length = k + 1 := by simp [rowE, PySem.Str.length]
theorem row_colon : ∀ k < 17, find4 (rowE k) (PySem.Str.ofString ":") 0 ((k + 1 : Nat) : Int) = -1 := by decide +kernel
theorem row_dot : ∀ k < 16, rfind4 (rowE (k + 1)) (PySem.Str.ofString ".") 0 ((k + 2 : Nat) : Int) = k := by decide +kernel
theorem row_slice : ∀ k < 16, Txt.slice (rowE (k + 1)) (some ((k : Int) + 1)) (some (((rowE (k + 1)).length : Nat) : Int)) = PySem.Str.ofString "E" := by decide +kernel
section
open PySem.Builtin PySem.Builtin.Str PySem.Calls PySem.Spec
variable {prog : Program} {w : World} {A : Around} {E : Value → Shared → Prop} {s : Shared} {x y : PySem.Str} {t u v v2 : Tok} {i j : Int} {Q : Value → Shared → Prop} {k : Nat}
theorem kx_rowNl (hk : k < 16) (hq : Q (.int (-1) s.toks) { s with toks := s.toks + 1 }) : wpAny (model prog w) A (call (.builtin "str.find") [.str (rowE (k + 1)) t, .str (PySem.Str.ofString "
") u]) Q E s :=
  SC.find (by rw [row_nl _ (by lia)]; exact hq)
theorem kx_rowColon (hk : k < 16) (hq : Q (.int (-1) s.toks) { s with toks := s.toks + 1 }) : wpAny (model prog w) A (call (.builtin "str.find") [.str (rowE (k + 1)) t, .str (PySem.Str.ofString ":") u, .int 0 v, .int (rowE (k + 1)).length v2]) Q E s :=
  kx_find4 (by rw [row_len, row_colon _ (by lia)]; exact hq)
theorem kx_rowDot (hk : k < 16) (hq : Q (.int k s.toks) { s with toks := s.toks + 1 }) : wpAny (model prog w) A (call (.builtin "str.rfind") [.str (rowE (k + 1)) t, .str (PySem.Str.ofString ".") u, .int 0 v, .int (rowE (k + 1)).length v2]) Q E s :=
  kx_rfind4 (by rw [row_len, row_dot _ (by lia)]; exact hq)
end

end
end Mine
/-! V_strip -/
namespace Mine
section
theorem strip_ok {w : World} {loose : List PySem.Str} {mean : ExcName → Option Value} {mg mb : PySem.Str → Option Value}
    {dp un : Nat} {gd : Option (List Code)} {cn : PySem.Str} {cs : Scope} {a : Addr} {ccd : Value} {cl : List (PySem.Str × Addr)} {outer : List Env} {A₀ : Around} {base h₀ : Heap} {L : Addr} {m : PySem.Str → Option Value} {s : Shared} {Q E : Value → Shared → Prop} {news : List (Addr × Obj)}
    (B : Below A₀ base outer h₀) (F : Fr h₀ L s.heap m) (X : (hd.heap_1 w.params).In h₀) (N : News h₀ L s.heap news) (T : Top topProg loose mean mg mb h₀) (hk : cs.kind = .function)
    {k : Nat} {tx : Tok} (hk : k < 16) (hx : (rowE (k + 1)).length ≤ 64)
    (hd1 : dp + 1 < recursionLimit) (hu : un + 8 < cLine)
    (hret : ∀ t h1 tk1, Fr h₀ L h1 m → News h₀ L h1 news → Q (.str (PySem.Str.ofString "E") t) { s with heap := h1, toks := tk1 }) :
    wpAny (model Challenge.rw_sn0051_01.row.prog w) (ktrTop dp un gd cn cs L a ccd cl outer) (call (.ref 102) [.str (rowE (k + 1)) tx]) Q E s := by
  revert X
  k_fill
  intro X
  refine wpAny_call ?_
  k_with_none
  k_with "exec If" => refine wpAny_If ?_
  k_with "call builtin:str.find" => (k_here; first | (refine kx_rowNl (by assumption) ?_) | (refine kx_rowColon (by assumption) ?_))
  k_with "call builtin:str.rfind" => (k_here; (refine kx_rowDot (by assumption) ?_))
  first
  | (k_dflt cell_enter)
  | (k_dflt (refine' code_def ?k1 ?k2 ?k3 ?k4 ?k5 ?kA ?kF ?kK ?k6 ?k7 ?k8 ?k9 ?kB ?_ ?c2 ?c3 ?c4 ?c5; (case kA => exact rfl); (case kF => exact rfl); (case kK => assumption); (case k1 => k_asm); (case k2 => k_asm); (case k3 => k_asm); (case k4 => k_asm); (case k5 => k_asm); (case k6 => k_is); (case k7 => k_is); (case k8 => ktr_room); (case k9 => first | exact BindsTo.of_eq rfl | exact binds_K (by k_in) rfl (by k_is) rfl rfl rfl); (case c5 => decide); (case kB => exact locs rfl); (case c2 => exact rfl); (case c3 => exact rfl); (case c4 => exact rfl); k_whole; intro g' L' h' FG' F' N' B' X' T'; (try dsimp only); (try k_lift B'); (try k_fold)))
  | (k_dflt (refine' code_defC ?k1 ?k2 ?k3 ?k4 ?k5 ?kA ?kF ?kK ?k6 ?k7 ?k8 ?k9 ?kB ?kD ?_ ?c2 ?c3 ?c4; (case kA => exact rfl); (case kF => exact rfl); (case kK => assumption); (case k1 => k_asm); (case k2 => k_asm); (case k3 => k_asm); (case k4 => k_asm); (case k5 => k_asm); (case k6 => k_is); (case k7 => k_is); (case k8 => ktr_room); (case k9 => first | exact BindsTo.of_eq rfl | exact binds_K (by k_in) rfl (by k_is) rfl rfl rfl); (case kB => exact rfl); (case kD => decide); (case c2 => exact rfl); (case c3 => exact rfl); (case c4 => exact rfl); k_whole; intro g' L' h' tk' cells' FG' F' N' Y' B' X' T' l'; (try dsimp only); (try k_cells Y'); (try simp only [List.nil_append, List.cons_append] at N'); (try k_lt l'); (try k_lift B'); (try k_fold)))
  k_with "fin" =>
    first
    | (rename News _ _ _ _ => kN
       rw [row_slice _ hk]
       exact hret _ _ _ (by k_asm) (kst_newsOf kN (by kst_inAny)))
  k_with "execs cons" => ((first | (with_reducible show wpAny _ _ (execs (PySem.Stmt.For .. :: _) _) _ _ _) | (with_reducible show wpAny _ _ (execs (PySem.Stmt.While .. :: _) _) _ _ _) | (with_reducible show wpAny _ _ (execs (PySem.Stmt.If .. :: _) _) _ _ _)); (try k_gentoks); (try k_made); (with_reducible refine wpAny_execs_cons ?_); (try dsimp only); k_dflt (as_aux_lemma => (k_steps; all_goals k_extra "fin")))
  k_steps
  all_goals k_extra "fin"

end
end Mine
/-! P9 -/
namespace Mine
section

section
open PySem.Builtin
theorem andN (a b : Nat) : Builtin.bitAnd (a : Int) (b : Int) = ((a &&& b : Nat) : Int) := by
  rw [bitAnd_pp (Int.natCast_nonneg a) (Int.natCast_nonneg b), Int.toNat_natCast, Int.toNat_natCast]
theorem notnotN (x : Int) : Builtin.bitNot (Builtin.bitNot x) = x := by unfold Builtin.bitNot; lia
theorem orN (a b : Nat) : Builtin.bitOr (a : Int) (b : Int) = ((a ||| b : Nat) : Int) := by
  have ha : ¬ (0 : Int) ≤ Builtin.bitNot (a : Int) := by unfold Builtin.bitNot; lia
  have hb : ¬ (0 : Int) ≤ Builtin.bitNot (b : Int) := by unfold Builtin.bitNot; lia
  unfold Builtin.bitOr
  rw [bitAnd_nn ha hb, notnotN, notnotN, notnotN, Int.toNat_natCast, Int.toNat_natCast]
end
noncomputable def rotF (M k : Nat) : Nat := Nat.land (Nat.lor (Nat.shiftLeft M k) (Nat.shiftRight M (Nat.sub 16 k))) 65535
noncomputable def freeF (h : Nat) : Nat → Nat → Nat
  | 0, j => j
  | f + 1, j => cond (Nat.beq (Nat.land (Nat.shiftRight h j) 1) 1) (freeF h f (Nat.add j 1)) j
noncomputable def pushF (M h fr : Nat) : List Nat → List Nat → List Nat
  | [], st => st
  | p :: ps, st => pushF M h fr ps ((fun t => cond (Nat.beq (Nat.land h t) 0) (Nat.lor h t :: st) st) (rotF M (Nat.mod (Nat.sub (Nat.add fr 16) p) 16)))
/-- 0: no, 1: yes, 2: out of fuel -/
noncomputable def runF (ps : List Nat) (M : Nat) : Nat → List Nat → Nat
  | 0, _ => 2
  | _ + 1, [] => 0
  | f + 1, h :: st => cond (Nat.beq h 65535) 1 (runF ps M f (pushF M h (freeF h 16 0) ps st))
noncomputable def rotSN (m : Nat) : Nat := (m * 2 ||| m / 32768) &&& 65535
theorem rotF_eq {M k : Nat} (hM : M < 65536) (hk : k ≤ 16) : rotF M k = (M * 2 ^ k + M / 2 ^ (16 - k)) % 65536 := by
  show ((M <<< k ||| M >>> (16 - k)) &&& 65535) = _
  have hlt : M >>> (16 - k) < 2 ^ k := by
    rw [Nat.shiftRight_eq_div_pow]
    refine Nat.div_lt_of_lt_mul ?_
    rw [← Nat.pow_add, Nat.sub_add_cancel hk]
    exact hM
  rw [← Nat.shiftLeft_add_eq_or_of_lt hlt, Nat.shiftLeft_eq, Nat.shiftRight_eq_div_pow]
  exact Nat.and_two_pow_sub_one_eq_mod _ 16
theorem rotSN_eq {m : Nat} (hm : m < 65536) : rotSN m = (m * 2 + m / 32768) % 65536 := by
  have h : rotSN m = rotF m 1 := by
    show ((m * 2 ||| m / 32768) &&& 65535) = ((m <<< 1 ||| m >>> 15) &&& 65535)
    rw [Nat.shiftLeft_eq, Nat.shiftRight_eq_div_pow]
  rw [h, rotF_eq hm (by decide)]
theorem rotF_bit (M k j : Nat) : (rotF M k).testBit j = ((decide (j ≥ k) && M.testBit (j - k) || M.testBit (16 - k + j)) && decide (j < 16)) := by
  show (((M <<< k) ||| (M >>> (16 - k))) &&& (2 ^ 16 - 1)).testBit j = _
  rw [Nat.testBit_and, Nat.testBit_or, Nat.testBit_shiftLeft, Nat.testBit_shiftRight, Nat.testBit_two_pow_sub_one]
theorem rotSN_bit (m j : Nat) : (rotSN m).testBit j = ((decide (j ≥ 1) && m.testBit (j - 1) || m.testBit (15 + j)) && decide (j < 16)) := by
  have h : rotSN m = (((m <<< 1) ||| (m >>> 15)) &&& (2 ^ 16 - 1)) := by
    show ((m * 2 ||| m / 32768) &&& 65535) = _
    rw [Nat.shiftLeft_eq, Nat.shiftRight_eq_div_pow]
  rw [h, Nat.testBit_and, Nat.testBit_or, Nat.testBit_shiftLeft, Nat.testBit_shiftRight, Nat.testBit_two_pow_sub_one]
theorem rb1 : ∀ k < 16, 16 ≤ 16 - k + (15 + 0) ∧ 15 + 0 ≥ k ∧ 16 - (k + 1) + 0 = 15 + 0 - k := by decide +kernel
theorem rb2 : ∀ k < 16, ∀ i < 15, 16 - (k + 1) + (i + 1) = 16 - k + i := by decide +kernel
theorem rb3 : ∀ i < 15, ¬ (15 + (i + 1) < 16) ∧ i < 16 := by decide +kernel
theorem rotF_zero {M : Nat} (hM : M < 65536) : rotF M 0 = M := by
  rw [rotF_eq hM (by decide), Nat.pow_zero, Nat.mul_one, show 2 ^ (16 - 0) = 65536 from rfl, Nat.div_eq_of_lt hM, Nat.add_zero, Nat.mod_eq_of_lt hM]
theorem rotSN_rotF {M : Nat} (hM : M < 65536) (k : Nat) (hk : k < 16) : rotSN (rotF M k) = rotF M (k + 1) := by
  refine Nat.eq_of_testBit_eq fun i => ?_
  rw [rotSN_bit, rotF_bit, rotF_bit, rotF_bit]
  by_cases hi : i < 16
  · cases i with
    | zero =>
      have h1 : M.testBit (16 - k + (15 + 0)) = false := Nat.testBit_lt_two_pow (Nat.lt_of_lt_of_le hM (Nat.pow_le_pow_right (n := 2) (by decide) (rb1 k hk).1))
      have h2 := (rb1 k hk).2.1
      have h3 : ¬ (0 ≥ k + 1) := Nat.not_succ_le_zero k
      rw [h1, (rb1 k hk).2.2]
      simp [h2, h3]
    | succ i =>
      have hi' : i < 15 := Nat.lt_of_succ_lt_succ hi
      have h0 := (rb3 i hi').1
      have h1 : i + 1 - 1 = i := rfl
      have h2 : i + 1 - (k + 1) = i - k := Nat.succ_sub_succ i k
      have h3 := rb2 k hk i hi'
      have h4 := (rb3 i hi').2
      rw [h1, h2, h3]
      simp [h0, h4, hi]
  · simp [hi]
theorem rotF_lt {M k : Nat} (hM : M < 65536) (hk : k ≤ 16) : rotF M k < 65536 := by rw [rotF_eq hM hk]; exact Nat.mod_lt _ (by decide)
noncomputable abbrev rotS (m : Int) : Int := Builtin.bitAnd (Builtin.bitOr (m * 2 ^ Int.toNat 1) (m.fdiv (2 ^ Int.toNat 15))) 65535
noncomputable def rotN (m : Int) : Nat → Int
  | 0 => m
  | n + 1 => rotS (rotN m n)
noncomputable def rotL (m : Int) (n : Nat) : List Int := (List.range n).map (rotN m)
theorem rot_turn {m0 mask i : Int} {pre masks : List Int} (e1 : masks = rotL m0 pre.length) (e2 : mask = rotN m0 pre.length) (e3 : masks.length = pre.length) :
    masks ++ [mask] = rotL m0 (pre ++ [i]).length ∧ rotS mask = rotN m0 (pre ++ [i]).length ∧ 0 ≤ rotS mask ∧ rotS mask < 65536 ∧ (masks ++ [mask]).length = (pre ++ [i]).length := by
  have hr := bitAnd_range (Builtin.bitOr (mask * 2 ^ Int.toNat 1) (mask.fdiv (2 ^ Int.toNat 15))) (y := 65535) (by decide)
  refine ⟨?_, ?_, hr.1, Int.lt_of_le_of_lt hr.2 (by decide), by rw [List.length_append, List.length_append, e3]; rfl⟩
  · simp only [List.length_append, List.length_cons, List.length_nil, rotL, List.range_succ, List.map_append, List.map_cons, List.map_nil]
    rw [e1, e2, rotL]
  · simp only [List.length_append, List.length_cons, List.length_nil, rotN]
    rw [e2]
theorem rotS_nat (m : Nat) : rotS (m : Int) = ((rotSN m : Nat) : Int) := by
  show Builtin.bitAnd (Builtin.bitOr ((m : Int) * 2 ^ 1) ((m : Int).fdiv (2 ^ 15))) 65535 = _
  have e1 : (m : Int) * 2 ^ 1 = ((m * 2 : Nat) : Int) := by lia
  have e2 : (m : Int).fdiv (2 ^ 15) = ((m / 32768 : Nat) : Int) := by rw [Int.fdiv_eq_ediv_of_nonneg _ (by decide)]; lia
  rw [e1, e2, orN]
  exact andN _ 65535
theorem rotN_nat {M : Nat} (hM : M < 65536) : ∀ k, k ≤ 16 → rotN (M : Int) k = ((rotF M k : Nat) : Int)
  | 0, _ => by
    rw [rotF_zero hM]; rfl
  | k + 1, h => by
    show rotS (rotN (M : Int) k) = _
    rw [rotN_nat hM k (Nat.le_of_lt h), rotS_nat, rotSN_rotF hM k h]
theorem rotL_get {M : Nat} (hM : M < 65536) {i : Nat} (hi : i < 16) : (rotL (M : Int) 16).getD i 0 = ((rotF M i : Nat) : Int) := by
  rw [← rotN_nat hM i (Nat.le_of_lt hi), rotL, List.getD_eq_getElem?_getD, List.getElem?_map, List.getElem?_range hi]
  rfl
noncomputable def decN (ws : List Int) : List Nat := ws.reverse.map Int.toNat
theorem pushF_snoc (M h fr p : Nat) : ∀ (ps st : List Nat), pushF M h fr (ps ++ [p]) st = pushF M h fr [p] (pushF M h fr ps st)
  | [], _ => rfl
  | q :: ps, st => pushF_snoc M h fr p ps _
theorem turned_all : ∀ fr : Nat, fr < 17 → ∀ p : Nat, p < 16 → (Int.fmod ((fr : Int) - (p : Int)) 16).toNat = (fr + 16 - p) % 16 := by decide +kernel
theorem turned_ix {fr p : Nat} (hf : fr ≤ 16) (hp : p < 16) : (Int.fmod ((fr : Int) - (p : Int)) 16).toNat = (fr + 16 - p) % 16 := turned_all fr (Nat.lt_succ_of_le hf) p hp
theorem turned_get {M fr p : Nat} (hM : M < 65536) (hf : fr ≤ 16) (hp : p < 16) : (rotL (M : Int) 16).getD (Int.fmod ((fr : Int) - (p : Int)) 16).toNat 0 = ((rotF M ((fr + 16 - p) % 16) : Nat) : Int) := by
  rw [turned_ix hf hp]
  exact rotL_get hM (Nat.mod_lt _ (by decide))
theorem decN_snoc (ws : List Int) (x : Int) : decN (ws ++ [x]) = x.toNat :: decN ws := by simp [decN]
/-- after the places pre: the stack -/
noncomputable def PInv (M : Nat) (held free : Int) (w0 pre waiting : List Int) : Prop :=
  (∀ p ∈ pre, 0 ≤ p ∧ p < 16) → ((∀ x ∈ w0, 0 ≤ x ∧ x < 65536) → (∀ x ∈ waiting, 0 ≤ x ∧ x < 65536)) ∧ decN waiting = pushF M held.toNat free.toNat (pre.map Int.toNat) (decN w0)
theorem pinv_nil (M : Nat) (held free : Int) (w0 : List Int) : PInv M held free w0 [] w0 := fun _ => ⟨id, rfl⟩
theorem pushF_one (M h fr p : Nat) (st : List Nat) : pushF M h fr [p] st = if (h &&& rotF M ((fr + 16 - p) % 16)) = 0 then (h ||| rotF M ((fr + 16 - p) % 16)) :: st else st := by
  show cond (Nat.beq (Nat.land h (rotF M ((fr + 16 - p) % 16))) 0) _ _ = _
  by_cases e : (h &&& rotF M ((fr + 16 - p) % 16)) = 0
  · rw [if_pos e, show Nat.land h (rotF M ((fr + 16 - p) % 16)) = 0 from e]; rfl
  · rw [if_neg e, show Nat.beq (Nat.land h (rotF M ((fr + 16 - p) % 16))) 0 = false from by
      cases hb : Nat.beq (Nat.land h (rotF M ((fr + 16 - p) % 16))) 0 with
      | false => rfl
      | true => exact absurd (Nat.eq_of_beq_eq_true hb) e]
    rfl
theorem pinv_step {M h fr p : Nat} {w0 pre waiting : List Int} (hM : M < 65536) (hh : h < 65536) (hf : fr ≤ 16) (I : PInv M h fr w0 pre waiting) (hp : p < 16) :
    PInv M h fr w0 (pre ++ [(p : Int)]) (if Builtin.bitAnd (h : Int) ((rotL (M : Int) 16).getD (Int.fmod ((fr : Int) - (p : Int)) 16).toNat 0) = 0 then waiting ++ [Builtin.bitOr (h : Int) ((rotL (M : Int) 16).getD (Int.fmod ((fr : Int) - (p : Int)) 16).toNat 0)] else waiting) := by
  intro hpre
  have I' := I fun q hq => hpre q (List.mem_append_left _ hq)
  rw [turned_get hM hf hp, andN, orN]
  have hr : rotF M ((fr + 16 - p) % 16) < 65536 := rotF_lt hM (Nat.le_of_lt (Nat.mod_lt _ (by decide)))
  have e : decN (if ((h &&& rotF M ((fr + 16 - p) % 16) : Nat) : Int) = 0 then waiting ++ [((h ||| rotF M ((fr + 16 - p) % 16) : Nat) : Int)] else waiting) = pushF M h fr [p] (decN waiting) := by
    rw [pushF_one]
    by_cases z : (h &&& rotF M ((fr + 16 - p) % 16)) = 0
    · rw [if_pos (by exact_mod_cast z), if_pos z, decN_snoc, Int.toNat_natCast]
    · rw [if_neg (by exact_mod_cast z), if_neg z]
  refine ⟨fun hw x hx => ?_, ?_⟩
  · split at hx
    · rcases List.mem_append.mp hx with hx | hx
      · exact I'.1 hw x hx
      · rw [List.mem_singleton.mp hx]
        have : h ||| rotF M ((fr + 16 - p) % 16) < 2 ^ 16 := Nat.or_lt_two_pow hh hr
        exact ⟨Int.natCast_nonneg _, Int.ofNat_lt.mpr this⟩
    · exact I'.1 hw x hx
  · rw [e, I'.2, List.map_append, List.map_cons, List.map_nil, pushF_snoc, Int.toNat_natCast, Int.toNat_natCast, Int.toNat_natCast]

end
end Mine
/-! P10 -/
namespace Mine
section

/-- the fuel that the stack wants, at most 44 -/
noncomputable def needF (ps : List Nat) (M : Nat) (st : List Nat) : Nat := ((List.range 45).find? fun k => runF ps M k st != 2).getD 45
theorem needF_le {ps st : List Nat} {M k : Nat} (hk : k < 45) (h : runF ps M k st ≠ 2) : needF ps M st ≤ k ∧ runF ps M (needF ps M st) st ≠ 2 := by
  unfold needF
  cases e : (List.range 45).find? fun k => runF ps M k st != 2 with
  | none =>
    have := List.find?_eq_none.mp e k (List.mem_range.mpr hk)
    simp [h] at this
  | some j =>
    obtain ⟨h1, h2, h3⟩ := List.find?_range_eq_some.mp e
    refine ⟨Nat.le_of_not_lt fun hlt => ?_, by simpa using h1⟩
    have := h3 k hlt
    simp [h] at this
theorem runF_mono {ps : List Nat} {M : Nat} : ∀ {k j : Nat} {st : List Nat}, runF ps M k st ≠ 2 → k ≤ j → runF ps M j st = runF ps M k st
  | 0, _, _, h, _ => absurd rfl h
  | k + 1, j + 1, [], _, _ => rfl
  | k + 1, j + 1, x :: st, h, hj => by
    unfold runF at h ⊢
    cases e : Nat.beq x 65535 with
    | true => rfl
    | false =>
      rw [e] at h
      exact runF_mono h (Nat.le_of_succ_le_succ hj)
noncomputable def WInv (ps : List Nat) (M ans : Nat) (ws : List Int) : Prop :=
  (∀ x ∈ ws, 0 ≤ x ∧ x < 65536) ∧ needF ps M (decN ws) < 45 ∧ runF ps M (needF ps M (decN ws)) (decN ws) = ans ∧ ws.length + 16 * needF ps M (decN ws) ≤ 800
theorem winv_start {ps : List Nat} {M ans : Nat} (hM : M < 65536) (hr : runF ps M 44 [M] = ans) (ha : ans ≠ 2) : WInv ps M ans [(M : Int)] := by
  have e : decN [(M : Int)] = [M] := rfl
  have hn := needF_le (ps := ps) (M := M) (st := [M]) (k := 44) (by decide) (by rw [hr]; exact ha)
  refine ⟨fun x hx => ?_, ?_, ?_, ?_⟩
  · rw [List.mem_singleton.mp hx]; exact ⟨Int.natCast_nonneg _, Int.ofNat_lt.mpr hM⟩
  · rw [e]; exact Nat.lt_of_le_of_lt hn.1 (by decide)
  · rw [e, ← hr, runF_mono hn.2 hn.1]
  · rw [e]; exact Nat.le_trans (Nat.add_le_add_left (Nat.mul_le_mul_left 16 hn.1) 1) (by decide)
theorem last_split {ws : List Int} (h : ws ≠ []) : ws = ws.dropLast ++ [ws.getLastD 0] := by
  rcases List.eq_nil_or_concat ws with rfl | ⟨l, a, rfl⟩
  · exact absurd rfl h
  · simp
theorem dec_last {ws : List Int} (h : ws ≠ []) : decN ws = (ws.getLastD 0).toNat :: decN ws.dropLast := by
  have e := last_split h
  conv => lhs; rw [e]
  exact decN_snoc _ _
theorem winv_yes {ps : List Nat} {M ans : Nat} {ws : List Int} (I : WInv ps M ans ws) (ha : ans ≠ 2) (h : ws ≠ []) (hf : ws.getLastD 0 = 65535) : ans = 1 := by
  obtain ⟨_, _, h3, _⟩ := I
  rw [dec_last h, hf] at h3
  generalize needF ps M _ = k at h3
  cases k with
  | zero => exact absurd h3.symm ha
  | succ k => exact h3.symm
theorem winv_no {ps : List Nat} {M ans : Nat} (I : WInv ps M ans []) (ha : ans ≠ 2) : ans = 0 := by
  obtain ⟨_, _, h3, _⟩ := I
  generalize needF ps M _ = k at h3
  cases k with
  | zero => exact absurd h3.symm ha
  | succ k => exact h3.symm
theorem w_room {a b c d k n : Nat} (h1 : a ≤ b + c) (h2 : c ≤ 16) (h3 : b + 1 = d) (h4 : d + 16 * (k + 1) ≤ 800) (h5 : n ≤ k) : a + 16 * n ≤ 800 := by lia
theorem winv_turn {ps : List Nat} {M ans : Nat} {ws ws' ns : List Int} {held free : Int} (hps : ns.map Int.toNat = ps) (hb : ∀ p ∈ ns, 0 ≤ p ∧ p < 16) (hl : ns.length ≤ 16) (I : WInv ps M ans ws) (ha : ans ≠ 2) (h : ws ≠ []) (hh : held = ws.getLastD 0)
    (hf : ¬ held = 65535) (hfr : free.toNat = freeF held.toNat 16 0) (P : PInv M held free ws.dropLast ns ws') (hlen : ws'.length ≤ ws.dropLast.length + ns.length) :
    WInv ps M ans ws' ∧ needF ps M (decN ws') < needF ps M (decN ws) := by
  obtain ⟨h1, h2, h3, h4⟩ := I
  obtain ⟨p1, p2⟩ := P hb
  have hd : ∀ x ∈ ws.dropLast, 0 ≤ x ∧ x < 65536 := fun x hx => h1 x (List.dropLast_subset _ hx)
  have hlast : ws.getLastD 0 ∈ ws := by
    have e : ws.getLastD 0 ∈ ws.dropLast ++ [ws.getLastD 0] := List.mem_append_right _ (List.mem_singleton.mpr rfl)
    exact (congrArg (ws.getLastD 0 ∈ ·) (last_split h)).mpr e
  have hb' := h1 _ hlast
  have e0 := dec_last h
  rw [← hh] at e0 hb'
  have hn2 : runF ps M (needF ps M (decN ws)) (decN ws) ≠ 2 := by rw [h3]; exact ha
  cases ek : needF ps M (decN ws) with
  | zero => rw [ek] at hn2; exact absurd rfl hn2
  | succ k =>
    rw [ek] at h3 h4 h2 hn2
    have hrun : runF ps M k (decN ws') = ans := by
      rw [p2, hps, hfr]
      have hne : Nat.beq held.toNat 65535 = false := by
        cases hq : Nat.beq held.toNat 65535 with
        | false => rfl
        | true => exact absurd (by rw [← Int.toNat_of_nonneg hb'.1, Nat.eq_of_beq_eq_true hq]; rfl) hf
      rw [e0] at h3
      unfold runF at h3
      rw [hne] at h3
      exact h3
    have hn := needF_le (ps := ps) (M := M) (st := decN ws') (k := k) (Nat.lt_of_succ_lt h2) (by rw [hrun]; exact ha)
    have hz : ws.dropLast.length + 1 = ws.length := by
      rw [List.length_dropLast]
      exact Nat.sub_add_cancel (List.length_pos_iff.mpr h)
    exact ⟨⟨p1 hd, Nat.lt_of_le_of_lt hn.1 (Nat.lt_of_succ_lt h2), by rw [← hrun, runF_mono hn.2 hn.1], w_room hlen hl hz h4 hn.1⟩, Nat.lt_succ_of_le hn.1⟩
noncomputable def FInv (held free : Int) : Prop := freeF held.toNat (16 - free.toNat) free.toNat = freeF held.toNat 16 0
theorem finv_start (held : Int) : FInv held 0 ∧ (0 : Int) ≤ 0 ∧ (0 : Int) ≤ 16 := ⟨rfl, by decide, by decide⟩
theorem bit_nat {held free : Int} (h0 : 0 ≤ held) : Builtin.bitAnd (held.fdiv (2 ^ free.toNat)) 1 = ((Nat.land (Nat.shiftRight held.toNat free.toNat) 1 : Nat) : Int) := by
  obtain ⟨n, rfl⟩ : ∃ n : Nat, held = n := Int.eq_ofNat_of_zero_le h0
  have e : ((n : Nat) : Int).fdiv (2 ^ free.toNat) = ((n >>> free.toNat : Nat) : Int) := by
    rw [Int.fdiv_eq_ediv_of_nonneg _ (Int.le_of_lt (Int.pow_pos (by decide))), Nat.shiftRight_eq_div_pow]
    simp
  rw [e]
  exact andN _ 1
theorem sub16 : ∀ f < 16, 16 - f = (16 - (f + 1)) + 1 := by decide +kernel
theorem finv_turn {held free : Int} (h0 : 0 ≤ held) (h1 : held < 65536) (I : FInv held free) (f0 : 0 ≤ free) (f1 : free ≤ 16) (hb : Builtin.bitAnd (held.fdiv (2 ^ free.toNat)) 1 = 1) :
    FInv held (free + 1) ∧ 0 ≤ free + 1 ∧ free + 1 ≤ 16 := by
  rw [bit_nat h0] at hb
  have hb' : Nat.land (Nat.shiftRight held.toNat free.toNat) 1 = 1 := Int.ofNat_inj.mp hb
  have hlt : free.toNat < 16 := by
    refine Nat.lt_of_not_le fun hle => ?_
    have : held.toNat >>> free.toNat = 0 := by
      rw [Nat.shiftRight_eq_div_pow]
      exact Nat.div_eq_of_lt (Nat.lt_of_lt_of_le (show held.toNat < 2 ^ 16 from (Int.toNat_lt h0).mpr h1) (Nat.pow_le_pow_right (by decide) hle))
    rw [show Nat.shiftRight held.toNat free.toNat = 0 from this] at hb'
    exact absurd hb' (by decide)
  have hs : (free + 1).toNat = free.toNat + 1 := Int.toNat_add f0 (by decide)
  refine ⟨?_, Int.le_add_one f0, Int.add_one_le_of_lt ((Int.toNat_lt f0).mp hlt)⟩
  unfold FInv at I ⊢
  rw [← I, hs, sub16 _ hlt]
  show _ = cond (Nat.beq (Nat.land (Nat.shiftRight held.toNat free.toNat) 1) 1) _ _
  rw [hb']
  rfl
theorem finv_end {held free : Int} (h0 : 0 ≤ held) (I : FInv held free) (hb : ¬ Builtin.bitAnd (held.fdiv (2 ^ free.toNat)) 1 = 1) : free.toNat = freeF held.toNat 16 0 := by
  rw [bit_nat h0] at hb
  have hb' : Nat.beq (Nat.land (Nat.shiftRight held.toNat free.toNat) 1) 1 = false := by
    cases hq : Nat.beq (Nat.land (Nat.shiftRight held.toNat free.toNat) 1) 1 with
    | false => rfl
    | true => exact absurd (congrArg (fun n : Nat => (n : Int)) (Nat.eq_of_beq_eq_true hq)) hb
  unfold FInv at I
  rw [← I]
  cases e : 16 - free.toNat with
  | zero => rfl
  | succ k =>
    show _ = cond (Nat.beq (Nat.land (Nat.shiftRight held.toNat free.toNat) 1) 1) _ _
    rw [hb']
    rfl
theorem winv_first {ps : List Nat} {M ans : Nat} {S : Int} {masks : List Int} (hM : M < 65536) (hr : runF ps M 44 [M] = ans) (ha : ans ≠ 2) (hS : S = (M : Int)) (e : masks = rotL S (rangeKs 0 ((16 : Int) - 0).toNat).length) :
    WInv ps M ans [masks.getD 0 0] ∧ [masks.getD 0 0].length ≤ 800 := by
  have h : masks.getD 0 0 = (M : Int) := by
    rw [e, hS]
    show (rotL (M : Int) 16).getD 0 0 = _
    rw [rotL_get hM (by decide)]
    rw [rotF_zero hM]
  rw [h]
  exact ⟨winv_start hM hr ha, by simp⟩
theorem winv_held {ps : List Nat} {M ans : Nat} {ws : List Int} (I : WInv ps M ans ws) (h : decide (ws = []) = false) : 0 ≤ ws.getLastD 0 ∧ ws.getLastD 0 < 65536 := by
  have h' : ws ≠ [] := of_decide_eq_false h
  have e : ws.getLastD 0 ∈ ws.dropLast ++ [ws.getLastD 0] := List.mem_append_right _ (List.mem_singleton.mpr rfl)
  exact I.1 _ ((congrArg (ws.getLastD 0 ∈ ·) (last_split h')).mpr e)
/-- sealed words for the walk -/
structure Lays (ps : List Nat) (M ans : Nat) : Prop where
  lt : M < 65536
  run : runF ps M 44 [M] = ans
  fin : ans ≠ 2
structure SW (ps : List Nat) (M ans : Nat) (ws : List Int) : Prop where
  w : WInv ps M ans ws
structure SF (held free : Int) : Prop where
  f : FInv held free
structure SP (M : Nat) (held free : Int) (w0 pre waiting : List Int) : Prop where
  p : PInv M held free w0 pre waiting

end
end Mine
/-! P11 -/
namespace Mine
section

theorem sw_first {ps : List Nat} {M ans : Nat} {S : Int} {masks : List Int} (G : Lays ps M ans) (hS : S = (M : Int)) (e : masks = rotL S (rangeKs 0 ((16 : Int) - 0).toNat).length) :
    SW ps M ans [masks.getD 0 0] ∧ [masks.getD 0 0].length ≤ 800 :=
  ⟨⟨(winv_first G.lt G.run G.fin hS e).1⟩, (winv_first G.lt G.run G.fin hS e).2⟩
theorem sf_start (held : Int) : SF held 0 ∧ (0 : Int) ≤ 0 ∧ (0 : Int) ≤ 16 := ⟨⟨(finv_start held).1⟩, (finv_start held).2⟩
theorem sw_held {ps : List Nat} {M ans : Nat} {ws : List Int} (I : SW ps M ans ws) (h : decide (ws = []) = false) : 0 ≤ ws.getLastD 0 ∧ ws.getLastD 0 < 65536 := winv_held I.w h
theorem sf_turn {ps : List Nat} {M ans : Nat} {ws : List Int} {free : Int} (I : SW ps M ans ws) (h : decide (ws = []) = false) (J : SF (ws.getLastD 0) free) (f0 : 0 ≤ free) (f1 : free ≤ 16) (hb : Builtin.bitAnd ((ws.getLastD 0).fdiv (2 ^ free.toNat)) 1 = 1) :
    SF (ws.getLastD 0) (free + 1) ∧ 0 ≤ free + 1 ∧ free + 1 ≤ 16 :=
  have q := finv_turn (sw_held I h).1 (sw_held I h).2 J.f f0 f1 hb
  ⟨⟨q.1⟩, q.2⟩
theorem sp_nil (M : Nat) (held free : Int) (w0 : List Int) : SP M held free w0 [] w0 ∧ w0.length ≤ w0.length + ([] : List Int).length := ⟨⟨pinv_nil _ _ _ _⟩, Nat.le_refl _⟩
theorem sp_step {ps : List Nat} {M ans : Nat} {S held free p : Int} {ms w0 pre waiting : List Int} (G : Lays ps M ans) (hS : S = (M : Int)) (e : ms = rotL S (rangeKs 0 ((16 : Int) - 0).toNat).length)
    (hh : 0 ≤ held ∧ held < 65536) (f0 : 0 ≤ free) (f1 : free ≤ 16) (hp : 0 ≤ p ∧ p < 16) (I : SP M held free w0 pre waiting) :
    SP M held free w0 (pre ++ [p]) (if Builtin.bitAnd held (ms.getD (Int.fmod (free - p) 16).toNat 0) = 0 then waiting ++ [Builtin.bitOr held (ms.getD (Int.fmod (free - p) 16).toNat 0)] else waiting) := by
  refine ⟨?_⟩
  have e' : ms = rotL (M : Int) 16 := by rw [e, hS]; rfl
  obtain ⟨h, rfl⟩ : ∃ n : Nat, held = n := ⟨held.toNat, by lia⟩
  obtain ⟨fr, rfl⟩ : ∃ n : Nat, free = n := ⟨free.toNat, by lia⟩
  obtain ⟨q, rfl⟩ : ∃ n : Nat, p = n := ⟨p.toNat, by lia⟩
  rw [e']
  exact pinv_step G.lt (by lia) (by lia) I.p (by lia)
theorem sp_yes {ps : List Nat} {M ans : Nat} {S held free p : Int} {ms w0 pre waiting : List Int} (G : Lays ps M ans) (hS : S = (M : Int)) (e : ms = rotL S (rangeKs 0 ((16 : Int) - 0).toNat).length)
    (hh : 0 ≤ held ∧ held < 65536) (f0 : 0 ≤ free) (f1 : free ≤ 16) (hp : 0 ≤ p ∧ p < 16) (I : SP M held free w0 pre waiting) (hl : waiting.length ≤ w0.length + pre.length) (z : Builtin.bitAnd held (ms.getD (Int.fmod (free - p) 16).toNat 0) = 0) :
    SP M held free w0 (pre ++ [p]) (waiting ++ [Builtin.bitOr held (ms.getD (Int.fmod (free - p) 16).toNat 0)]) ∧ (waiting ++ [Builtin.bitOr held (ms.getD (Int.fmod (free - p) 16).toNat 0)]).length ≤ w0.length + (pre ++ [p]).length := by
  have q := sp_step G hS e hh f0 f1 hp I
  rw [if_pos z] at q
  refine ⟨q, ?_⟩
  simp only [List.length_append, List.length_cons, List.length_nil]
  lia
theorem sp_no {ps : List Nat} {M ans : Nat} {S held free p : Int} {ms w0 pre waiting : List Int} (G : Lays ps M ans) (hS : S = (M : Int)) (e : ms = rotL S (rangeKs 0 ((16 : Int) - 0).toNat).length)
    (hh : 0 ≤ held ∧ held < 65536) (f0 : 0 ≤ free) (f1 : free ≤ 16) (hp : 0 ≤ p ∧ p < 16) (I : SP M held free w0 pre waiting) (hl : waiting.length ≤ w0.length + pre.length) (z : ¬ Builtin.bitAnd held (ms.getD (Int.fmod (free - p) 16).toNat 0) = 0) :
    SP M held free w0 (pre ++ [p]) waiting ∧ waiting.length ≤ w0.length + (pre ++ [p]).length := by
  have q := sp_step G hS e hh f0 f1 hp I
  rw [if_neg z] at q
  refine ⟨q, ?_⟩
  simp only [List.length_append, List.length_cons, List.length_nil]
  lia
noncomputable def mW (ps : List Nat) (M : Nat) (ws : List Int) : Nat := needF ps M (decN ws)
theorem sw_turn {ps : List Nat} {M ans : Nat} {ws ws' ns : List Int} {free : Int} (G : Lays ps M ans) (hps : ns.map Int.toNat = ps) (hb : ∀ p ∈ ns, 0 ≤ p ∧ p < 16) (hl : ns.length ≤ 16) (I : SW ps M ans ws) (h : decide (ws = []) = false)
    (hf : ¬ ws.getLastD 0 = 65535) (J : SF (ws.getLastD 0) free) (hn : ¬ Builtin.bitAnd ((ws.getLastD 0).fdiv (2 ^ free.toNat)) 1 = 1) (P : SP M (ws.getLastD 0) free ws.dropLast ns ws') (hlen : ws'.length ≤ ws.dropLast.length + ns.length) :
    SW ps M ans ws' ∧ mW ps M ws' < mW ps M ws ∧ ws'.length ≤ 800 := by
  have q := winv_turn hps hb hl I.w G.fin (of_decide_eq_false h) rfl hf (finv_end (sw_held I h).1 J.f hn) P.p hlen
  have h4 := q.1.2.2.2
  exact ⟨⟨q.1⟩, q.2, by lia⟩
theorem sw_yes {ps : List Nat} {M ans : Nat} {ws : List Int} (G : Lays ps M ans) (I : SW ps M ans ws) (h : decide (ws = []) = false) (hf : ws.getLastD 0 = 65535) : ans = 1 := winv_yes I.w G.fin (of_decide_eq_false h) hf
theorem sw_no {ps : List Nat} {M ans : Nat} {ws : List Int} (G : Lays ps M ans) (I : SW ps M ans ws) (h : decide (ws = []) = true) : ans = 0 := by
  rw [of_decide_eq_true h] at I
  exact winv_no I.w G.fin
theorem free_meas {free : Int} (f0 : 0 ≤ free) (f1 : free + 1 ≤ 16) : (17 - (free + 1)).toNat < (17 - free).toNat := by lia
theorem app_room {us : List Value} {l w0 pre : List Int} (h : IntsAre us l) (e : l.length ≤ w0.length + pre.length) (a : w0.length ≤ 800) (b : pre.length ≤ 16) : us.length ≤ 820 := by
  have := h.length
  lia

end
end Mine
/-! V_lay -/
namespace Mine
section
section
open PySem.Calls
variable {prog : Program} {w : World} {A : Around} {E : Value → Shared → Prop} {s : Shared}
theorem fm16 (x : Int) : 0 ≤ x.fmod 16 ∧ x.fmod 16 < 16 := ⟨Int.fmod_nonneg_of_pos _ (by decide), Int.fmod_lt_of_pos _ (by decide)⟩
theorem kx_sub16 {value slice : PySem.Expr} {l : Addr} {vs : List Value} {ns : List Int} {x : Int} {u : Tok} {Q : Value → Shared → Prop} (hl : s.heap.IsList l vs.toArray) (hi : IntsAre vs ns) (hn : ns.length = (rangeKs 0 ((16 : Int) - 0).toNat).length)
    (h : ∀ t, Q (.int (ns.getD (x.fmod 16).toNat 0) t) s)
    (hs : subscripted slice false (.ref l) (.int (x.fmod 16) u) = operate [.ref l, .int (x.fmod 16) u] (getItem (.ref l) (.int (x.fmod 16) u)) := by with_unfolding_all rfl) :
    wpAny (model prog w) A (subscriptTail value slice (.ref l) (.int (x.fmod 16) u)) Q E s :=
  item_list_intsR hl hi (fm16 x).1 (by rw [hn]; exact (fm16 x).2) (by have := (fm16 x).2; omega) h hs
theorem kx_sub0 {value slice : PySem.Expr} {l : Addr} {vs : List Value} {ns : List Int} {u : Tok} {Q : Value → Shared → Prop} (hl : s.heap.IsList l vs.toArray) (hi : IntsAre vs ns) (hn : ns.length = (rangeKs 0 ((16 : Int) - 0).toNat).length)
    (h : ∀ t, Q (.int (ns.getD 0 0) t) s)
    (hs : subscripted slice false (.ref l) (.int 0 u) = operate [.ref l, .int 0 u] (getItem (.ref l) (.int 0 u)) := by with_unfolding_all rfl) :
    wpAny (model prog w) A (subscriptTail value slice (.ref l) (.int 0 u)) Q E s :=
  item_list_intsR hl hi (by decide) (by rw [hn]; decide) (by decide) h hs
end
theorem pop_ne {us : List Value} {l : List Int} (h : IntsAre us l) (e : decide (l = []) = false) : 0 < us.length := by
  cases h with
  | nil => simp at e
  | cons _ _ _ => exact Nat.succ_pos _
theorem app_room2 {us : List Value} {l w pre ns post : List Int} (h : IntsAre us l) (e : l.length ≤ w.dropLast.length + pre.length) (a : w.length ≤ 800) (k : ns.length = pre.length + (post.length + 1)) (b : ns.length ≤ 16) : us.toArray.size ≤ PySem.sizeLine := by
  rw [PySem.sizeLine_eq]
  have := h.length
  have := List.length_dropLast (xs := w)
  simp only [List.size_toArray]
  omega
theorem pop_room {us : List Value} {l : List Int} (h : IntsAre us l) (e : l.length ≤ 800) : us.length ≤ PySem.sizeLine := by
  rw [PySem.sizeLine_eq]
  have := h.length
  omega
theorem lay_ok {w : World} {loose : List PySem.Str} {mean : ExcName → Option Value} {mg mb : PySem.Str → Option Value}
    {dp un : Nat} {gd : Option (List Code)} {cn : PySem.Str} {cs : Scope} {a : Addr} {ccd : Value} {cl : List (PySem.Str × Addr)} {outer : List Env} {A₀ : Around} {base h₀ : Heap} {L : Addr} {m : PySem.Str → Option Value} {s : Shared} {Q E : Value → Shared → Prop} {news : List (Addr × Obj)}
    (B : Below A₀ base outer h₀) (F : Fr h₀ L s.heap m) (X : (hd.heap_1 w.params).In h₀) (N : News h₀ L s.heap news) (T : Top topProg loose mean mg mb h₀) (hk : cs.kind = .function)
    {l : Addr} {vs : List Value} {ns : List Int} {nn : Nat} (hi : IntsAre vs ns) (N0 : News h₀ L s.heap ((l, W.listOf vs.toArray nn) :: news)) (hlen : ns.length ≤ 16) (hpos : 0 < ns.length) (hb : ∀ x ∈ ns, 0 ≤ x ∧ x < 16) {ps : List Nat} {M ans : Nat} (hps : ns.map Int.toNat = ps) (hS : (ns.map fun k => (1 : Int) * 2 ^ k.toNat).sum = (M : Int)) (G : Lays ps M ans) (h16 : (16 : Int).fmod (ns.length : Int) ≠ 0 → ans = 0)
    (hd1 : dp + 2 < recursionLimit) (hu : un + 128 < cLine)
    (hret : ∀ h1 tk1, Fr h₀ L h1 m → News h₀ L h1 ((l, W.listOf vs.toArray nn) :: news) → Q (.bool (decide (ans = 1))) { s with heap := h1, toks := tk1 }) :
    wpAny (model Challenge.rw_sn0051_01.row.prog w) (ktrTop dp un gd cn cs L a ccd cl outer) (call (.ref 136) [.ref l]) Q E s := by
  revert X
  k_fill
  intro X
  refine wpAny_call ?_
  k_with_none
  k_with "k_ne" => (refine neN ?_; (try dsimp only); first | with_reducible assumption | (refine Nat.ne_of_lt ?_; first | with_reducible assumption | exact And.left (by with_reducible assumption) | exact And.left (And.right (by with_reducible assumption)) | exact And.right (by with_reducible assumption) | exact And.left (And.right (And.right (by with_reducible assumption))) | exact And.right (And.right (by with_reducible assumption)) | exact And.left (And.right (And.right (And.right (by with_reducible assumption)))) | exact And.right (And.right (And.right (by with_reducible assumption))) | exact And.left (And.right (And.right (And.right (And.right (by with_reducible assumption))))) | exact And.right (And.right (And.right (And.right (by with_reducible assumption)))) | exact And.left (And.right (And.right (And.right (And.right (And.right (by with_reducible assumption)))))) | exact And.right (And.right (And.right (And.right (And.right (by with_reducible assumption))))) | exact And.left (And.right (And.right (And.right (And.right (And.right (And.right (by with_reducible assumption))))))) | exact And.right (And.right (And.right (And.right (And.right (And.right (by with_reducible assumption)))))) | exact And.left (And.right (And.right (And.right (And.right (And.right (And.right (And.right (by with_reducible assumption)))))))) | exact And.right (And.right (And.right (And.right (And.right (And.right (And.right (by with_reducible assumption))))))) | exact And.left (And.right (And.right (And.right (And.right (And.right (And.right (And.right (And.right (by with_reducible assumption))))))))) | exact And.right (And.right (And.right (And.right (And.right (And.right (And.right (And.right (by with_reducible assumption)))))))) | exact And.left (And.right (And.right (And.right (And.right (And.right (And.right (And.right (And.right (And.right (by with_reducible assumption)))))))))) | exact And.right (And.right (And.right (And.right (And.right (And.right (And.right (And.right (And.right (by with_reducible assumption))))))))) | exact And.left (And.right (And.right (And.right (And.right (And.right (And.right (And.right (And.right (And.right (And.right (by with_reducible assumption))))))))))) | exact And.right (And.right (And.right (And.right (And.right (And.right (And.right (And.right (And.right (And.right (by with_reducible assumption)))))))))) | exact And.left (And.right (And.right (And.right (And.right (And.right (And.right (And.right (And.right (And.right (And.right (And.right (by with_reducible assumption)))))))))))) | exact And.right (And.right (And.right (And.right (And.right (And.right (And.right (And.right (And.right (And.right (And.right (by with_reducible assumption))))))))))) | exact And.left (And.right (And.right (And.right (And.right (And.right (And.right (And.right (And.right (And.right (And.right (And.right (And.right (by with_reducible assumption))))))))))))) | exact And.right (And.right (And.right (And.right (And.right (And.right (And.right (And.right (And.right (And.right (And.right (And.right (by with_reducible assumption)))))))))))) | exact And.left (And.right (And.right (And.right (And.right (And.right (And.right (And.right (And.right (And.right (And.right (And.right (And.right (And.right (by with_reducible assumption)))))))))))))) | exact And.right (And.right (And.right (And.right (And.right (And.right (And.right (And.right (And.right (And.right (And.right (And.right (And.right (by with_reducible assumption))))))))))))) | exact And.left (And.right (And.right (And.right (And.right (And.right (And.right (And.right (And.right (And.right (And.right (And.right (And.right (And.right (And.right (by with_reducible assumption))))))))))))))) | exact And.right (And.right (And.right (And.right (And.right (And.right (And.right (And.right (And.right (And.right (And.right (And.right (And.right (And.right (by with_reducible assumption))))))))))))))) | (refine Nat.ne_of_gt ?_; first | with_reducible assumption | exact And.left (by with_reducible assumption) | exact And.left (And.right (by with_reducible assumption)) | exact And.right (by with_reducible assumption) | exact And.left (And.right (And.right (by with_reducible assumption))) | exact And.right (And.right (by with_reducible assumption)) | exact And.left (And.right (And.right (And.right (by with_reducible assumption)))) | exact And.right (And.right (And.right (by with_reducible assumption))) | exact And.left (And.right (And.right (And.right (And.right (by with_reducible assumption))))) | exact And.right (And.right (And.right (And.right (by with_reducible assumption)))) | exact And.left (And.right (And.right (And.right (And.right (And.right (by with_reducible assumption)))))) | exact And.right (And.right (And.right (And.right (And.right (by with_reducible assumption))))) | exact And.left (And.right (And.right (And.right (And.right (And.right (And.right (by with_reducible assumption))))))) | exact And.right (And.right (And.right (And.right (And.right (And.right (by with_reducible assumption)))))) | exact And.left (And.right (And.right (And.right (And.right (And.right (And.right (And.right (by with_reducible assumption)))))))) | exact And.right (And.right (And.right (And.right (And.right (And.right (And.right (by with_reducible assumption))))))) | exact And.left (And.right (And.right (And.right (And.right (And.right (And.right (And.right (And.right (by with_reducible assumption))))))))) | exact And.right (And.right (And.right (And.right (And.right (And.right (And.right (And.right (by with_reducible assumption)))))))) | exact And.left (And.right (And.right (And.right (And.right (And.right (And.right (And.right (And.right (And.right (by with_reducible assumption)))))))))) | exact And.right (And.right (And.right (And.right (And.right (And.right (And.right (And.right (And.right (by with_reducible assumption))))))))) | exact And.left (And.right (And.right (And.right (And.right (And.right (And.right (And.right (And.right (And.right (And.right (by with_reducible assumption))))))))))) | exact And.right (And.right (And.right (And.right (And.right (And.right (And.right (And.right (And.right (And.right (by with_reducible assumption)))))))))) | exact And.left (And.right (And.right (And.right (And.right (And.right (And.right (And.right (And.right (And.right (And.right (And.right (by with_reducible assumption)))))))))))) | exact And.right (And.right (And.right (And.right (And.right (And.right (And.right (And.right (And.right (And.right (And.right (by with_reducible assumption))))))))))) | exact And.left (And.right (And.right (And.right (And.right (And.right (And.right (And.right (And.right (And.right (And.right (And.right (And.right (by with_reducible assumption))))))))))))) | exact And.right (And.right (And.right (And.right (And.right (And.right (And.right (And.right (And.right (And.right (And.right (And.right (by with_reducible assumption)))))))))))) | exact And.left (And.right (And.right (And.right (And.right (And.right (And.right (And.right (And.right (And.right (And.right (And.right (And.right (And.right (by with_reducible assumption)))))))))))))) | exact And.right (And.right (And.right (And.right (And.right (And.right (And.right (And.right (And.right (And.right (And.right (And.right (And.right (by with_reducible assumption))))))))))))) | exact And.left (And.right (And.right (And.right (And.right (And.right (And.right (And.right (And.right (And.right (And.right (And.right (And.right (And.right (And.right (by with_reducible assumption))))))))))))))) | exact And.right (And.right (And.right (And.right (And.right (And.right (And.right (And.right (And.right (And.right (And.right (And.right (And.right (And.right (by with_reducible assumption))))))))))))))) | (first | with_reducible assumption | exact And.left (by with_reducible assumption) | exact And.left (And.right (by with_reducible assumption)) | exact And.right (by with_reducible assumption) | exact And.left (And.right (And.right (by with_reducible assumption))) | exact And.right (And.right (by with_reducible assumption)) | exact And.left (And.right (And.right (And.right (by with_reducible assumption)))) | exact And.right (And.right (And.right (by with_reducible assumption))) | exact And.left (And.right (And.right (And.right (And.right (by with_reducible assumption))))) | exact And.right (And.right (And.right (And.right (by with_reducible assumption)))) | exact And.left (And.right (And.right (And.right (And.right (And.right (by with_reducible assumption)))))) | exact And.right (And.right (And.right (And.right (And.right (by with_reducible assumption))))) | exact And.left (And.right (And.right (And.right (And.right (And.right (And.right (by with_reducible assumption))))))) | exact And.right (And.right (And.right (And.right (And.right (And.right (by with_reducible assumption)))))) | exact And.left (And.right (And.right (And.right (And.right (And.right (And.right (And.right (by with_reducible assumption)))))))) | exact And.right (And.right (And.right (And.right (And.right (And.right (And.right (by with_reducible assumption))))))) | exact And.left (And.right (And.right (And.right (And.right (And.right (And.right (And.right (And.right (by with_reducible assumption))))))))) | exact And.right (And.right (And.right (And.right (And.right (And.right (And.right (And.right (by with_reducible assumption)))))))) | exact And.left (And.right (And.right (And.right (And.right (And.right (And.right (And.right (And.right (And.right (by with_reducible assumption)))))))))) | exact And.right (And.right (And.right (And.right (And.right (And.right (And.right (And.right (And.right (by with_reducible assumption))))))))) | exact And.left (And.right (And.right (And.right (And.right (And.right (And.right (And.right (And.right (And.right (And.right (by with_reducible assumption))))))))))) | exact And.right (And.right (And.right (And.right (And.right (And.right (And.right (And.right (And.right (And.right (by with_reducible assumption)))))))))) | exact And.left (And.right (And.right (And.right (And.right (And.right (And.right (And.right (And.right (And.right (And.right (And.right (by with_reducible assumption)))))))))))) | exact And.right (And.right (And.right (And.right (And.right (And.right (And.right (And.right (And.right (And.right (And.right (by with_reducible assumption))))))))))) | exact And.left (And.right (And.right (And.right (And.right (And.right (And.right (And.right (And.right (And.right (And.right (And.right (And.right (by with_reducible assumption))))))))))))) | exact And.right (And.right (And.right (And.right (And.right (And.right (And.right (And.right (And.right (And.right (And.right (And.right (by with_reducible assumption)))))))))))) | exact And.left (And.right (And.right (And.right (And.right (And.right (And.right (And.right (And.right (And.right (And.right (And.right (And.right (And.right (by with_reducible assumption)))))))))))))) | exact And.right (And.right (And.right (And.right (And.right (And.right (And.right (And.right (And.right (And.right (And.right (And.right (And.right (by with_reducible assumption))))))))))))) | exact And.left (And.right (And.right (And.right (And.right (And.right (And.right (And.right (And.right (And.right (And.right (And.right (And.right (And.right (And.right (by with_reducible assumption))))))))))))))) | exact And.right (And.right (And.right (And.right (And.right (And.right (And.right (And.right (And.right (And.right (And.right (And.right (And.right (And.right (by with_reducible assumption))))))))))))))) | (refine Ne.symm ?_; first | with_reducible assumption | exact And.left (by with_reducible assumption) | exact And.left (And.right (by with_reducible assumption)) | exact And.right (by with_reducible assumption) | exact And.left (And.right (And.right (by with_reducible assumption))) | exact And.right (And.right (by with_reducible assumption)) | exact And.left (And.right (And.right (And.right (by with_reducible assumption)))) | exact And.right (And.right (And.right (by with_reducible assumption))) | exact And.left (And.right (And.right (And.right (And.right (by with_reducible assumption))))) | exact And.right (And.right (And.right (And.right (by with_reducible assumption)))) | exact And.left (And.right (And.right (And.right (And.right (And.right (by with_reducible assumption)))))) | exact And.right (And.right (And.right (And.right (And.right (by with_reducible assumption))))) | exact And.left (And.right (And.right (And.right (And.right (And.right (And.right (by with_reducible assumption))))))) | exact And.right (And.right (And.right (And.right (And.right (And.right (by with_reducible assumption)))))) | exact And.left (And.right (And.right (And.right (And.right (And.right (And.right (And.right (by with_reducible assumption)))))))) | exact And.right (And.right (And.right (And.right (And.right (And.right (And.right (by with_reducible assumption))))))) | exact And.left (And.right (And.right (And.right (And.right (And.right (And.right (And.right (And.right (by with_reducible assumption))))))))) | exact And.right (And.right (And.right (And.right (And.right (And.right (And.right (And.right (by with_reducible assumption)))))))) | exact And.left (And.right (And.right (And.right (And.right (And.right (And.right (And.right (And.right (And.right (by with_reducible assumption)))))))))) | exact And.right (And.right (And.right (And.right (And.right (And.right (And.right (And.right (And.right (by with_reducible assumption))))))))) | exact And.left (And.right (And.right (And.right (And.right (And.right (And.right (And.right (And.right (And.right (And.right (by with_reducible assumption))))))))))) | exact And.right (And.right (And.right (And.right (And.right (And.right (And.right (And.right (And.right (And.right (by with_reducible assumption)))))))))) | exact And.left (And.right (And.right (And.right (And.right (And.right (And.right (And.right (And.right (And.right (And.right (And.right (by with_reducible assumption)))))))))))) | exact And.right (And.right (And.right (And.right (And.right (And.right (And.right (And.right (And.right (And.right (And.right (by with_reducible assumption))))))))))) | exact And.left (And.right (And.right (And.right (And.right (And.right (And.right (And.right (And.right (And.right (And.right (And.right (And.right (by with_reducible assumption))))))))))))) | exact And.right (And.right (And.right (And.right (And.right (And.right (And.right (And.right (And.right (And.right (And.right (And.right (by with_reducible assumption)))))))))))) | exact And.left (And.right (And.right (And.right (And.right (And.right (And.right (And.right (And.right (And.right (And.right (And.right (And.right (And.right (by with_reducible assumption)))))))))))))) | exact And.right (And.right (And.right (And.right (And.right (And.right (And.right (And.right (And.right (And.right (And.right (And.right (And.right (by with_reducible assumption))))))))))))) | exact And.left (And.right (And.right (And.right (And.right (And.right (And.right (And.right (And.right (And.right (And.right (And.right (And.right (And.right (And.right (by with_reducible assumption))))))))))))))) | exact And.right (And.right (And.right (And.right (And.right (And.right (And.right (And.right (And.right (And.right (And.right (And.right (And.right (And.right (by with_reducible assumption))))))))))))))) | omega)
  k_with "binaryOp LShift int int" => k_extra "shl"
  k_with "CompSrc" => k_extra "cs"
  k_with "eval ListComp" => (k_here; k_dflt (refine LCg.ListComp_U (F₀ := by k_asm) (by with_unfolding_all rfl) (by decide) (by rfl) (by decide) (by rfl) ?_))
  k_with "binaryOp RShift int int" => (k_here; refine rshift_int (by first | decide | omega | exact And.left (And.right (by assumption))) ?_)
  k_with "call builtin:list.pop" => (k_here; (with_reducible show wpAny _ _ (call (Value.builtin _) [Value.ref _]) _ _ _); k_dflt (refine' kpa_pop ?x4qF ?x4qN ?x4qU ?x4qi ?x4ql ?x4qz ?_; (case x4qF => k_asm); (case x4qN => k_asm); (case x4qU => k_upd); (case x4qi => with_reducible assumption); (case x4ql => exact pop_ne (by with_reducible assumption) (by with_reducible assumption)); (case x4qz => exact pop_room (by with_reducible assumption) (by with_reducible assumption))); intro h' t' F' N' hI'; (try dsimp only [List.nil_append, List.cons_append] at N'))
  k_with "call builtin:list.append" => (k_here; (with_reducible show wpAny _ _ (call (Value.builtin _) [Value.ref _, _]) _ _ _); k_dflt (refine' append_K ?x5qk1 ?x5qk2 ?x5qk3 ?_ ?x5qz; (case x5qk1 => k_asm); (case x5qk2 => k_asm); (case x5qk3 => k_upd); (case x5qz => first | exact app_room2 (by with_reducible assumption) (by with_reducible assumption) (by with_reducible assumption) (by with_reducible assumption) (by with_reducible assumption) | size_fits); k_whole); intro h' F' N'; (try k_sweep))
  k_with "subscriptTail Name Constant ref int" => (k_here; (refine' kx_sub0 ?x6ql ?x6qi ?x6qn ?_ ?x6qhs; (case x6ql => is_list); (case x6qi => assumption); (case x6qn => with_reducible assumption); (case x6qhs => with_unfolding_all rfl); intro _))
  k_with "subscriptTail Name BinOp ref int" => (k_here; (refine' kx_sub16 ?x7ql ?x7qi ?x7qn ?_ ?x7qhs; (case x7ql => is_list); (case x7qi => assumption); (case x7qn => with_reducible assumption); (case x7qhs => with_unfolding_all rfl); intro _))
  k_with "cs" => ((try kcf_lens); k_dflt (refine LCg.CompSrc.ledger (by rfl) (by k_asm) (by k_asm) (by k_mem) (by kcf_size) ?_; intro g'; (refine' kcf_list (fun k => 1 * 2 ^ k.toNat) (by assumption) (fun k' t' I' oI' C' oC' D' m' ys' h' tk' E' hk' hC' hx' F' N' off' ne' hMark' => ?_) ?_); (all_goals (try (simp only [LCg.Off3, and_true] at off'))); kcf_last))
  k_with "shl" => (have hb9 := hb _ (by assumption); refine lshift_int (by omega) (by have h1 : Builtin.Int.intBits 1 ≤ 1 := PyProof.Rows.intBits_le (by decide); omega) ?_)
  k_with "state" => exact ⟨rfl, rfl, by rw [hS]; omega, by rw [hS]; have := G.lt; omega, rfl⟩
  k_with "state" => exact sw_first G hS (by assumption)
  k_with "state" => exact sf_start _
  k_with "state" => exact sp_nil _ _ _ _
  k_with "state" => exact sf_turn (by assumption) (by assumption) (by assumption) (by assumption) (by assumption) (by assumption)
  k_with "state" => exact rot_turn (by assumption) (by assumption) (by assumption)
  k_with "state" => exact sp_yes G hS (by assumption) (sw_held (by assumption) (by assumption)) (by assumption) (by assumption) (hb _ (by assumption)) (by assumption) (by assumption) (by assumption)
  k_with "state" => exact sp_no G hS (by assumption) (sw_held (by assumption) (by assumption)) (by assumption) (by assumption) (hb _ (by assumption)) (by assumption) (by assumption) (by assumption)
  k_with "state" => exact ⟨(sw_turn G hps hb hlen (by assumption) (by assumption) (by assumption) (by assumption) (by assumption) (by assumption) (by assumption)).1, (sw_turn G hps hb hlen (by assumption) (by assumption) (by assumption) (by assumption) (by assumption) (by assumption) (by assumption)).2.2⟩
  k_with "measure" => exact free_meas (by assumption) (by omega)
  k_with "measure" => exact (sw_turn G hps hb hlen (by assumption) (by assumption) (by assumption) (by assumption) (by assumption) (by assumption) (by assumption)).2.1
  k_with "pyIter ref" => (k_of "turn" => k_state_given ["mask!"] (fun m0 pre masks mask => masks = rotL m0 pre.length ∧ mask = rotN m0 pre.length ∧ 0 ≤ mask ∧ mask < 65536 ∧ masks.length = pre.length) "masks" "mask")
  k_with "pyIter ref" => (k_of "place" => k_state_given ["masks", "held", "free", "waiting!"] (fun masks held free w0 pre waiting => SP M held free w0 pre waiting ∧ waiting.length ≤ w0.length + pre.length) "waiting")
  k_with "exec While Compare cons nil" => k_while_given ["masks"] (fun masks script waiting => SW ps M ans waiting ∧ waiting.length ≤ 800) (fun masks script waiting => mW ps M waiting) "waiting"
  k_with "exec While Compare cons nil" => k_while_given ["held"] (fun held script free => SF held free ∧ 0 ≤ free ∧ free ≤ 16) (fun held script free => (17 - free).toNat) "free"
  first
  | (k_dflt cell_enter)
  | (k_dflt (refine' code_def ?k1 ?k2 ?k3 ?k4 ?k5 ?kA ?kF ?kK ?k6 ?k7 ?k8 ?k9 ?kB ?_ ?c2 ?c3 ?c4 ?c5; (case kA => exact rfl); (case kF => exact rfl); (case kK => assumption); (case k1 => k_asm); (case k2 => k_asm); (case k3 => k_asm); (case k4 => k_asm); (case k5 => k_asm); (case k6 => k_is); (case k7 => k_is); (case k8 => ktr_room); (case k9 => first | exact BindsTo.of_eq rfl | exact binds_K (by k_in) rfl (by k_is) rfl rfl rfl); (case c5 => decide); (case kB => exact locs rfl); (case c2 => exact rfl); (case c3 => exact rfl); (case c4 => exact rfl); k_whole; intro g' L' h' FG' F' N' B' X' T'; (try dsimp only); (try k_lift B'); (try k_fold)))
  | (k_dflt (refine' code_defC ?k1 ?k2 ?k3 ?k4 ?k5 ?kA ?kF ?kK ?k6 ?k7 ?k8 ?k9 ?kB ?kD ?_ ?c2 ?c3 ?c4; (case kA => exact rfl); (case kF => exact rfl); (case kK => assumption); (case k1 => k_asm); (case k2 => k_asm); (case k3 => k_asm); (case k4 => k_asm); (case k5 => k_asm); (case k6 => k_is); (case k7 => k_is); (case k8 => ktr_room); (case k9 => first | exact BindsTo.of_eq rfl | exact binds_K (by k_in) rfl (by k_is) rfl rfl rfl); (case kB => exact rfl); (case kD => decide); (case c2 => exact rfl); (case c3 => exact rfl); (case c4 => exact rfl); k_whole; intro g' L' h' tk' cells' FG' F' N' Y' B' X' T' l'; (try dsimp only); (try k_cells Y'); (try simp only [List.nil_append, List.cons_append] at N'); (try k_lt l'); (try k_lift B'); (try k_fold)))
  k_with "fin" =>
    first
    | (rename News _ _ _ _ => kN
       have e9 : decide (ans = 1) = false := by rw [h16 (by assumption)]; rfl
       rw [← e9]
       exact hret _ _ (by k_asm) (kst_newsOf kN (by kst_inAny)))
    | (rename News _ _ _ _ => kN
       have e9 : decide (ans = 1) = false := by rw [sw_no G (by assumption) (by assumption)]; rfl
       rw [← e9]
       exact hret _ _ (by k_asm) (kst_newsOf kN (by kst_inAny)))
    | (rename News _ _ _ _ => kN
       have e9 : decide (ans = 1) = true := by rw [sw_yes G (by assumption) (by assumption) (by assumption)]; rfl
       rw [← e9]
       exact hret _ _ (by k_asm) (kst_newsOf kN (by kst_inAny)))
  k_with "execs cons" => ((first | (with_reducible show wpAny _ _ (execs (PySem.Stmt.For .. :: _) _) _ _ _) | (with_reducible show wpAny _ _ (execs (PySem.Stmt.While .. :: _) _) _ _ _) | (with_reducible show wpAny _ _ (execs (PySem.Stmt.If .. :: _) _) _ _ _)); (try k_gentoks); (try k_made); (with_reducible refine wpAny_execs_cons ?_); (try dsimp only); k_dflt (as_aux_lemma => (k_steps; all_goals k_extra "fin")))
  k_steps
  all_goals k_extra "fin"

end
end Mine
/-! F_kin -/
namespace Mine
section

noncomputable def kStep (p : Int) (ks : List Int) (o : Int) : List Int := if p < o ∧ (ks.any fun x => x == Builtin.bitAnd (o - p) (p - o)) = false then ks ++ [Builtin.bitAnd (o - p) (p - o)] else ks
noncomputable def kIn (p : Int) (ns ks : List Int) : List Int := ns.foldl (kStep p) ks
noncomputable def kOut (ns pre : List Int) : List Int := pre.foldl (fun ks p => kIn p ns ks) []
theorem kin_add {p o : Int} {pre k0 ks : List Int} (h1 : p < o) (h2 : (ks.any fun x => x == Builtin.bitAnd (o - p) (p - o)) = false) (e : ks = kIn p pre k0) (hl : ks.length ≤ k0.length + pre.length) :
    ks ++ [Builtin.bitAnd (o - p) (p - o)] = kIn p (pre ++ [o]) k0 ∧ (ks ++ [Builtin.bitAnd (o - p) (p - o)]).length ≤ k0.length + (pre ++ [o]).length := by
  refine ⟨?_, by simp only [List.length_append, List.length_cons, List.length_nil]; lia⟩
  show _ = List.foldl (kStep p) k0 (pre ++ [o])
  rw [List.foldl_append]
  show _ = kStep p (kIn p pre k0) o
  rw [← e, kStep, if_pos ⟨h1, h2⟩]
theorem kin_old {p o : Int} {pre k0 ks : List Int} (h2 : (ks.any fun x => x == Builtin.bitAnd (o - p) (p - o)) = true) (e : ks = kIn p pre k0) (hl : ks.length ≤ k0.length + pre.length) :
    ks = kIn p (pre ++ [o]) k0 ∧ ks.length ≤ k0.length + (pre ++ [o]).length := by
  refine ⟨?_, by simp only [List.length_append, List.length_cons, List.length_nil]; lia⟩
  show _ = List.foldl (kStep p) k0 (pre ++ [o])
  rw [List.foldl_append]
  show _ = kStep p (kIn p pre k0) o
  rw [← e, kStep, if_neg (by rw [h2]; simp)]
theorem kin_low {p o : Int} {pre k0 ks : List Int} (h1 : ¬ p < o) (e : ks = kIn p pre k0) (hl : ks.length ≤ k0.length + pre.length) :
    ks = kIn p (pre ++ [o]) k0 ∧ ks.length ≤ k0.length + (pre ++ [o]).length := by
  refine ⟨?_, by simp only [List.length_append, List.length_cons, List.length_nil]; lia⟩
  show _ = List.foldl (kStep p) k0 (pre ++ [o])
  rw [List.foldl_append]
  show _ = kStep p (kIn p pre k0) o
  rw [← e, kStep, if_neg (by simp [h1])]
theorem kout_add {p : Int} {ns pre k0 ks : List Int} (h16 : ns.length ≤ 16) (e0 : k0 = kOut ns pre) (h0 : k0.length ≤ 16 * pre.length) (e : ks = kIn p ns k0) (hl : ks.length ≤ k0.length + ns.length) :
    ks = kOut ns (pre ++ [p]) ∧ ks.length ≤ 16 * (pre ++ [p]).length := by
  refine ⟨?_, by simp only [List.length_append, List.length_cons, List.length_nil]; lia⟩
  rw [kOut, List.foldl_append]
  show _ = kIn p ns (kOut ns pre)
  rw [← e0, e]
theorem kin_ok {w : World} {loose : List PySem.Str} {mean : ExcName → Option Value} {mg mb : PySem.Str → Option Value}
    {dp un : Nat} {gd : Option (List Code)} {cn : PySem.Str} {cs : Scope} {a : Addr} {ccd : Value} {cl : List (PySem.Str × Addr)} {outer : List Env} {A₀ : Around} {base h₀ : Heap} {L : Addr} {m : PySem.Str → Option Value} {s : Shared} {Q E : Value → Shared → Prop} {news : List (Addr × Obj)}
    (B : Below A₀ base outer h₀) (F : Fr h₀ L s.heap m) (X : (hd.heap_1 w.params).In h₀) (N : News h₀ L s.heap news) (T : Top topProg loose mean mg mb h₀) (hk : cs.kind = .function)
    {l : Addr} {vs : List Value} {ns : List Int} {nn : Nat} (hi : IntsAre vs ns) (N0 : News h₀ L s.heap ((l, ({ cls := .type "list", data := .seq vs.toArray nn } : Obj)) :: news)) (hlen : ns.length ≤ 16)
    (hd1 : dp + 1 < recursionLimit) (hu : un + 8 < cLine)
    (hret : ∀ l1 us nu h1 tk1, IntsAre us (kOut ns ns) → Fr h₀ L h1 m → News h₀ L h1 ((l1, W.listOf us.toArray nu) :: (l, ({ cls := .type "list", data := .seq vs.toArray nn } : Obj)) :: news) → AllLt l1 ((l, ({ cls := .type "list", data := .seq vs.toArray nn } : Obj)) :: news) → (kOut ns ns).length ≤ 16 * ns.length → Q (.ref l1) { s with heap := h1, toks := tk1 }) :
    wpAny (model Challenge.rw_sn0051_01.row.prog w) (ktrTop dp un gd cn cs L a ccd cl outer) (call (.ref 143) [.ref l]) Q E s := by
  revert X
  k_fill
  intro X
  refine wpAny_call ?_
  k_with_none
  k_with "pyIter ref" => (k_of "place" => k_state (fun pre ks => ks = kOut ns pre ∧ ks.length ≤ 16 * pre.length) "kinds")
  k_with "pyIter ref" => (k_of "other" => k_state_given ["place", "kinds!"] (fun p k0 pre ks => ks = kIn p pre k0 ∧ ks.length ≤ k0.length + pre.length) "kinds")
  k_with "state" => exact ⟨rfl, Nat.le_refl _⟩
  k_with "state" => exact ⟨rfl, Nat.zero_le _⟩
  k_with "state" => exact kout_add (by assumption) (by assumption) (by assumption) (by assumption) (by assumption)
  k_with "state" => exact kin_low (by first | assumption | lia) (by assumption) (by assumption)
  k_with "state" => exact kin_old (by assumption) (by assumption) (by assumption)
  k_with "state" => exact kin_add (by assumption) (by assumption) (by assumption) (by assumption)
  first
  | (k_dflt cell_enter)
  | (k_dflt (refine' code_def ?k1 ?k2 ?k3 ?k4 ?k5 ?kA ?kF ?kK ?k6 ?k7 ?k8 ?k9 ?kB ?_ ?c2 ?c3 ?c4 ?c5; (case kA => exact rfl); (case kF => exact rfl); (case kK => assumption); (case k1 => k_asm); (case k2 => k_asm); (case k3 => k_asm); (case k4 => k_asm); (case k5 => k_asm); (case k6 => k_is); (case k7 => k_is); (case k8 => ktr_room); (case k9 => first | exact BindsTo.of_eq rfl | exact binds_K (by k_in) rfl (by k_is) rfl rfl rfl); (case c5 => decide); (case kB => exact locs rfl); (case c2 => exact rfl); (case c3 => exact rfl); (case c4 => exact rfl); k_whole; intro g' L' h' FG' F' N' B' X' T'; (try dsimp only); (try k_lift B'); (try k_fold)))
  | (k_dflt (refine' code_defC ?k1 ?k2 ?k3 ?k4 ?k5 ?kA ?kF ?kK ?k6 ?k7 ?k8 ?k9 ?kB ?kD ?_ ?c2 ?c3 ?c4; (case kA => exact rfl); (case kF => exact rfl); (case kK => assumption); (case k1 => k_asm); (case k2 => k_asm); (case k3 => k_asm); (case k4 => k_asm); (case k5 => k_asm); (case k6 => k_is); (case k7 => k_is); (case k8 => ktr_room); (case k9 => first | exact BindsTo.of_eq rfl | exact binds_K (by k_in) rfl (by k_is) rfl rfl rfl); (case kB => exact rfl); (case kD => decide); (case c2 => exact rfl); (case c3 => exact rfl); (case c4 => exact rfl); k_whole; intro g' L' h' tk' cells' FG' F' N' Y' B' X' T' l'; (try dsimp only); (try k_cells Y'); (try simp only [List.nil_append, List.cons_append] at N'); (try k_lt l'); (try k_lift B'); (try k_fold)))
  k_steps
  rename _ = kOut ns ns => eK
  rename IntsAre _ _ => iK
  rename News _ _ _ _ => kN
  refine hret _ _ _ _ _ (by rw [eK] at iK; exact iK) (by k_asm) kN ?_ (by rw [← eK]; assumption)

  assumption

end
end Mine
/-! X_wor -/
namespace Mine
section
noncomputable abbrev wLet (ns : List Int) (k : Int) : PySem.Str := if (ns.any fun x => x == k) = true then PySem.Str.ofString "x" else PySem.Str.ofString "o"
noncomputable abbrev wordOf (ns : List Int) : PySem.Str := PySem.Txt.join (PySem.Str.ofString "") (List.map (wLet ns) (rangeKs 0 16))
theorem wLet_one (ns : List Int) (k : Int) : (wLet ns k).length = 1 := by
  unfold wLet
  split <;> rfl
theorem wor_ok {w : World} {loose : List PySem.Str} {mean : ExcName → Option Value} {mg mb : PySem.Str → Option Value}
    {dp un : Nat} {gd : Option (List Code)} {cn : PySem.Str} {cs : Scope} {a : Addr} {ccd : Value} {cl : List (PySem.Str × Addr)} {outer : List Env} {A₀ : Around} {base h₀ : Heap} {L : Addr} {m : PySem.Str → Option Value} {s : Shared} {Q E : Value → Shared → Prop} {news : List (Addr × Obj)}
    (B : Below A₀ base outer h₀) (F : Fr h₀ L s.heap m) (X : (hd.heap_1 w.params).In h₀) (N : News h₀ L s.heap news) (T : Top topProg loose mean mg mb h₀) (hk : cs.kind = .function)
    {l : Addr} {vs : List Value} {ns : List Int} {nn : Nat} (hi : IntsAre vs ns) (N0 : News h₀ L s.heap ((l, W.listOf vs.toArray nn) :: news)) (hlen : ns.length ≤ 64)
    (hd1 : dp + 2 < recursionLimit) (hu : un + 16 < cLine)
    (hret : ∀ t h1 tk1, Fr h₀ L h1 m → News h₀ L h1 ((l, W.listOf vs.toArray nn) :: news) → Q (.str (wordOf ns) t) { s with heap := h1, toks := tk1 }) :
    wpAny (model Challenge.rw_sn0051_01.row.prog w) (ktrTop dp un gd cn cs L a ccd cl outer) (call (.ref 148) [.ref l]) Q E s := by
  revert X
  k_fill
  intro X
  refine wpAny_call ?_
  k_with_none
  k_with "compareOp In int ref" => (k_here; k_dflt (refine' in_list_ints ?x0ql ?x0qi ?_; (case x0ql => exact News.isList (by k_asm) (by k_mem)); (case x0qi => assumption)))
  k_with "CompEnd" => k_extra "ce"
  k_with "KCtEl" => (refine kct_el ?_ rfl rfl; unfold wLet; first | (rw [if_pos (by assumption)]) | (rw [if_neg (by simp only [*]; decide)]))
  k_with "call builtin:str.join" => (k_here; (with_reducible rename CarriedAll _ (List.map _ _) => ktC); (refine KT.join_1 (by first | assumption | is_list | exact News.isList (by k_asm) (by k_mem)) ktC (fun k _ => wLet_one _ k) (by exact Nat.le_of_ble_eq_true rfl) ?_; intro _ _ ktE))
  k_with "CompSrc" => k_extra "cs"
  k_with "ce" => (refine LCg.CompEnd.intro (by assumption) (by assumption) ((L' + 1, _) :: (l, _) :: news) (by kcf_all) (by assumption) (by first | lcg_src | assumption) ?_)
  k_with "cs" => ((try k_fmods); k_dflt (refine LCg.CompSrc.range (by rfl) (by k_asm) (by k_asm) (by assumption) (by first | exact small_one (by kcf_bnd) (by kcf_bnd) (by kcf_bnd) (by kcf_bnd) | decide) (by first | exact rangeSize_nat _ _ | rfl) (by first | exact Nat.le_of_ble_eq_true rfl | (rw [PySem.sizeLine_eq]; first | omega) | size_fits) ?_; intro g'; (refine' kct_range (wLet ns) (fun k' t' I' oI' C' oC' D' m' ys' h' tk' E' hlo' hhi' hC' hx' F' N' off' ne' => ?_) ?_); (all_goals (try (simp only [LCg.Off3, and_true] at off'))); (all_goals (try ((show KPfMark → _); intro hMark'))); kcf_last))
  first
  | (k_dflt cell_enter)
  | (k_dflt (refine' code_def ?k1 ?k2 ?k3 ?k4 ?k5 ?kA ?kF ?kK ?k6 ?k7 ?k8 ?k9 ?kB ?_ ?c2 ?c3 ?c4 ?c5; (case kA => exact rfl); (case kF => exact rfl); (case kK => assumption); (case k1 => k_asm); (case k2 => k_asm); (case k3 => k_asm); (case k4 => k_asm); (case k5 => k_asm); (case k6 => k_is); (case k7 => k_is); (case k8 => ktr_room); (case k9 => first | exact BindsTo.of_eq rfl | exact binds_K (by k_in) rfl (by k_is) rfl rfl rfl); (case c5 => decide); (case kB => exact locs rfl); (case c2 => exact rfl); (case c3 => exact rfl); (case c4 => exact rfl); k_whole; intro g' L' h' FG' F' N' B' X' T'; (try dsimp only); (try k_lift B'); (try k_fold)))
  | (k_dflt (refine' code_defC ?k1 ?k2 ?k3 ?k4 ?k5 ?kA ?kF ?kK ?k6 ?k7 ?k8 ?k9 ?kB ?kD ?_ ?c2 ?c3 ?c4; (case kA => exact rfl); (case kF => exact rfl); (case kK => assumption); (case k1 => k_asm); (case k2 => k_asm); (case k3 => k_asm); (case k4 => k_asm); (case k5 => k_asm); (case k6 => k_is); (case k7 => k_is); (case k8 => ktr_room); (case k9 => first | exact BindsTo.of_eq rfl | exact binds_K (by k_in) rfl (by k_is) rfl rfl rfl); (case kB => exact rfl); (case kD => decide); (case c2 => exact rfl); (case c3 => exact rfl); (case c4 => exact rfl); k_whole; intro g' L' h' tk' cells' FG' F' N' Y' B' X' T' l'; (try dsimp only); (try k_cells Y'); (try simp only [List.nil_append, List.cons_append] at N'); (try k_lt l'); (try k_lift B'); (try k_fold)))
  k_steps
  rename News _ _ _ _ => kN
  exact hret _ _ _ (by k_asm) (kst_newsOf kN (by kst_inAny))

end
end Mine
/-! P14 -/
namespace Mine
section
section
open PySem.Builtin PySem.Builtin.Str PySem.StrLaws
noncomputable abbrev dots : PySem.Str := ⟨#[46, 46, 46]⟩
theorem dots_eq : PySem.Str.ofString "..." = dots := by decide +kernel
theorem getD_range {l : List Nat} {n : Nat} (h : l.length = n) : l = (List.range n).map (fun i => l.getD i 0) := by
  refine List.ext_getElem? fun i => ?_
  rw [List.getElem?_map]
  by_cases hi : i < n
  · rw [List.getElem?_range hi, List.getElem?_eq_getElem (h.symm ▸ hi)]
    show _ = some (l.getD i 0)
    rw [List.getD_eq_getElem?_getD, List.getElem?_eq_getElem (h.symm ▸ hi)]
    rfl
  · rw [List.getElem?_eq_none (h.symm ▸ Nat.le_of_not_lt hi), List.getElem?_eq_none (by rw [List.length_range]; exact Nat.le_of_not_lt hi)]
    rfl
theorem str16 {w : PySem.Str} (h : w.length = 16) : ∃ a0 a1 a2 a3 a4 a5 a6 a7 a8 a9 b0 b1 b2 b3 b4 b5, w = ⟨#[a0, a1, a2, a3, a4, a5, a6, a7, a8, a9, b0, b1, b2, b3, b4, b5]⟩ := by
  obtain ⟨⟨l⟩⟩ := w
  exact ⟨_, _, _, _, _, _, _, _, _, _, _, _, _, _, _, _, congrArg (fun l : List Nat => (⟨⟨l⟩⟩ : PySem.Str)) (getD_range (l := l) (n := 16) h)⟩
theorem occ_hit {x y : PySem.Str} {hi limit i : Nat} {l : List Nat} {st : Array Nat × Nat} (h : st.1.size < limit ∧ st.2 ≤ i ∧ i + y.length ≤ hi ∧ subAt x y i = true) :
    forIn (i :: l) st (occBody x y hi limit) = forIn l (st.1.push i, i + y.length) (occBody x y hi limit) := by
  rw [List.forIn_cons]
  have e : occBody x y hi limit i st = pure (ForInStep.yield (st.fst.push i, i + y.length)) := if_pos ⟨⟨⟨h.1, h.2.1⟩, h.2.2.1⟩, h.2.2.2⟩
  rw [e]
  rfl
theorem occ_miss {x y : PySem.Str} {hi limit i : Nat} {l : List Nat} {st : Array Nat × Nat} (h : ¬ (st.2 ≤ i ∧ i + y.length ≤ hi) ∨ subAt x y i = false) :
    forIn (i :: l) st (occBody x y hi limit) = forIn l st (occBody x y hi limit) := by
  rw [List.forIn_cons]
  have e : occBody x y hi limit i st = pure (ForInStep.yield (st.fst, st.snd)) := if_neg fun c => by
    rcases h with h | h
    · exact h ⟨c.1.1.2, c.1.2⟩
    · rw [h] at c; exact absurd c.2 (by decide)
  rw [e]
  rfl
theorem nd3 {a b c : Nat} (h : a ≠ 46) : ([a, b, c] == [46, 46, 46]) = false := by
  cases e : ([a, b, c] == [46, 46, 46]) with
  | false => rfl
  | true => exact absurd (List.cons.inj (eq_of_beq e)).1 h
theorem ell_occ {a0 a1 a2 a3 a4 a5 a6 a7 a8 a9 b0 b1 b2 b3 b4 b5 : Nat} (h0 : a0 ≠ 46) (h1 : a1 ≠ 46) (h2 : a2 ≠ 46) (h3 : a3 ≠ 46) (h4 : a4 ≠ 46) (h5 : a5 ≠ 46) (h6 : a6 ≠ 46) (h7 : a7 ≠ 46) (h8 : a8 ≠ 46) (h9 : a9 ≠ 46) (h10 : b0 ≠ 46) (h11 : b1 ≠ 46) (h12 : b2 ≠ 46) (h13 : b3 ≠ 46) (h14 : b4 ≠ 46) (h15 : b5 ≠ 46) : occurrences (⟨#[46, 46, 46, a0, a1, a2, a3, a4, a5, a6, a7, a8, a9, b0, b1, b2, b3, b4, b5, 46, 46, 46]⟩ : PySem.Str) dots 0 22 23 = [0, 19] := by
  rw [occ_eq]
  have m3 : subAt (⟨#[46, 46, 46, a0, a1, a2, a3, a4, a5, a6, a7, a8, a9, b0, b1, b2, b3, b4, b5, 46, 46, 46]⟩ : PySem.Str) dots 3 = false := by rw [subAt_eq]; exact nd3 h0
  have m4 : subAt (⟨#[46, 46, 46, a0, a1, a2, a3, a4, a5, a6, a7, a8, a9, b0, b1, b2, b3, b4, b5, 46, 46, 46]⟩ : PySem.Str) dots 4 = false := by rw [subAt_eq]; exact nd3 h1
  have m5 : subAt (⟨#[46, 46, 46, a0, a1, a2, a3, a4, a5, a6, a7, a8, a9, b0, b1, b2, b3, b4, b5, 46, 46, 46]⟩ : PySem.Str) dots 5 = false := by rw [subAt_eq]; exact nd3 h2
  have m6 : subAt (⟨#[46, 46, 46, a0, a1, a2, a3, a4, a5, a6, a7, a8, a9, b0, b1, b2, b3, b4, b5, 46, 46, 46]⟩ : PySem.Str) dots 6 = false := by rw [subAt_eq]; exact nd3 h3
  have m7 : subAt (⟨#[46, 46, 46, a0, a1, a2, a3, a4, a5, a6, a7, a8, a9, b0, b1, b2, b3, b4, b5, 46, 46, 46]⟩ : PySem.Str) dots 7 = false := by rw [subAt_eq]; exact nd3 h4
  have m8 : subAt (⟨#[46, 46, 46, a0, a1, a2, a3, a4, a5, a6, a7, a8, a9, b0, b1, b2, b3, b4, b5, 46, 46, 46]⟩ : PySem.Str) dots 8 = false := by rw [subAt_eq]; exact nd3 h5
  have m9 : subAt (⟨#[46, 46, 46, a0, a1, a2, a3, a4, a5, a6, a7, a8, a9, b0, b1, b2, b3, b4, b5, 46, 46, 46]⟩ : PySem.Str) dots 9 = false := by rw [subAt_eq]; exact nd3 h6
  have m10 : subAt (⟨#[46, 46, 46, a0, a1, a2, a3, a4, a5, a6, a7, a8, a9, b0, b1, b2, b3, b4, b5, 46, 46, 46]⟩ : PySem.Str) dots 10 = false := by rw [subAt_eq]; exact nd3 h7
  have m11 : subAt (⟨#[46, 46, 46, a0, a1, a2, a3, a4, a5, a6, a7, a8, a9, b0, b1, b2, b3, b4, b5, 46, 46, 46]⟩ : PySem.Str) dots 11 = false := by rw [subAt_eq]; exact nd3 h8
  have m12 : subAt (⟨#[46, 46, 46, a0, a1, a2, a3, a4, a5, a6, a7, a8, a9, b0, b1, b2, b3, b4, b5, 46, 46, 46]⟩ : PySem.Str) dots 12 = false := by rw [subAt_eq]; exact nd3 h9
  have m13 : subAt (⟨#[46, 46, 46, a0, a1, a2, a3, a4, a5, a6, a7, a8, a9, b0, b1, b2, b3, b4, b5, 46, 46, 46]⟩ : PySem.Str) dots 13 = false := by rw [subAt_eq]; exact nd3 h10
  have m14 : subAt (⟨#[46, 46, 46, a0, a1, a2, a3, a4, a5, a6, a7, a8, a9, b0, b1, b2, b3, b4, b5, 46, 46, 46]⟩ : PySem.Str) dots 14 = false := by rw [subAt_eq]; exact nd3 h11
  have m15 : subAt (⟨#[46, 46, 46, a0, a1, a2, a3, a4, a5, a6, a7, a8, a9, b0, b1, b2, b3, b4, b5, 46, 46, 46]⟩ : PySem.Str) dots 15 = false := by rw [subAt_eq]; exact nd3 h12
  have m16 : subAt (⟨#[46, 46, 46, a0, a1, a2, a3, a4, a5, a6, a7, a8, a9, b0, b1, b2, b3, b4, b5, 46, 46, 46]⟩ : PySem.Str) dots 16 = false := by rw [subAt_eq]; exact nd3 h13
  have m17 : subAt (⟨#[46, 46, 46, a0, a1, a2, a3, a4, a5, a6, a7, a8, a9, b0, b1, b2, b3, b4, b5, 46, 46, 46]⟩ : PySem.Str) dots 17 = false := by rw [subAt_eq]; exact nd3 h14
  have m18 : subAt (⟨#[46, 46, 46, a0, a1, a2, a3, a4, a5, a6, a7, a8, a9, b0, b1, b2, b3, b4, b5, 46, 46, 46]⟩ : PySem.Str) dots 18 = false := by rw [subAt_eq]; exact nd3 h15
  have m0 : subAt (⟨#[46, 46, 46, a0, a1, a2, a3, a4, a5, a6, a7, a8, a9, b0, b1, b2, b3, b4, b5, 46, 46, 46]⟩ : PySem.Str) dots 0 = true := by rw [subAt_eq]; rfl
  have m19 : subAt (⟨#[46, 46, 46, a0, a1, a2, a3, a4, a5, a6, a7, a8, a9, b0, b1, b2, b3, b4, b5, 46, 46, 46]⟩ : PySem.Str) dots 19 = true := by rw [subAt_eq]; rfl
  show (forIn [0, 1, 2, 3, 4, 5, 6, 7, 8, 9, 10, 11, 12, 13, 14, 15, 16, 17, 18, 19, 20, 21, 22] (#[], 0) (occBody _ dots 22 23)).run.fst.toList = _
  rw [occ_hit ⟨by decide, by decide, by decide, m0⟩]
  rw [occ_miss (i := 1) (.inl (by decide)), occ_miss (i := 2) (.inl (by decide))]
  rw [occ_miss (i := 3) (.inr m3)]
  rw [occ_miss (i := 4) (.inr m4)]
  rw [occ_miss (i := 5) (.inr m5)]
  rw [occ_miss (i := 6) (.inr m6)]
  rw [occ_miss (i := 7) (.inr m7)]
  rw [occ_miss (i := 8) (.inr m8)]
  rw [occ_miss (i := 9) (.inr m9)]
  rw [occ_miss (i := 10) (.inr m10)]
  rw [occ_miss (i := 11) (.inr m11)]
  rw [occ_miss (i := 12) (.inr m12)]
  rw [occ_miss (i := 13) (.inr m13)]
  rw [occ_miss (i := 14) (.inr m14)]
  rw [occ_miss (i := 15) (.inr m15)]
  rw [occ_miss (i := 16) (.inr m16)]
  rw [occ_miss (i := 17) (.inr m17)]
  rw [occ_miss (i := 18) (.inr m18)]
  rw [occ_hit (i := 19) ⟨by decide, by decide, by decide, m19⟩]
  rw [occ_miss (i := 20) (.inl (by decide)), occ_miss (i := 21) (.inl (by decide)), occ_miss (i := 22) (.inl (by decide))]
  rfl
theorem ell_lit (a0 a1 a2 a3 a4 a5 a6 a7 a8 a9 b0 b1 b2 b3 b4 b5 : Nat) : (dots ++ (⟨#[a0, a1, a2, a3, a4, a5, a6, a7, a8, a9, b0, b1, b2, b3, b4, b5]⟩ : PySem.Str) ++ dots) = (⟨#[46, 46, 46, a0, a1, a2, a3, a4, a5, a6, a7, a8, a9, b0, b1, b2, b3, b4, b5, 46, 46, 46]⟩ : PySem.Str) := by
  show (⟨[46, 46, 46].toArray ++ [a0, a1, a2, a3, a4, a5, a6, a7, a8, a9, b0, b1, b2, b3, b4, b5].toArray ++ [46, 46, 46].toArray⟩ : PySem.Str) = _
  rw [List.append_toArray, List.append_toArray]
  rfl
theorem kind_pos (x : PySem.Str) : 1 ≤ Builtin.Str.strKind x := by
  unfold Builtin.Str.strKind
  split
  · decide
  · split <;> decide
theorem ell_split {w : PySem.Str} (h : w.length = 16) (hd : ∀ c ∈ w.cps.toList, c ≠ 46) : Txt.split (dots ++ w ++ dots) dots = [⟨#[]⟩, w, ⟨#[]⟩] := by
  obtain ⟨a0, a1, a2, a3, a4, a5, a6, a7, a8, a9, b0, b1, b2, b3, b4, b5, rfl⟩ := str16 h
  have hd' : ∀ c ∈ [a0, a1, a2, a3, a4, a5, a6, a7, a8, a9, b0, b1, b2, b3, b4, b5], c ≠ 46 := hd
  have e := ell_lit a0 a1 a2 a3 a4 a5 a6 a7 a8 a9 b0 b1 b2 b3 b4 b5
  rw [e]
  have o := ell_occ (hd' _ (.head _)) (hd' _ (.tail _ (.head _))) (hd' _ (.tail _ (.tail _ (.head _)))) (hd' _ (.tail _ (.tail _ (.tail _ (.head _))))) (hd' _ (.tail _ (.tail _ (.tail _ (.tail _ (.head _)))))) (hd' _ (.tail _ (.tail _ (.tail _ (.tail _ (.tail _ (.head _))))))) (hd' _ (.tail _ (.tail _ (.tail _ (.tail _ (.tail _ (.tail _ (.head _)))))))) (hd' _ (.tail _ (.tail _ (.tail _ (.tail _ (.tail _ (.tail _ (.tail _ (.head _))))))))) (hd' _ (.tail _ (.tail _ (.tail _ (.tail _ (.tail _ (.tail _ (.tail _ (.tail _ (.head _)))))))))) (hd' _ (.tail _ (.tail _ (.tail _ (.tail _ (.tail _ (.tail _ (.tail _ (.tail _ (.tail _ (.head _))))))))))) (hd' _ (.tail _ (.tail _ (.tail _ (.tail _ (.tail _ (.tail _ (.tail _ (.tail _ (.tail _ (.tail _ (.head _)))))))))))) (hd' _ (.tail _ (.tail _ (.tail _ (.tail _ (.tail _ (.tail _ (.tail _ (.tail _ (.tail _ (.tail _ (.tail _ (.head _))))))))))))) (hd' _ (.tail _ (.tail _ (.tail _ (.tail _ (.tail _ (.tail _ (.tail _ (.tail _ (.tail _ (.tail _ (.tail _ (.tail _ (.head _)))))))))))))) (hd' _ (.tail _ (.tail _ (.tail _ (.tail _ (.tail _ (.tail _ (.tail _ (.tail _ (.tail _ (.tail _ (.tail _ (.tail _ (.tail _ (.head _))))))))))))))) (hd' _ (.tail _ (.tail _ (.tail _ (.tail _ (.tail _ (.tail _ (.tail _ (.tail _ (.tail _ (.tail _ (.tail _ (.tail _ (.tail _ (.tail _ (.head _)))))))))))))))) (hd' _ (.tail _ (.tail _ (.tail _ (.tail _ (.tail _ (.tail _ (.tail _ (.tail _ (.tail _ (.tail _ (.tail _ (.tail _ (.tail _ (.tail _ (.tail _ (.head _)))))))))))))))))
  unfold Txt.split
  rw [if_neg (by
    have k1 : decide ((⟨#[46, 46, 46, a0, a1, a2, a3, a4, a5, a6, a7, a8, a9, b0, b1, b2, b3, b4, b5, 46, 46, 46]⟩ : PySem.Str).length < dots.length) = false := rfl
    have k2 : Builtin.Str.strKind dots = 1 := by decide +kernel
    have k3 := kind_pos (⟨#[46, 46, 46, a0, a1, a2, a3, a4, a5, a6, a7, a8, a9, b0, b1, b2, b3, b4, b5, 46, 46, 46]⟩ : PySem.Str)
    rw [k1, k2]
    simp only [Bool.false_or, decide_eq_true_eq]
    lia)]
  have e2 : occurrences (⟨#[46, 46, 46, a0, a1, a2, a3, a4, a5, a6, a7, a8, a9, b0, b1, b2, b3, b4, b5, 46, 46, 46]⟩ : PySem.Str) dots 0 ((⟨#[46, 46, 46, a0, a1, a2, a3, a4, a5, a6, a7, a8, a9, b0, b1, b2, b3, b4, b5, 46, 46, 46]⟩ : PySem.Str)).length (((⟨#[46, 46, 46, a0, a1, a2, a3, a4, a5, a6, a7, a8, a9, b0, b1, b2, b3, b4, b5, 46, 46, 46]⟩ : PySem.Str)).length + 1) = [0, 19] := o
  rw [e2]
  rfl
theorem ell_in {w : PySem.Str} (h : w.length = 16) : (occurrences (dots ++ w ++ dots) dots 0 (dots ++ w ++ dots).length 1).isEmpty = false := by
  obtain ⟨a0, a1, a2, a3, a4, a5, a6, a7, a8, a9, b0, b1, b2, b3, b4, b5, rfl⟩ := str16 h
  have e := ell_lit a0 a1 a2 a3 a4 a5 a6 a7 a8 a9 b0 b1 b2 b3 b4 b5
  rw [e]
  have m0 : subAt (⟨#[46, 46, 46, a0, a1, a2, a3, a4, a5, a6, a7, a8, a9, b0, b1, b2, b3, b4, b5, 46, 46, 46]⟩ : PySem.Str) dots 0 = true := by rw [subAt_eq]; rfl
  have q := (found_iff (⟨#[46, 46, 46, a0, a1, a2, a3, a4, a5, a6, a7, a8, a9, b0, b1, b2, b3, b4, b5, 46, 46, 46]⟩ : PySem.Str) dots).mpr ⟨0, by show 3 ≤ 22; decide, m0⟩
  cases z : (occurrences (⟨#[46, 46, 46, a0, a1, a2, a3, a4, a5, a6, a7, a8, a9, b0, b1, b2, b3, b4, b5, 46, 46, 46]⟩ : PySem.Str) dots 0 ((⟨#[46, 46, 46, a0, a1, a2, a3, a4, a5, a6, a7, a8, a9, b0, b1, b2, b3, b4, b5, 46, 46, 46]⟩ : PySem.Str)).length 1).isEmpty with
  | false => rfl
  | true => rw [z] at q; exact absurd q (by decide)
end

end
end Mine
/-! P15 -/
namespace Mine
section
section
open PySem.Builtin PySem.Builtin.Str PySem.StrLaws
/-- the first place of w in y -/
noncomputable def ffind (y w : PySem.Str) : Option Nat := (List.range 15).find? fun k => subAt y w k
theorem find_ext {f g : Nat → Bool} : ∀ {l : List Nat}, (∀ i ∈ l, f i = g i) → l.find? f = l.find? g
  | [], _ => rfl
  | i :: l, h => by
    rw [List.find?_cons, List.find?_cons, h i (List.mem_cons_self ..), find_ext fun j hj => h j (List.mem_cons_of_mem _ hj)]
theorem occ_done {x y : PySem.Str} {hi : Nat} : ∀ (l : List Nat) (st : Array Nat × Nat), 1 ≤ st.1.size → forIn l st (occBody x y hi 1) = pure st
  | [], _, _ => rfl
  | i :: l, st, h => by
    rw [List.forIn_cons]
    have e : occBody x y hi 1 i st = pure (ForInStep.yield (st.fst, st.snd)) := if_neg fun c => absurd c.1.1.1 (Nat.not_lt.mpr h)
    rw [e]
    exact occ_done l _ h
theorem occ_first {x y : PySem.Str} {hi lo : Nat} : ∀ (l : List Nat), (∀ i ∈ l, lo ≤ i) →
    (forIn l ((#[] : Array Nat), lo) (occBody x y hi 1)).run.fst.toList = ((l.find? fun i => decide (i + y.length ≤ hi) && subAt x y i).map fun i => [i]).getD []
  | [], _ => rfl
  | i :: l, h => by
    cases e : (decide (i + y.length ≤ hi) && subAt x y i) with
    | true =>
      have e' := e
      simp only [Bool.and_eq_true, decide_eq_true_eq] at e'
      rw [occ_hit ⟨Nat.zero_lt_one, h i (List.mem_cons_self ..), e'.1, e'.2⟩, occ_done _ _ (by simp), List.find?_cons_of_pos (p := fun i => decide (i + y.length ≤ hi) && subAt x y i) e]
      rfl
    | false =>
      have e' := e
      simp only [Bool.and_eq_false_iff, decide_eq_false_iff_not] at e'
      rw [occ_miss (by rcases e' with e' | e'; exact .inl fun c => e' c.2; exact .inr e'), List.find?_cons_of_neg (p := fun i => decide (i + y.length ≤ hi) && subAt x y i) (by simp [e])]
      exact occ_first l fun j hj => h j (List.mem_cons_of_mem _ hj)
theorem occ_one (x y : PySem.Str) (lo hi : Nat) : occurrences x y lo hi 1 = (((List.range' lo (hi + 1 - lo)).find? fun i => decide (i + y.length ≤ hi) && subAt x y i).map fun i => [i]).getD [] := by
  rw [occ_eq]
  exact occ_first _ fun i hi' => (List.mem_range'_1.mp hi').1
theorem sub_nil (x : PySem.Str) (i : Nat) : subAt x ⟨#[]⟩ i = true := by
  rw [subAt_eq]
  show (List.take 0 _ == []) = true
  rw [List.take_zero]
  rfl
theorem fromIx30 : ∀ n : Nat, n < 31 → fromIndex 30 (n : Int) = n := by decide +kernel
theorem find_nil {y : PySem.Str} {i : Int} (hy : y.length = 30) (h0 : 0 ≤ i) (h1 : i ≤ 30) : find4 y ⟨#[]⟩ i 30 = i := by
  obtain ⟨n, rfl⟩ := Int.eq_ofNat_of_zero_le h0
  have hn : n ≤ 30 := Int.ofNat_le.mp h1
  have e1 : fromIndex y.length (n : Int) = n := by rw [hy]; exact fromIx30 n (Nat.lt_succ_of_le hn)
  have e2 : toIx y.length 30 = 30 := by rw [hy]; rfl
  unfold find4
  rw [e1, e2, occ_one, show 30 + 1 - n = (30 - n) + 1 from Nat.succ_sub hn, List.range'_succ, List.find?_cons_of_pos (by rw [sub_nil]; simp only [Bool.and_true, decide_eq_true_eq]; exact hn)]
  rfl
theorem find_cut (f : Nat → Bool) (n m : Nat) (h : ∀ i, n ≤ i → f i = false) : (List.range (n + m)).find? f = (List.range n).find? f := by
  induction m with
  | zero => rfl
  | succ m ih =>
    rw [← Nat.add_assoc, List.range_succ, List.find?_append, ih]
    cases (List.range n).find? f with
    | some k => rfl
    | none =>
      rw [Option.none_or, List.find?_cons_of_neg (by rw [h _ (by lia)]; decide)]
      rfl
theorem find_word {y w : PySem.Str} (hy : y.length = 30) (hw : w.length = 16) : find4 y w 0 30 = match ffind y w with | some k => (k : Int) | none => -1 := by
  have e1 : fromIndex y.length 0 = 0 := by rw [hy]; rfl
  have e2 : toIx y.length 30 = 30 := by rw [hy]; rfl
  unfold find4
  rw [e1, e2, occ_one, hw]
  have e3 : (List.range' 0 (30 + 1 - 0)).find? (fun i => decide (i + 16 ≤ 30) && subAt y w i) = ffind y w := by
    rw [← List.range_eq_range']
    rw [find_cut (fun i => decide (i + 16 ≤ 30) && subAt y w i) 15 16 (fun i hi => by simp; lia)]
    unfold ffind
    refine find_ext fun i hi => ?_
    have := List.mem_range.mp hi
    simp only [show decide (i + 16 ≤ 30) = true from decide_eq_true (by lia), Bool.true_and]
  rw [e3]
  cases ffind y w <;> rfl
theorem ffind_lt {y w : PySem.Str} {k : Nat} (h : ffind y w = some k) : k ≤ 14 := by
  have := List.mem_range.mp (List.mem_of_find?_eq_some h)
  lia
end

end
end Mine
/-! V_ell -/
namespace Mine
section
section
open PySem.Calls PySem.Builtin PySem.Builtin.Str
variable {prog : Program} {w : World} {A : Around} {E : Value → Shared → Prop} {s : Shared}
theorem kx_notin {y : PySem.Str} {t u : Tok} {Q : Value → Shared → Prop} (hw : y.length = 16) (h : Q (.bool false) s) :
    wpAny (model prog w) A (compareOp .NotIn (.str (PySem.Str.ofString "...") u) (.str (PySem.Str.ofString "..." ++ y ++ PySem.Str.ofString "...") t)) Q E s := by
  rw [dots_eq]
  refine notIn_str ?_
  rw [ell_in hw]
  exact h
theorem dots_len {y : PySem.Str} (hw : y.length = 16) : (PySem.Str.ofString "..." ++ y ++ PySem.Str.ofString "...").length + 2 ≤ sizeLine := by
  rw [dots_eq, sizeLine_eq]
  show (dots.cps ++ y.cps ++ dots.cps).size + 2 ≤ _
  have : y.cps.size = 16 := hw
  rw [Array.size_append, Array.size_append, this]
  decide
theorem dots_ne : ((PySem.Str.ofString "...").length == 0) = false := by rw [dots_eq]; rfl
theorem dots_split {y : PySem.Str} (hw : y.length = 16) (hd : ∀ c ∈ y.cps.toList, c ≠ 46) : Txt.split (PySem.Str.ofString "..." ++ y ++ PySem.Str.ofString "...") (PySem.Str.ofString "...") = [⟨#[]⟩, y, ⟨#[]⟩] := by
  rw [dots_eq]
  exact ell_split hw hd
theorem kx_fe {y : PySem.Str} {i : Int} {t u v v2 : Tok} {Q : Value → Shared → Prop} (hy : y.length = 30) (h0 : 0 ≤ i ∧ i ≤ 30) (h : Q (.int i s.toks) { s with toks := s.toks + 1 }) :
    wpAny (model prog w) A (call (.builtin "str.find") [.str y t, .str ⟨#[]⟩ u, .int i v, .int (y.length : Int) v2]) Q E s := by
  refine kx_find4 ?_
  rw [show (y.length : Int) = 30 by lia, find_nil hy h0.1 h0.2]
  exact h
theorem kx_fw {y x : PySem.Str} {t u v v2 : Tok} {Q : Value → Shared → Prop} (hy : y.length = 30) (hw : x.length = 16) (h1 : ffind y x = none → Q (.int (-1) s.toks) { s with toks := s.toks + 1 }) (h2 : ∀ k : Nat, ffind y x = some k → k ≤ 14 → Q (.int k s.toks) { s with toks := s.toks + 1 }) :
    wpAny (model prog w) A (call (.builtin "str.find") [.str y t, .str x u, .int 0 v, .int (y.length : Int) v2]) Q E s := by
  refine kx_find4 ?_
  rw [show (y.length : Int) = 30 by lia, find_word hy hw]
  cases e : ffind y x with
  | none => exact h1 e
  | some k => exact h2 k e (ffind_lt e)
end
theorem ell_ok {w : World} {loose : List PySem.Str} {mean : ExcName → Option Value} {mg mb : PySem.Str → Option Value}
    {dp un : Nat} {gd : Option (List Code)} {cn : PySem.Str} {cs : Scope} {a : Addr} {ccd : Value} {cl : List (PySem.Str × Addr)} {outer : List Env} {A₀ : Around} {base h₀ : Heap} {L : Addr} {m : PySem.Str → Option Value} {s : Shared} {Q E : Value → Shared → Prop} {news : List (Addr × Obj)}
    (B : Below A₀ base outer h₀) (F : Fr h₀ L s.heap m) (X : (hd.heap_1 w.params).In h₀) (N : News h₀ L s.heap news) (T : Top topProg loose mean mg mb h₀) (hk : cs.kind = .function)
    {x y : PySem.Str} {tx ty : Tok} (hw : x.length = 16) (hd : ∀ c ∈ x.cps.toList, c ≠ 46) (hy : y.length = 30)
    (hd1 : dp + 2 < recursionLimit) (hu : un + 32 < cLine)
    (hret : ∀ h1 tk1, Fr h₀ L h1 m → News h₀ L h1 news → Q (.bool (ffind y x).isSome) { s with heap := h1, toks := tk1 }) :
    wpAny (model Challenge.rw_sn0051_01.row.prog w) (ktrTop dp un gd cn cs L a ccd cl outer) (call (.ref 95) [.str (PySem.Str.ofString "..." ++ x ++ PySem.Str.ofString "...") tx, .str y ty]) Q E s := by
  revert X
  k_fill
  intro X
  refine wpAny_call ?_
  k_with_none
  k_with "compareOp NotIn str str" => (k_here; refine kx_notin (by assumption) ?_)
  k_with "call builtin:str.split" => k_extra "split"
  k_with "exec For Name Name cons nil" => (k_here; (rename Fr _ _ _ _ => lF'); (with_unfolding_all refine' For_turns lF' ?_; k_whole))
  k_with "pyIter ref" => (k_here; (with_reducible show wpAny _ _ (pyIter (Value.ref _)) (fun it s₂ => TurnsAt _ _ _ _ _ _ _ _ _ it s₂) _ _); k_extra "pit")
  k_with "UnrEndW" => k_extra "uend"
  k_with "call builtin:str.find" => (k_here; first | (refine kx_fe (by assumption) (by lia) ?_) | (refine kx_fw (by assumption) (by assumption) (fun e' => ?_) (fun k' e' l' => ?_)))
  k_with "split" => (k_here; refine KSpl.split1 (by k_asm) (by k_asm) dots_ne ?_ (dots_len (by assumption)); intro D8 l8 h8 k8 e8 a8 F8 N8 lt8; rw [dots_split (by assumption) (by assumption)] at e8; (kspl_open e8); (simp only [strValues, List.map_cons, List.map_nil] at N8 a8))
  k_with "pit" => (rename News _ _ _ _ => lN'; rename Fr _ _ _ _ => lF'; with_unfolding_all refine iter_listTurns (ax := D8) (vs := [_, _, _]) rfl lF' lN' (by k_mem) rfl rfl ?_; clear lF'; intro I8 lI8)
  k_with "uend" => (rename News _ _ _ _ => kN; refine ⟨_, _, _, (D8, _) :: news, rfl, (by assumption), kst_newsOf kN (by kcf_all), (fun p hp q hq => by rw [List.mem_singleton.mp hq]; exact Nat.ne_of_lt (lI8 p (List.mem_cons_of_mem _ hp))), ⟨by with_unfolding_all exact List.mem_cons_self .., trivial⟩, ?_⟩)
  first
  | (k_dflt cell_enter)
  | (k_dflt (refine' code_def ?k1 ?k2 ?k3 ?k4 ?k5 ?kA ?kF ?kK ?k6 ?k7 ?k8 ?k9 ?kB ?_ ?c2 ?c3 ?c4 ?c5; (case kA => exact rfl); (case kF => exact rfl); (case kK => assumption); (case k1 => k_asm); (case k2 => k_asm); (case k3 => k_asm); (case k4 => k_asm); (case k5 => k_asm); (case k6 => k_is); (case k7 => k_is); (case k8 => ktr_room); (case k9 => first | exact BindsTo.of_eq rfl | exact binds_K (by k_in) rfl (by k_is) rfl rfl rfl); (case c5 => decide); (case kB => exact locs rfl); (case c2 => exact rfl); (case c3 => exact rfl); (case c4 => exact rfl); k_whole; intro g' L' h' FG' F' N' B' X' T'; (try dsimp only); (try k_lift B'); (try k_fold)))
  | (k_dflt (refine' code_defC ?k1 ?k2 ?k3 ?k4 ?k5 ?kA ?kF ?kK ?k6 ?k7 ?k8 ?k9 ?kB ?kD ?_ ?c2 ?c3 ?c4; (case kA => exact rfl); (case kF => exact rfl); (case kK => assumption); (case k1 => k_asm); (case k2 => k_asm); (case k3 => k_asm); (case k4 => k_asm); (case k5 => k_asm); (case k6 => k_is); (case k7 => k_is); (case k8 => ktr_room); (case k9 => first | exact BindsTo.of_eq rfl | exact binds_K (by k_in) rfl (by k_is) rfl rfl rfl); (case kB => exact rfl); (case kD => decide); (case c2 => exact rfl); (case c3 => exact rfl); (case c4 => exact rfl); k_whole; intro g' L' h' tk' cells' FG' F' N' Y' B' X' T' l'; (try dsimp only); (try k_cells Y'); (try simp only [List.nil_append, List.cons_append] at N'); (try k_lt l'); (try k_lift B'); (try k_fold)))
  k_with "fin" =>
    first
    | (rename News _ _ _ _ => kN
       rename ffind _ _ = none => e9
       have e7 : (ffind y x).isSome = false := by rw [e9]; rfl
       rw [← e7]
       exact hret _ _ (by k_asm) (kst_newsOf kN (by kst_inAny)))
    | (rename News _ _ _ _ => kN
       rename ffind _ _ = some _ => e9
       have e7 : (ffind y x).isSome = true := by rw [e9]; rfl
       rw [← e7]
       exact hret _ _ (by k_asm) (kst_newsOf kN (by kst_inAny)))
  k_with "execs cons" => ((first | (with_reducible show wpAny _ _ (execs (PySem.Stmt.For .. :: _) _) _ _ _) | (with_reducible show wpAny _ _ (execs (PySem.Stmt.While .. :: _) _) _ _ _) | (with_reducible show wpAny _ _ (execs (PySem.Stmt.If .. :: _) _) _ _ _)); (try k_gentoks); (try k_made); (with_reducible refine wpAny_execs_cons ?_); (try dsimp only); k_dflt (as_aux_lemma => (k_steps; all_goals k_extra "fin")))
  k_steps
  all_goals k_extra "fin"

end
end Mine
/-! P16 -/
namespace Mine
section
section
open PySem.Builtin PySem.Builtin.Str PySem.StrLaws
theorem two_len {x : PySem.Str} (hx : x.length = 16) : (x ++ x).length = 32 := by
  show (x.cps ++ x.cps).size = 32
  have : x.cps.size = 16 := hx
  rw [Array.size_append, this]
theorem mid_list {x : PySem.Str} (hx : x.length = 16) : (Txt.slice (x ++ x) (some 1) (some (-1))).cps.toList = ((x.cps.toList ++ x.cps.toList).drop 1).take 30 := by
  unfold Txt.slice
  rw [two_len hx]
  have e : strSliceIndices (some 1) (some (-1)) 1 32 = (List.range 30).map (1 + ·) := by decide +kernel
  rw [e, if_neg (by decide +kernel)]
  show ((((List.range 30).map (1 + ·)).filterMap ((x ++ x).cps[·]?)).toArray).toList = _
  rw [pick_run]
  show ((x.cps ++ x.cps).toList.drop 1).take 30 = _
  rw [Array.toList_append]
theorem its_len {x : PySem.Str} (hx : x.length = 16) : (Txt.slice (x ++ x) (some 1) (some (-1))).length = 30 := by
  have h : x.cps.toList.length = 16 := hx
  show (Txt.slice (x ++ x) (some 1) (some (-1))).cps.size = 30
  rw [← Array.length_toList, mid_list hx, List.length_take, List.length_drop, List.length_append, h]
  rfl
end

end
end Mine
/-! F_its -/
namespace Mine
section
theorem its_ok {w : World} {loose : List PySem.Str} {mean : ExcName → Option Value} {mg mb : PySem.Str → Option Value}
    {dp un : Nat} {gd : Option (List Code)} {cn : PySem.Str} {cs : Scope} {a : Addr} {ccd : Value} {cl : List (PySem.Str × Addr)} {outer : List Env} {A₀ : Around} {base h₀ : Heap} {L : Addr} {m : PySem.Str → Option Value} {s : Shared} {Q E : Value → Shared → Prop} {news : List (Addr × Obj)}
    (B : Below A₀ base outer h₀) (F : Fr h₀ L s.heap m) (X : (hd.heap_1 w.params).In h₀) (N : News h₀ L s.heap news) (T : Top topProg loose mean mg mb h₀) (hk : cs.kind = .function)
    {x : PySem.Str} {tx : Tok} (hx : x.length = 16) (hd : ∀ c ∈ x.cps.toList, c ≠ 46)
    (hd1 : dp + 4 < recursionLimit) (hu : un + 64 < cLine)
    (hret : ∀ h1 tk1, Fr h₀ L h1 m → News h₀ L h1 news → Q (.bool (ffind (Txt.slice (x ++ x) (some 1) (some (-1))) x).isSome) { s with heap := h1, toks := tk1 }) :
    wpAny (model Challenge.rw_sn0051_01.row.prog w) (ktrTop dp un gd cn cs L a ccd cl outer) (call (.ref 155) [.str x tx]) Q E s := by
  revert X
  k_fill
  intro X
  refine wpAny_call ?_
  k_with_none
  k_with "call ref" => (refine' ell_ok (w := w) ?B ?F ?X ?N ?T rfl hx hd (its_len hx) ?hd1 ?hu ?_; (case B => k_asm); (case F => k_asm); (case X => k_asm); (case N => assumption); (case T => k_asm); (case hd1 => ktr_room); (case hu => ktr_units); intro h9 tk9 F9 N9; (try dsimp only); (try k_fold))
  first
  | (k_dflt cell_enter)
  | (k_dflt (refine' code_def ?k1 ?k2 ?k3 ?k4 ?k5 ?kA ?kF ?kK ?k6 ?k7 ?k8 ?k9 ?kB ?_ ?c2 ?c3 ?c4 ?c5; (case kA => exact rfl); (case kF => exact rfl); (case kK => assumption); (case k1 => k_asm); (case k2 => k_asm); (case k3 => k_asm); (case k4 => k_asm); (case k5 => k_asm); (case k6 => k_is); (case k7 => k_is); (case k8 => ktr_room); (case k9 => first | exact BindsTo.of_eq rfl | exact binds_K (by k_in) rfl (by k_is) rfl rfl rfl); (case c5 => decide); (case kB => exact locs rfl); (case c2 => exact rfl); (case c3 => exact rfl); (case c4 => exact rfl); k_whole; intro g' L' h' FG' F' N' B' X' T'; (try dsimp only); (try k_lift B'); (try k_fold)))
  | (k_dflt (refine' code_defC ?k1 ?k2 ?k3 ?k4 ?k5 ?kA ?kF ?kK ?k6 ?k7 ?k8 ?k9 ?kB ?kD ?_ ?c2 ?c3 ?c4; (case kA => exact rfl); (case kF => exact rfl); (case kK => assumption); (case k1 => k_asm); (case k2 => k_asm); (case k3 => k_asm); (case k4 => k_asm); (case k5 => k_asm); (case k6 => k_is); (case k7 => k_is); (case k8 => ktr_room); (case k9 => first | exact BindsTo.of_eq rfl | exact binds_K (by k_in) rfl (by k_is) rfl rfl rfl); (case kB => exact rfl); (case kD => decide); (case c2 => exact rfl); (case c3 => exact rfl); (case c4 => exact rfl); k_whole; intro g' L' h' tk' cells' FG' F' N' Y' B' X' T' l'; (try dsimp only); (try k_cells Y'); (try simp only [List.nil_append, List.cons_append] at N'); (try k_lt l'); (try k_lift B'); (try k_fold)))
  k_steps
  rename News _ _ _ _ => kN
  exact hret _ _ (by k_asm) (kst_newsOf kN (by kst_inAny))

end
end Mine
/-! Z_hsv -/
namespace Mine
section
theorem hsv_ok {w : World} {loose : List PySem.Str} {mean : ExcName → Option Value} {mg mb : PySem.Str → Option Value}
    {dp un : Nat} {gd : Option (List Code)} {cn : PySem.Str} {cs : Scope} {a : Addr} {ccd : Value} {cl : List (PySem.Str × Addr)} {outer : List Env} {A₀ : Around} {base h₀ : Heap} {L : Addr} {m : PySem.Str → Option Value} {s : Shared} {Q E : Value → Shared → Prop} {news : List (Addr × Obj)}
    (B : Below A₀ base outer h₀) (F : Fr h₀ L s.heap m) (X : (hd.heap_1 w.params).In h₀) (N : News h₀ L s.heap news) (T : Top topProg loose mean mg mb h₀) (hk : cs.kind = .function)
    {r g b x1 x2 x3 : UInt64} {tr tg tb : Tok} (c1 : (Float64.cmp g 0 == some Ordering.eq) = false) (c2 : Float64.isInf (Float64.mul r 4618441417868443648) = false) (c3 : Float64.isNaN (Float64.mul r 4618441417868443648) = false) (c4 : HSm r) (hx : hsvT r g b = (x1, x2, x3))
    (hd1 : dp + 2 < recursionLimit) (hu : un + 32 < cLine)
    (hret : ∀ D t1 t2 t3 h1 tk1, Fr h₀ L h1 m → News h₀ L h1 ((D, ({ cls := Value.type "tuple", data := Data.seq #[Value.float x1 t1, Value.float x2 t2, Value.float x3 t3] } : Obj)) :: news) → (∀ p ∈ news, @LT.lt Nat _ p.1 D) → Q (.ref D) { s with heap := h1, toks := tk1 }) :
    wpAny (model Challenge.rw_sn0051_01.row.prog w) (ktrTop dp un gd cn cs L a ccd cl outer) (call (.ref 88) [.float r tr, .float g tg, .float b tb]) Q E s := by
  revert X
  k_fill
  intro X
  refine wpAny_call ?_
  k_with_none
  first
  | (k_dflt cell_enter)
  | (k_dflt (refine' code_def ?k1 ?k2 ?k3 ?k4 ?k5 ?kA ?kF ?kK ?k6 ?k7 ?k8 ?k9 ?kB ?_ ?c2 ?c3 ?c4 ?c5; (case kA => exact rfl); (case kF => exact rfl); (case kK => assumption); (case k1 => k_asm); (case k2 => k_asm); (case k3 => k_asm); (case k4 => k_asm); (case k5 => k_asm); (case k6 => k_is); (case k7 => k_is); (case k8 => ktr_room); (case k9 => first | exact BindsTo.of_eq rfl | exact binds_K (by k_in) rfl (by k_is) rfl rfl rfl); (case c5 => decide); (case kB => exact locs rfl); (case c2 => exact rfl); (case c3 => exact rfl); (case c4 => exact rfl); k_whole; intro g' L' h' FG' F' N' B' X' T'; (try dsimp only); (try k_lift B'); (try k_fold)))
  | (k_dflt (refine' code_defC ?k1 ?k2 ?k3 ?k4 ?k5 ?kA ?kF ?kK ?k6 ?k7 ?k8 ?k9 ?kB ?kD ?_ ?c2 ?c3 ?c4; (case kA => exact rfl); (case kF => exact rfl); (case kK => assumption); (case k1 => k_asm); (case k2 => k_asm); (case k3 => k_asm); (case k4 => k_asm); (case k5 => k_asm); (case k6 => k_is); (case k7 => k_is); (case k8 => ktr_room); (case k9 => first | exact BindsTo.of_eq rfl | exact binds_K (by k_in) rfl (by k_is) rfl rfl rfl); (case kB => exact rfl); (case kD => decide); (case c2 => exact rfl); (case c3 => exact rfl); (case c4 => exact rfl); k_whole; intro g' L' h' tk' cells' FG' F' N' Y' B' X' T' l'; (try dsimp only); (try k_cells Y'); (try simp only [List.nil_append, List.cons_append] at N'); (try k_lt l'); (try k_lift B'); (try k_fold)))
  k_with "fin" =>
    first
    | (exfalso
       rename 2 ^ 1024 - 2 ^ 970 ≤ _ => hbig
       exact absurd (Nat.lt_of_le_of_lt hbig c4.h) (by decide +kernel))
    | (rename News _ _ _ _ => kN
       rw [hsv0 (by assumption)] at hx
       cases hx
       exact hret _ _ _ _ _ _ (by k_asm) (kst_newsOf kN (by kst_inAny)) (by assumption))
    | (rename News _ _ _ _ => kN
       rw [hsv1 (by assumption)] at hx
       cases hx
       exact hret _ _ _ _ _ _ (by k_asm) (kst_newsOf kN (by kst_inAny)) (by assumption))
    | (rename News _ _ _ _ => kN
       rw [hsv2 (by assumption)] at hx
       cases hx
       exact hret _ _ _ _ _ _ (by k_asm) (kst_newsOf kN (by kst_inAny)) (by assumption))
    | (rename News _ _ _ _ => kN
       rw [hsv3 (by assumption)] at hx
       cases hx
       exact hret _ _ _ _ _ _ (by k_asm) (kst_newsOf kN (by kst_inAny)) (by assumption))
    | (rename News _ _ _ _ => kN
       rw [hsv4 (by assumption)] at hx
       cases hx
       exact hret _ _ _ _ _ _ (by k_asm) (kst_newsOf kN (by kst_inAny)) (by assumption))
    | (rename News _ _ _ _ => kN
       rw [hsv5 (by assumption)] at hx
       cases hx
       exact hret _ _ _ _ _ _ (by k_asm) (kst_newsOf kN (by kst_inAny)) (by assumption))
    | (exact (hsv6 (by assumption) (by assumption) (by assumption) (by assumption) (by assumption) (by assumption)).elim)
  k_with "execs cons" => ((try k_gentoks); (try k_made); (with_reducible refine wpAny_execs_cons ?_); (try dsimp only); k_dflt (as_aux_lemma => (k_steps; all_goals k_extra "fin")))
  k_steps
  all_goals k_extra "fin"

end
end Mine
/-! V_rgb -/
namespace Mine
section
theorem rgb_ok {w : World} {loose : List PySem.Str} {mean : ExcName → Option Value} {mg mb : PySem.Str → Option Value}
    {dp un : Nat} {gd : Option (List Code)} {cn : PySem.Str} {cs : Scope} {a : Addr} {ccd : Value} {cl : List (PySem.Str × Addr)} {outer : List Env} {A₀ : Around} {base h₀ : Heap} {L : Addr} {m : PySem.Str → Option Value} {s : Shared} {Q E : Value → Shared → Prop} {news : List (Addr × Obj)}
    (B : Below A₀ base outer h₀) (F : Fr h₀ L s.heap m) (X : (hd.heap_1 w.params).In h₀) (N : News h₀ L s.heap news) (T : Top topProg loose mean mg mb h₀) (hk : cs.kind = .function)
    {r g b : UInt64} {tr tg tb : Tok} (c1 : (Float64.cmp (mn3 r g b) (mx3 r g b) == some Ordering.eq) = false) (c2 : (Float64.cmp (mx3 r g b) 0 == some Ordering.eq) = false) (c3 : (Float64.cmp (Float64.sub (mx3 r g b) (mn3 r g b)) 0 == some Ordering.eq) = false)
    (hd1 : dp + 2 < recursionLimit) (hu : un + 32 < cLine)
    (hret : ∀ D t1 t2 t3 x2 x3 h1 tk1, Fr h₀ L h1 m → News h₀ L h1 ((D, ({ cls := Value.type "tuple", data := Data.seq #[Value.float (rgbH r g b) t1, Value.float x2 t2, Value.float x3 t3] } : Obj)) :: news) → (∀ p ∈ news, @LT.lt Nat _ p.1 D) → Q (.ref D) { s with heap := h1, toks := tk1 }) :
    wpAny (model Challenge.rw_sn0051_01.row.prog w) (ktrTop dp un gd cn cs L a ccd cl outer) (call (.ref 81) [.float r tr, .float g tg, .float b tb]) Q E s := by
  revert X
  k_fill
  intro X
  refine wpAny_call ?_
  k_with_none
  k_with "call builtin:max" => (k_here; (with_reducible show wpAny _ _ (call _ [Value.float _ _, Value.float _ _, Value.float _ _]) _ _ _); (rename News _ _ _ _ => N'); (rename Fr _ _ _ _ => F'); refine max3_ff rfl F' N' ?_; clear N'; intro _ _ _ F9 N9)
  k_with "call builtin:min" => (k_here; (with_reducible show wpAny _ _ (call _ [Value.float _ _, Value.float _ _, Value.float _ _]) _ _ _); (rename News _ _ _ _ => N'); (rename Fr _ _ _ _ => F'); refine min3_ff rfl F' N' ?_; clear N'; intro _ _ _ F9 N9)
  first
  | (k_dflt cell_enter)
  | (k_dflt (refine' code_def ?k1 ?k2 ?k3 ?k4 ?k5 ?kA ?kF ?kK ?k6 ?k7 ?k8 ?k9 ?kB ?_ ?c2 ?c3 ?c4 ?c5; (case kA => exact rfl); (case kF => exact rfl); (case kK => assumption); (case k1 => k_asm); (case k2 => k_asm); (case k3 => k_asm); (case k4 => k_asm); (case k5 => k_asm); (case k6 => k_is); (case k7 => k_is); (case k8 => ktr_room); (case k9 => first | exact BindsTo.of_eq rfl | exact binds_K (by k_in) rfl (by k_is) rfl rfl rfl); (case c5 => decide); (case kB => exact locs rfl); (case c2 => exact rfl); (case c3 => exact rfl); (case c4 => exact rfl); k_whole; intro g' L' h' FG' F' N' B' X' T'; (try dsimp only); (try k_lift B'); (try k_fold)))
  | (k_dflt (refine' code_defC ?k1 ?k2 ?k3 ?k4 ?k5 ?kA ?kF ?kK ?k6 ?k7 ?k8 ?k9 ?kB ?kD ?_ ?c2 ?c3 ?c4; (case kA => exact rfl); (case kF => exact rfl); (case kK => assumption); (case k1 => k_asm); (case k2 => k_asm); (case k3 => k_asm); (case k4 => k_asm); (case k5 => k_asm); (case k6 => k_is); (case k7 => k_is); (case k8 => ktr_room); (case k9 => first | exact BindsTo.of_eq rfl | exact binds_K (by k_in) rfl (by k_is) rfl rfl rfl); (case kB => exact rfl); (case kD => decide); (case c2 => exact rfl); (case c3 => exact rfl); (case c4 => exact rfl); k_whole; intro g' L' h' tk' cells' FG' F' N' Y' B' X' T' l'; (try dsimp only); (try k_cells Y'); (try simp only [List.nil_append, List.cons_append] at N'); (try k_lt l'); (try k_lift B'); (try k_fold)))
  k_with "fin" =>
    first
    | (rename News _ _ _ _ => kN
       have e9 := rgb0 (by assumption)
       rw [e9] at hret
       exact hret _ _ _ _ _ _ _ _ (by k_asm) (kst_newsOf kN (by kst_inAny)) (by assumption))
    | (rename News _ _ _ _ => kN
       have e9 := rgb1 (by assumption) (by assumption)
       rw [e9] at hret
       exact hret _ _ _ _ _ _ _ _ (by k_asm) (kst_newsOf kN (by kst_inAny)) (by assumption))
    | (rename News _ _ _ _ => kN
       have e9 := rgb2 (by assumption) (by assumption)
       rw [e9] at hret
       exact hret _ _ _ _ _ _ _ _ (by k_asm) (kst_newsOf kN (by kst_inAny)) (by assumption))
  k_with "execs cons" => ((first | (with_reducible show wpAny _ _ (execs (PySem.Stmt.For .. :: _) _) _ _ _) | (with_reducible show wpAny _ _ (execs (PySem.Stmt.While .. :: _) _) _ _ _) | (with_reducible show wpAny _ _ (execs (PySem.Stmt.If .. :: _) _) _ _ _)); (try k_gentoks); (try k_made); (with_reducible refine wpAny_execs_cons ?_); (try dsimp only); k_dflt (as_aux_lemma => (k_steps; all_goals k_extra "fin")))
  k_steps
  all_goals k_extra "fin"

end
end Mine
/-! P25 -/
namespace Mine
section
section
open PySem.Builtin PySem.Calls
variable {prog : Program} {w : World} {A : Around} {E : Value → Shared → Prop} {s : Shared} {h₀ : Heap} {L : Addr} {m : PySem.Str → Option Value} {news : List (Addr × Obj)}
theorem len_succ4 {α : Type} {n : Nat} : ∀ {l : List α}, l.length = n + 1 → ∃ a r, l = a :: r ∧ r.length = n
  | [], h => nomatch h
  | a :: r, h => ⟨a, r, rfl, Nat.succ.inj h⟩
theorem kx_listpow {D : Addr} {o : Obj} {b : Int} {t1 t2 t4 t8 : Tok} {Q : Value → Shared → Prop} (hh : A.handled = none) (F : Fr h₀ L s.heap m) (N : News h₀ L s.heap news) (hp : (D, o) ∈ news) (hd : o.IsDictOf (PySem.intKind prog w) (powD b t1 t2 t4 t8)) (lo : @LT.lt Nat _ 62 D)
    (h : ∀ (B : Addr) c h' tk u1 u2 u4 u8, Fr h₀ L h' m → News h₀ L h' ((B, listOf [Value.int 1 u1, Value.int 2 u2, Value.int 4 u4, Value.int 8 u8].toArray c) :: news) → (∀ q ∈ news, q.1 < B) → Q (.ref B) { s with heap := h', toks := tk }) :
    wpAny (model prog w) A (call (.type "list") [.ref D]) Q E s := by
  have lo' : (D == sysModules) = false := by
    show (D == 1) = false
    simp only [beq_eq_false_iff_ne, ne_eq]
    intro e
    rw [e] at lo
    exact absurd lo (by decide)
  obtain ⟨ep, hat⟩ := (kda_dict N hp hd).dictAt
  refine kdl_N (kdl_dict (knd := PySem.intKind prog w) (kvs := powD b t1 t2 t4 t8) (ep := ep) lo') hh F N hat (show 4 ≤ sizeLine by rw [PySem.sizeLine_eq]; decide) fun B c h' tk vs F' N' l1 hl hv => ?_
  have hl' : vs.length = 4 := hl
  obtain ⟨v1, vs0, rfl, hl0⟩ := len_succ4 hl'
  obtain ⟨v2, vs1, rfl, hl1⟩ := len_succ4 hl0
  obtain ⟨v4, vs2, rfl, hl2⟩ := len_succ4 hl1
  obtain ⟨v8, vs3, rfl, hl3⟩ := len_succ4 hl2
  obtain rfl := List.length_eq_zero_iff.mp hl3
  obtain ⟨k, x, hx, hk⟩ := hv 0 v1 rfl
  cases hx
  obtain ⟨u1, rfl⟩ := Value.isInt_shape hk
  obtain ⟨k, x, hx, hk⟩ := hv 1 v2 rfl
  cases hx
  obtain ⟨u2, rfl⟩ := Value.isInt_shape hk
  obtain ⟨k, x, hx, hk⟩ := hv 2 v4 rfl
  cases hx
  obtain ⟨u4, rfl⟩ := Value.isInt_shape hk
  obtain ⟨k, x, hx, hk⟩ := hv 3 v8 rfl
  cases hx
  obtain ⟨u8, rfl⟩ := Value.isInt_shape hk
  exact h B c h' tk u1 u2 u4 u8 F' N' l1
end

end
end Mine
/-! P26 -/
namespace Mine
section
section
open PyProof.V PySem.Spec PySem.Calls
variable {prog : Program} {w : World} {A : Around} {E : Value → Shared → Prop} {s : Shared} {env : Env} {h₀ : Heap} {body : List Stmt} {Q : Flow → Shared → Prop}
/-- the state of a loop over a list whose turn makes new objects -/
noncomputable def LstS {σ : Type} (Led : σ → List (Addr × Obj)) (ps : σ → List (PySem.Str × Value)) (stored : List PySem.Str) (m₀ : PySem.Str → Option Value) (P : Nat → σ → Prop) (i : Nat) (m : PySem.Str → Option Value) (nx : List (Addr × Obj)) : Prop :=
  ∃ c : σ, nx = Led c ∧ (∀ p ∈ ps c, m p.1 = some p.2) ∧ (∀ z, (∀ p ∈ ps c, z ≠ p.1) → stored.contains z = false → m z = m₀ z) ∧ P i c
theorem lst_rest {σ : Type} {x : PySem.Str} {pos : Pos} {I : Addr} {all : List Value} {keep : List (Addr × Obj)} {m₀ : PySem.Str → Option Value} (Led : σ → List (Addr × Obj)) (ps : σ → List (PySem.Str × Value)) (stored : List PySem.Str) (P : Nat → σ → Prop) (hkeep : ∀ c : σ, SubL keep (Led c))
    (turn : ∀ (c : σ) (i : Nat) v (u : PySem.Str → Option Value) h tk o, all[i]? = some v → P i c → o.cls = .type "list_iterator" → (∀ p ∈ Led c, p.1 ≠ I) →
      Fr h₀ env.locals h (kstB (fun z => if stored.contains z then u z else m₀ z) (ps c)) → News h₀ env.locals h ((I, o) :: Led c) →
      wpAny (model prog w) A (assign (.Name x pos) env v) (fun _ s₂ => wpAny (model prog w) A (execs body env) (RngPost h₀ env.locals { s with heap := h, toks := tk } I o (LstS Led ps stored m₀ P (i + 1)) Q) E s₂) E { s with heap := h, toks := tk })
    (done : ∀ (c : σ) (u : PySem.Str → Option Value) h tk, P all.length c → Fr h₀ env.locals h (kstB (fun z => if stored.contains z then u z else m₀ z) (ps c)) → News h₀ env.locals h (Led c) → Q .next { s with heap := h, toks := tk }) :
    ∀ (vs : List Value) (i : Nat) m nx, all.drop i = vs → i ≤ all.length → (∀ p ∈ nx, p.1 ≠ I) → LstS Led ps stored m₀ P i m nx → ItemsRest prog w A E h₀ env (.Name x pos) body Q s [(I, "list_iterator")] keep (vs.map .val) m nx
  | [], i, m, nx, e, hle, hoff, hS => by
    obtain ⟨c, rfl, h1, h2, hp⟩ := hS
    have : i = all.length := by
      have := List.drop_eq_nil_iff.mp e
      lia
    subst this
    exact ItemsRest.zero fun h tk F N => done c m h tk hp (ksw_fr h1 h2 F) N
  | v :: r, i, m, nx, e, hle, hoff, hS => by
    obtain ⟨c, rfl, h1, h2, hp⟩ := hS
    have hlt : i < all.length := by
      refine Nat.lt_of_not_le fun hc => ?_
      rw [List.drop_eq_nil_of_le hc] at e
      cases e
    have hv : all[i]? = some v := by
      rw [List.drop_eq_getElem_cons hlt] at e
      rw [List.getElem?_eq_getElem hlt, (List.cons.inj e).1]
    have he : all.drop (i + 1) = r := by
      rw [List.drop_eq_getElem_cons hlt] at e
      exact (List.cons.inj e).2
    refine ItemsRest.val fun h tk F => ?_
    intro o hc N
    refine wpAny_mono (turn c i v m h tk o hv hp hc hoff (ksw_fr h1 h2 F) N) (fun _ s₂ q2 => wpAny_mono q2 (fun f s₃ q3 => ?_) fun _ _ e => e) fun _ _ e => e
    have fin : RngEnd h₀ env.locals { s with heap := h, toks := tk } I o (LstS Led ps stored m₀ P (i + 1)) s₃ →
        UnrEndW h₀ env.locals { s with heap := h, toks := tk } [(I, o)] (fun m' n' => SubL keep n' ∧ ItemsRest prog w A E h₀ env (.Name x pos) body Q s [(I, "list_iterator")] keep (r.map .val) m' n') s₃ := by
      rintro ⟨h', tk', m', news', rfl, F', N', ho', hS⟩
      refine ⟨h', tk', m', news', rfl, F', N', fun p hp q hq => ?_, ?_, lst_rest Led ps stored P hkeep turn done r (i + 1) m' news' he hlt ho' hS⟩
      · rw [List.mem_singleton.mp hq]
        exact ho' p hp
      · obtain ⟨c', rfl, _⟩ := hS
        exact hkeep c'
    cases f with
    | ret v => exact q3
    | brk => exact q3
    | next => exact fin q3
    | cont => exact fin q3
/-- a loop over a list of the ledger whose turn makes new objects, by what holds of its state -/
theorem lst_loop {σ : Type} {x : PySem.Str} {pos : Pos} {l : Addr} {lo : Obj} {vs : List Value} {n : Nat} {m₀ : PySem.Str → Option Value} (Led : σ → List (Addr × Obj)) (ps : σ → List (PySem.Str × Value)) (stored : List PySem.Str) (P : Nat → σ → Prop) (c₀ : σ)
    (hh : A.handled = none) (hl : ∀ c : σ, (l, lo) ∈ Led c) (hc : lo.cls = .type "list") (hd : lo.data = .seq vs.toArray n) (F : Fr h₀ env.locals s.heap m₀) (N : News h₀ env.locals s.heap (Led c₀)) (hk : ∀ p ∈ ps c₀, m₀ p.1 = some p.2) (hp : P 0 c₀)
    (turn : ∀ (I : Addr) (_ : ∀ p ∈ Led c₀, p.1 < I) (c : σ) (i : Nat) v (u : PySem.Str → Option Value) h tk o, vs[i]? = some v → P i c → o.cls = .type "list_iterator" → (∀ p ∈ Led c, p.1 ≠ I) →
      Fr h₀ env.locals h (kstB (fun z => if stored.contains z then u z else m₀ z) (ps c)) → News h₀ env.locals h ((I, o) :: Led c) →
      wpAny (model prog w) A (assign (.Name x pos) env v) (fun _ s₂ => wpAny (model prog w) A (execs body env) (RngPost h₀ env.locals { s with heap := h, toks := tk } I o (LstS Led ps stored m₀ P (i + 1)) Q) E s₂) E { s with heap := h, toks := tk })
    (done : ∀ (c : σ) (u : PySem.Str → Option Value) h tk, P vs.length c → Fr h₀ env.locals h (kstB (fun z => if stored.contains z then u z else m₀ z) (ps c)) → News h₀ env.locals h (Led c) → Q .next { s with heap := h, toks := tk }) :
    wpAny (model prog w) A (pyIter (.ref l)) (fun it s₂ => TurnsAt prog w A h₀ env (.Name x pos) body Q E it s₂) E s := by
  refine iter_listTurns hh F N (hl c₀) hc hd fun I hI => ?_
  exact lst_rest (keep := [(l, lo)]) Led ps stored P (fun c => ⟨hl c, trivial⟩) (turn I hI) done vs 0 m₀ (Led c₀) rfl (Nat.zero_le _) (fun p hp => Nat.ne_of_lt (hI p hp)) ⟨c₀, rfl, hk, fun _ _ _ => rfl, hp⟩
theorem news_pull8 {L : Addr} {h : Heap} {x a0 a1 a2 a3 a4 a5 a6 a7 y : Addr × Obj} {r : List (Addr × Obj)} (N : News h₀ L h (x :: a0 :: a1 :: a2 :: a3 :: a4 :: a5 :: a6 :: a7 :: y :: r)) : News h₀ L h (x :: y :: a0 :: a1 :: a2 :: a3 :: a4 :: a5 :: a6 :: a7 :: r) := kst_newsOf N (by kst_inAny)
end

end
end Mine
/-! P31 -/
namespace Mine
section
section
open PySem.Builtin PySem.Builtin.Re PySem.Builtin.Str
/-- a page of rows -/
noncomputable def rowR (k : Nat) : List Nat := List.replicate k 46 ++ [69, 13, 10]
noncomputable def pageR (rows : List Nat) : PySem.Str := ⟨(rows.flatMap rowR).toArray⟩
noncomputable def dd : PySem.Str := ⟨#[46, 46]⟩
noncomputable def nl : PySem.Str := ⟨#[13, 10]⟩
/-- the rows after the steps that are taken -/
noncomputable def rowsOf : List Nat → List Nat → List Nat
  | [], rows => rows
  | s :: r, rows => rowsOf r (rows ++ rows.map (· + s))
noncomputable def splitOk (rows : List Nat) : Bool := Txt.split (pageR rows) nl == rows.map rowE ++ [⟨#[]⟩]
noncomputable def picks : List (List Nat) := [[], [1], [2], [4], [8], [1, 2], [1, 4], [1, 8], [2, 4], [2, 8], [4, 8], [1, 2, 4], [1, 2, 8], [1, 4, 8], [2, 4, 8], [1, 2, 4, 8]]
theorem all_step {f : List Nat → Bool} {a : List Nat} {l : List (List Nat)} (h : f a = true) (h2 : l.all f = true) : (a :: l).all f = true := by rw [List.all_cons, h, h2]; rfl
theorem sp0 : splitOk (rowsOf [] [1]) = true := by decide +kernel
theorem sp1 : splitOk (rowsOf [1] [1]) = true := by decide +kernel
theorem sp2 : splitOk (rowsOf [2] [1]) = true := by decide +kernel
theorem sp3 : splitOk (rowsOf [4] [1]) = true := by decide +kernel
theorem sp4 : splitOk (rowsOf [8] [1]) = true := by decide +kernel
theorem sp5 : splitOk (rowsOf [1, 2] [1]) = true := by decide +kernel
theorem sp6 : splitOk (rowsOf [1, 4] [1]) = true := by decide +kernel
theorem sp7 : splitOk (rowsOf [1, 8] [1]) = true := by decide +kernel
theorem sp8 : splitOk (rowsOf [2, 4] [1]) = true := by decide +kernel
theorem sp9 : splitOk (rowsOf [2, 8] [1]) = true := by decide +kernel
theorem sp10 : splitOk (rowsOf [4, 8] [1]) = true := by decide +kernel
theorem sp11 : splitOk (rowsOf [1, 2, 4] [1]) = true := by decide +kernel
theorem sp12 : splitOk (rowsOf [1, 2, 8] [1]) = true := by decide +kernel
theorem sp13 : splitOk (rowsOf [1, 4, 8] [1]) = true := by decide +kernel
theorem sp14 : splitOk (rowsOf [2, 4, 8] [1]) = true := by decide +kernel
theorem sp15 : splitOk (rowsOf [1, 2, 4, 8] [1]) = true := by decide +kernel
theorem split16 : picks.all (fun p => splitOk (rowsOf p [1])) = true := all_step sp0 (all_step sp1 (all_step sp2 (all_step sp3 (all_step sp4 (all_step sp5 (all_step sp6 (all_step sp7 (all_step sp8 (all_step sp9 (all_step sp10 (all_step sp11 (all_step sp12 (all_step sp13 (all_step sp14 (all_step sp15 (rfl))))))))))))))))
end

end
end Mine
/-! P32 -/
namespace Mine
section
section
open PyProof.V PySem.Spec PySem.Calls
variable {prog : Program} {w : World} {A : Around} {E : Value → Shared → Prop} {s : Shared} {env : Env} {h₀ : Heap} {body : List Stmt} {Q : Flow → Shared → Prop}
/-- the letters of the loop over the steps: tables' segment, even, page -/
noncomputable abbrev StC := List (Addr × Obj) × List Value × List Int × Nat × List Nat × Tok
noncomputable abbrev stLed (l : Addr) (lo : Obj) (lEv : Addr) (t62 e5 a1 a2 a3 a4 a5 a6 a7 : Addr × Obj) (c : StC) : List (Addr × Obj) :=
  (l, lo) :: (c.1 ++ (lEv, W.listOf c.2.1.toArray c.2.2.2.1) :: t62 :: e5 :: a1 :: a2 :: a3 :: a4 :: a5 :: a6 :: a7 :: [])
theorem steps_loop {x : PySem.Str} {pos : Pos} {l lEv : Addr} {lo : Obj} {e5 dig t62 a1 a2 a3 a4 a5 a6 a7 t55 : Addr × Obj} {r : List (Addr × Obj)} {us₀ : List Value} {nu₀ : Nat} {vs : List Value} {n : Nat} {m₀ : PySem.Str → Option Value}
    (ps : StC → List (PySem.Str × Value)) (stored : List PySem.Str) (P : Nat → StC → Prop) (es₀ : List Int) (rows₀ : List Nat) (tok₀ : Tok)
    (hh : A.handled = none) (hc : lo.cls = .type "list") (hd : lo.data = .seq vs.toArray n) (F : Fr h₀ env.locals s.heap m₀)
    (N : News h₀ env.locals s.heap ((l, lo) :: (lEv, W.listOf us₀.toArray nu₀) :: e5 :: dig :: t62 :: a1 :: a2 :: a3 :: a4 :: a5 :: a6 :: a7 :: t55 :: r))
    (hk : ∀ p ∈ ps ([t55], us₀, es₀, nu₀, rows₀, tok₀), m₀ p.1 = some p.2) (hp : P 0 ([t55], us₀, es₀, nu₀, rows₀, tok₀))
    (turn : ∀ (I : Addr) (_ : ∀ p ∈ stLed l lo lEv t62 e5 a1 a2 a3 a4 a5 a6 a7 ([t55], us₀, es₀, nu₀, rows₀, tok₀), p.1 < I) (c : StC) (i : Nat) v (u : PySem.Str → Option Value) h tk o, vs[i]? = some v → P i c → o.cls = .type "list_iterator" →
      (∀ p ∈ stLed l lo lEv t62 e5 a1 a2 a3 a4 a5 a6 a7 c, p.1 ≠ I) →
      Fr h₀ env.locals h (kstB (fun z => if stored.contains z then u z else m₀ z) (ps c)) → News h₀ env.locals h ((I, o) :: stLed l lo lEv t62 e5 a1 a2 a3 a4 a5 a6 a7 c) →
      wpAny (model prog w) A (assign (.Name x pos) env v) (fun _ s₂ => wpAny (model prog w) A (execs body env) (RngPost h₀ env.locals { s with heap := h, toks := tk } I o (LstS (stLed l lo lEv t62 e5 a1 a2 a3 a4 a5 a6 a7) ps stored m₀ P (i + 1)) Q) E s₂) E { s with heap := h, toks := tk })
    (done : ∀ (c : StC) (u : PySem.Str → Option Value) h tk, P vs.length c → Fr h₀ env.locals h (kstB (fun z => if stored.contains z then u z else m₀ z) (ps c)) → News h₀ env.locals h (stLed l lo lEv t62 e5 a1 a2 a3 a4 a5 a6 a7 c) → Q .next { s with heap := h, toks := tk }) :
    wpAny (model prog w) A (pyIter (.ref l)) (fun it s₂ => TurnsAt prog w A h₀ env (.Name x pos) body Q E it s₂) E s := by
  refine lst_loop (l := l) (lo := lo) (vs := vs) (n := n) (stLed l lo lEv t62 e5 a1 a2 a3 a4 a5 a6 a7) ps stored P ([t55], us₀, es₀, nu₀, rows₀, tok₀) hh (fun c => List.mem_cons_self ..) hc hd F ?_ hk hp turn done
  show News h₀ env.locals s.heap ((l, lo) :: t55 :: (lEv, W.listOf us₀.toArray nu₀) :: t62 :: e5 :: a1 :: a2 :: a3 :: a4 :: a5 :: a6 :: a7 :: [])
  exact kst_newsOf N (by kst_inAny)
end

end
end Mine
/-! P33 -/
namespace Mine
section
section
/-- the sixteen bits of the members -/
noncomputable def bitsQ (q : List Int) : List Int := (rangeKs 0 ((16 : Int) - 0).toNat).map fun k => if List.any (memL q) (fun x => x == k) then (1 : Int) else 0
noncomputable def stepF (N : Int) (W : Nat) (c : List Int × List Nat) (s : Nat) : List Int × List Nat :=
  if N % ((2 ^ W) ^ s + 1) = 0 then (c.1 ++ [(s : Int)], c.2) else (c.1, c.2 ++ c.2.map (· + s))
noncomputable def stepsF (N : Int) (W : Nat) (l : List Nat) : List Int × List Nat := l.foldl (stepF N W) ([], [1])
inductive SegOk : Nat → List (Addr × Obj) → Prop
  | z : SegOk 0 [(55, tabObj #[])]
  | s (i : Nat) (c1 : Addr) (oc1 : Obj) (vs1 : Array Value) (t1 : Tok) : oc1.data = .fields vs1 → vs1[1]? = some (.str qI t1) → @LT.lt Nat _ 55 c1 → @LT.lt Nat _ 62 c1 → SegOk (i + 1) [(c1, oc1), (55, tabObj #[rawInt 74, rawInt 4, .ref c1])]
structure StepP (N : Int) (W : Nat) (i : Nat) (c : StC) : Prop where
  sg : SegOk i c.1
  iv : IntsAre c.2.1 c.2.2.1
  vl : (c.2.2.1, c.2.2.2.2.1) = stepsF N W ([1, 2, 4, 8].take i)
theorem stepp_start {N : Int} {W nu : Nat} {tok : Tok} : StepP N W 0 ([(55, tabObj #[])], [], [], nu, [1], tok) := ⟨.z, .nil, rfl⟩
theorem bits_of2 {W s : Nat} (h0 : 1 ≤ W * s) : Builtin.Int.intBits (((2 : Int) ^ W) ^ s + 1) ≤ W * s + 1 := by
  refine intBits_le_iff.mpr ?_
  have e : ((2 : Int) ^ W) ^ s + 1 = ((2 ^ (W * s) + 1 : Nat) : Int) := by
    rw [← Int.pow_mul]; push_cast; rfl
  rw [e, Int.natAbs_natCast, Nat.pow_succ]
  have h9 : 2 ^ 1 ≤ 2 ^ (W * s) := Nat.pow_le_pow_right (by decide) h0
  generalize 2 ^ (W * s) = z at *
  lia
structure DmpPre (x y : Int) : Prop where
  hy : 0 < y
  hW : Builtin.Int.intBits y ≤ 100
  hc0 : 0 < ((Builtin.Int.intBits x : Int) + (Builtin.Int.intBits y : Int) - 1).fdiv (Builtin.Int.intBits y : Int)
  hc1 : ((Builtin.Int.intBits x : Int) + (Builtin.Int.intBits y : Int) - 1).fdiv (Builtin.Int.intBits y : Int) ≤ 64
  hxc : x < 2 ^ (Builtin.Int.intBits y * (((Builtin.Int.intBits x : Int) + (Builtin.Int.intBits y : Int) - 1).fdiv (Builtin.Int.intBits y : Int)).toNat)
theorem dmp_div {b n : Nat} (hb : 0 < b) (hn : 0 < n) (hb2 : b ≤ 64 * n) : 0 < ((b : Int) + (n : Int) - 1).fdiv (n : Int) ∧ ((b : Int) + (n : Int) - 1).fdiv (n : Int) ≤ 64 ∧ b ≤ n * (((b : Int) + (n : Int) - 1).fdiv (n : Int)).toNat := by
  have hn' : (0 : Int) < n := by lia
  rw [Int.fdiv_eq_ediv_of_nonneg _ (by lia)]
  have h1 := Int.mul_ediv_add_emod ((b : Int) + (n : Int) - 1) (n : Int)
  have h2 := Int.emod_nonneg ((b : Int) + (n : Int) - 1) (by lia : (n : Int) ≠ 0)
  have h3 := Int.emod_lt_of_pos ((b : Int) + (n : Int) - 1) hn'
  generalize ((b : Int) + (n : Int) - 1) / (n : Int) = d at *
  generalize ((b : Int) + (n : Int) - 1) % (n : Int) = m at *
  have hd0 : 0 < d := by
    refine Int.lt_of_not_ge fun hc => ?_
    have : (n : Int) * d ≤ (n : Int) * 0 := Int.mul_le_mul_of_nonneg_left hc (by lia)
    lia
  have hd1 : d ≤ 64 := by
    refine Int.le_of_lt_add_one (Int.lt_of_not_ge fun hc => ?_)
    have : (n : Int) * (64 + 1) ≤ (n : Int) * d := Int.mul_le_mul_of_nonneg_left hc (by lia)
    lia
  refine ⟨hd0, hd1, ?_⟩
  have e : ((n * d.toNat : Nat) : Int) = (n : Int) * d := by rw [Int.natCast_mul, Int.toNat_of_nonneg (by lia)]
  lia
theorem dmp_pre {x : Int} {W s : Nat} (hW : W = 6 ∨ W = 7 ∨ W = 8) (hs : s = 1 ∨ s = 2 ∨ s = 4 ∨ s = 8) (hx : 0 < x) (hx2 : x < 2 ^ (W * 16)) : DmpPre x (((2 : Int) ^ W) ^ s + 1) := by
  have hp : (0 : Int) < ((2 : Int) ^ W) ^ s := Int.pow_pos (Int.pow_pos (by decide))
  have hy : 0 < ((2 : Int) ^ W) ^ s + 1 := by lia
  have hb : Builtin.Int.intBits (((2 : Int) ^ W) ^ s + 1) ≤ 100 := Nat.le_trans (bits_of2 (by rcases hW with rfl | rfl | rfl <;> rcases hs with rfl | rfl | rfl | rfl <;> decide)) (by rcases hW with rfl | rfl | rfl <;> rcases hs with rfl | rfl | rfl | rfl <;> decide)
  have hbx : Builtin.Int.intBits x ≤ 128 := bits_pow (Int.le_of_lt hx) hx2 (by rcases hW with rfl | rfl | rfl <;> decide)
  have h2y : 2 < ((2 : Int) ^ W) ^ s + 1 := by
    rcases hW with rfl | rfl | rfl <;> rcases hs with rfl | rfl | rfl | rfl <;> decide
  have hn2 : 2 ≤ Builtin.Int.intBits (((2 : Int) ^ W) ^ s + 1) := by
    refine Nat.le_of_not_lt fun hc => ?_
    have := intBits_le_iff.mp (Nat.le_of_lt_succ hc)
    lia
  obtain ⟨h1, h2, h3⟩ := dmp_div (bits_pos hx) (bits_pos hy) (by lia)
  exact ⟨hy, hb, h1, h2, Int.lt_of_lt_of_le (bits_lt (Int.le_of_lt hx)) (by exact_mod_cast Nat.pow_le_pow_right (by decide) h3)⟩
theorem lit4 {a b c d v : Value} {i : Nat} (h : [a, b, c, d][i]? = some v) : (i = 0 ∧ v = a) ∨ (i = 1 ∧ v = b) ∨ (i = 2 ∧ v = c) ∨ (i = 3 ∧ v = d) := by
  rcases i with _ | _ | _ | _ | i
  · exact .inl ⟨rfl, (Option.some.inj h).symm⟩
  · exact .inr (.inl ⟨rfl, (Option.some.inj h).symm⟩)
  · exact .inr (.inr (.inl ⟨rfl, (Option.some.inj h).symm⟩))
  · exact .inr (.inr (.inr ⟨rfl, (Option.some.inj h).symm⟩))
  · cases h
theorem dmp_pre1 {x : Int} {W : Nat} (hW : W = 6 ∨ W = 7 ∨ W = 8) (hx : 0 < x) (hx2 : x < 2 ^ (W * 16)) : DmpPre x ((2 : Int) ^ W + 1) := by
  have h := dmp_pre (s := 1) hW (.inl rfl) hx hx2
  rwa [Int.pow_succ, Int.pow_zero, Int.one_mul] at h
theorem pw2 (b : Int) : b * b = b ^ 2 := by rw [Int.pow_succ, Int.pow_succ, Int.pow_zero, Int.one_mul]
theorem pw4 (b : Int) : b * b * (b * b) = b ^ 4 := by rw [show (4 : Nat) = 2 + 2 from rfl, Int.pow_add, ← pw2]
theorem pw8 (b : Int) : b * b * (b * b) * (b * b * (b * b)) = b ^ 8 := by rw [show (8 : Nat) = 4 + 4 from rfl, Int.pow_add, ← pw4]
theorem dmp_pre2 {x : Int} {W : Nat} (hW : W = 6 ∨ W = 7 ∨ W = 8) (hx : 0 < x) (hx2 : x < 2 ^ (W * 16)) : DmpPre x ((2 : Int) ^ W * 2 ^ W + 1) := by
  rw [pw2]; exact dmp_pre (s := 2) hW (.inr (.inl rfl)) hx hx2
theorem dmp_pre4 {x : Int} {W : Nat} (hW : W = 6 ∨ W = 7 ∨ W = 8) (hx : 0 < x) (hx2 : x < 2 ^ (W * 16)) : DmpPre x ((2 : Int) ^ W * 2 ^ W * (2 ^ W * 2 ^ W) + 1) := by
  rw [pw4]; exact dmp_pre (s := 4) hW (.inr (.inr (.inl rfl))) hx hx2
theorem dmp_pre8 {x : Int} {W : Nat} (hW : W = 6 ∨ W = 7 ∨ W = 8) (hx : 0 < x) (hx2 : x < 2 ^ (W * 16)) : DmpPre x ((2 : Int) ^ W * 2 ^ W * (2 ^ W * 2 ^ W) * (2 ^ W * 2 ^ W * (2 ^ W * 2 ^ W)) + 1) := by
  rw [pw8]; exact dmp_pre (s := 8) hW (.inr (.inr (.inr rfl))) hx hx2
theorem dval_pos {W : Nat} : ∀ {l : List Int}, (∀ d ∈ l, 0 ≤ d ∧ d < 2 ^ W) → 1 ∈ l → 0 < dval W l
  | [], _, h => nomatch h
  | d :: r, hb, h => by
    have h0 := hb d (List.mem_cons_self ..)
    have hr : ∀ d ∈ r, 0 ≤ d ∧ d < 2 ^ W := fun e he => hb e (List.mem_cons_of_mem _ he)
    have hp : (0 : Int) < 2 ^ W := Int.pow_pos (by decide)
    have hv := (dval_bound W r hr).1
    show 0 < d + dval W r * 2 ^ W
    rcases List.mem_cons.mp h with e | h'
    · have := Int.mul_nonneg hv (Int.le_of_lt hp); lia
    · have := Int.mul_pos (dval_pos hr h') hp; lia
theorem bitsQ_bd {q : List Int} {W : Nat} (h : W = 6 ∨ W = 7 ∨ W = 8) : ∀ x ∈ bitsQ q, 0 ≤ x ∧ x < 2 ^ W := by
  intro x hx
  obtain ⟨k, _, rfl⟩ := List.mem_map.mp hx
  rcases h with rfl | rfl | rfl <;> (split <;> decide)
theorem bitsQ_len (q : List Int) : (bitsQ q).length = 16 := by
  rw [bitsQ, List.length_map, rangeKs_length]; rfl
theorem num_bd {q : List Int} {W : Nat} (h : W = 6 ∨ W = 7 ∨ W = 8) (hq : 0 < q.length) (hb : ∀ x ∈ q, 0 ≤ x ∧ x < 16) : 0 < dval W (bitsQ q) ∧ dval W (bitsQ q) < 2 ^ (W * 16) := by
  refine ⟨dval_pos (bitsQ_bd h) ?_, ?_⟩
  · have hm := memL_pos hq hb
    obtain ⟨k, hk⟩ := List.exists_mem_of_length_pos hm
    refine List.mem_map.mpr ⟨k, (List.mem_filter.mp hk).1, ?_⟩
    rw [if_pos (List.any_eq_true.mpr ⟨k, hk, by simp⟩)]
  · have := (dval_bound W (bitsQ q) (bitsQ_bd h)).2
    rwa [bitsQ_len] at this
theorem segok_zero {seg : List (Addr × Obj)} (h : SegOk 0 seg) : seg = [(55, tabObj #[])] := by
  cases h; rfl
theorem segok_succ {i : Nat} {seg : List (Addr × Obj)} (h : SegOk (i + 1) seg) : ∃ c1 oc1 vs1 t1, seg = [(c1, oc1), (55, tabObj #[rawInt 74, rawInt 4, .ref c1])] ∧ oc1.data = .fields vs1 ∧ vs1[1]? = some (.str qI t1) ∧ @LT.lt Nat _ 55 c1 ∧ @LT.lt Nat _ 62 c1 := by
  cases h with
  | s _ c1 oc1 vs1 t1 a b c d => exact ⟨c1, oc1, vs1, t1, rfl, a, b, c, d⟩
structure RowsB (b : Nat) (rows : List Nat) : Prop where
  len : rows.length ≤ 16
  le : ∀ k ∈ rows, 1 ≤ k ∧ k ≤ b
  ne : rows ≠ []
theorem rowsB_map {b : Nat} {rows : List Nat} (h : RowsB b rows) : RowsB (b + 1) (rows.map (· + 1)) :=
  ⟨by rw [List.length_map]; exact h.len, fun k hk => by
    obtain ⟨j, hj, rfl⟩ := List.mem_map.mp hk
    have := h.le j hj
    exact ⟨by lia, by lia⟩, fun e => h.ne (List.map_eq_nil_iff.mp e)⟩
theorem stepF_ne {N : Int} {W s : Nat} {c : List Int × List Nat} (h : c.2 ≠ []) : (stepF N W c s).2 ≠ [] := by
  unfold stepF
  split
  · exact h
  · exact fun e => h (List.append_eq_nil_iff.mp e).1
theorem steps_ne {N : Int} {W : Nat} : ∀ (l : List Nat) (c : List Int × List Nat), c.2 ≠ [] → (l.foldl (stepF N W) c).2 ≠ []
  | [], _, h => h
  | _ :: r, _, h => steps_ne r _ (stepF_ne h)
theorem stepF_bd {N : Int} {W n s : Nat} {c : List Int × List Nat} (h1 : c.2.length ≤ n) (h2 : ∀ k ∈ c.2, 1 ≤ k ∧ k ≤ n) (hs : s ≤ n) : (stepF N W c s).2.length ≤ n + n ∧ ∀ k ∈ (stepF N W c s).2, 1 ≤ k ∧ k ≤ n + n := by
  unfold stepF
  split
  · exact ⟨by dsimp only; lia, fun k hk => ⟨(h2 k hk).1, by have := h2 k hk; lia⟩⟩
  · refine ⟨by rw [List.length_append, List.length_map]; lia, fun k hk => ?_⟩
    rcases List.mem_append.mp hk with hk | hk
    · exact ⟨(h2 k hk).1, by have := h2 k hk; lia⟩
    · obtain ⟨j, hj, rfl⟩ := List.mem_map.mp hk
      have := h2 j hj
      exact ⟨by lia, by lia⟩
theorem steps_bd (N : Int) (W i : Nat) : (stepsF N W ([1, 2, 4, 8].take i)).2.length ≤ 16 ∧ ∀ k ∈ (stepsF N W ([1, 2, 4, 8].take i)).2, 1 ≤ k ∧ k ≤ 16 := by
  have h0 : (stepsF N W []).2.length ≤ 1 ∧ ∀ k ∈ (stepsF N W []).2, 1 ≤ k ∧ k ≤ 1 := by show [1].length ≤ 1 ∧ ∀ k ∈ [1], 1 ≤ k ∧ k ≤ 1; decide
  have h1 := stepF_bd (N := N) (W := W) h0.1 h0.2 (s := 1) (by decide)
  have h2 := stepF_bd (N := N) (W := W) h1.1 h1.2 (s := 2) (by decide)
  have h3 := stepF_bd (N := N) (W := W) h2.1 h2.2 (s := 4) (by decide)
  have h4 := stepF_bd (N := N) (W := W) h3.1 h3.2 (s := 8) (by decide)
  have up : ∀ {l : List Nat} {n : Nat}, n ≤ 16 → (l.length ≤ n ∧ ∀ k ∈ l, 1 ≤ k ∧ k ≤ n) → l.length ≤ 16 ∧ ∀ k ∈ l, 1 ≤ k ∧ k ≤ 16 :=
    fun hn h => ⟨Nat.le_trans h.1 hn, fun k hk => ⟨(h.2 k hk).1, Nat.le_trans (h.2 k hk).2 hn⟩⟩
  rcases i with _ | _ | _ | _ | i
  · exact up (by decide) h0
  · exact up (by decide) h1
  · exact up (by decide) h2
  · exact up (by decide) h3
  · have e : [1, 2, 4, 8].take (i + 1 + 1 + 1 + 1) = [1, 2, 4, 8] := by simp
    rw [e]
    exact up (by decide) h4
theorem stepp_rows {N : Int} {W i : Nat} {es : List Int} {rows : List Nat} (h : (es, rows) = stepsF N W ([1, 2, 4, 8].take i)) : RowsB 16 rows := by
  have e : rows = (stepsF N W ([1, 2, 4, 8].take i)).2 := by rw [← h]
  rw [e]
  exact ⟨(steps_bd N W i).1, (steps_bd N W i).2, steps_ne _ _ (by decide)⟩
theorem page_cat (a b : List Nat) : pageR a ++ pageR b = pageR (a ++ b) := by
  show (⟨(a.flatMap rowR).toArray ++ (b.flatMap rowR).toArray⟩ : PySem.Str) = ⟨((a ++ b).flatMap rowR).toArray⟩
  rw [List.append_toArray, List.flatMap_append]
theorem page_len {b : Nat} : ∀ {rows : List Nat}, (∀ k ∈ rows, 1 ≤ k ∧ k ≤ b) → (pageR rows).length ≤ rows.length * (b + 3)
  | [], _ => Nat.zero_le _
  | k :: r, h => by
    have h1 := page_len (b := b) (rows := r) fun j hj => h j (List.mem_cons_of_mem _ hj)
    have h2 := h k (List.mem_cons_self ..)
    have e : (pageR (k :: r)).length = k + 3 + (pageR r).length := by
      show ((k :: r).flatMap rowR).toArray.size = k + 3 + (r.flatMap rowR).toArray.size
      simp only [List.size_toArray, List.flatMap_cons, List.length_append, rowR, List.length_replicate, List.length_cons, List.length_nil]
    rw [e, List.length_cons, Nat.succ_mul]
    lia
theorem rowsB_len {b : Nat} {rows : List Nat} (h : RowsB b rows) : (pageR rows).length ≤ 16 * (b + 3) :=
  Nat.le_trans (page_len h.le) (Nat.mul_le_mul_right _ h.len)
theorem steps_len {N : Int} {W : Nat} : ∀ (l : List Nat) (c : List Int × List Nat), (l.foldl (stepF N W) c).1.length ≤ c.1.length + l.length
  | [], c => Nat.le_refl _
  | s :: r, c => by
    refine Nat.le_trans (steps_len r (stepF N W c s)) ?_
    have : (stepF N W c s).1.length ≤ c.1.length + 1 := by
      unfold stepF
      split
      · simp
      · exact Nat.le_succ _
    rw [List.length_cons]
    lia
theorem app_room4 {N : Int} {W i : Nat} {us : List Value} {es : List Int} {rows : List Nat} (h : IntsAre us es) (hv : (es, rows) = stepsF N W ([1, 2, 4, 8].take i)) : us.toArray.size ≤ PySem.sizeLine := by
  have h1 : es = (stepsF N W ([1, 2, 4, 8].take i)).1 := by rw [← hv]
  have h2 := steps_len (N := N) (W := W) ([1, 2, 4, 8].take i) ([], [1])
  have h3 : ([1, 2, 4, 8].take i).length ≤ 4 := by rw [List.length_take]; exact Nat.min_le_right _ _
  have h4 := h.length
  unfold stepsF at h1
  rw [← h1, List.length_nil] at h2
  rw [PySem.sizeLine_eq, List.size_toArray]
  lia
theorem take_succ4 {i s : Nat} (hs : [1, 2, 4, 8][i]? = some s) : [1, 2, 4, 8].take (i + 1) = [1, 2, 4, 8].take i ++ [s] := by
  rw [List.take_succ, hs]; rfl
theorem stepP_yes {N y : Int} {W i s nu : Nat} {seg : List (Addr × Obj)} {us : List Value} {es : List Int} {rows : List Nat} {tok t : Tok} (hs : [1, 2, 4, 8][i]? = some s) (hy : y = (2 ^ W) ^ s) (hz : N % (y + 1) = 0) (hSg : SegOk (i + 1) seg) (hIv : IntsAre us es)
    (hVl : (es, rows) = stepsF N W ([1, 2, 4, 8].take i)) : StepP N W (i + 1) (seg, us ++ [.int (s : Int) t], es ++ [(s : Int)], nu, rows, tok) :=
  ⟨hSg, hIv.append (.cons _ _ .nil), by
    rw [take_succ4 hs]
    show (es ++ [(s : Int)], rows) = _
    unfold stepsF
    rw [List.foldl_append]
    unfold stepsF at hVl
    rw [← hVl]
    show _ = stepF N W (es, rows) s
    unfold stepF
    rw [← hy, if_pos hz]⟩
theorem stepP_no {N y : Int} {W i s nu : Nat} {seg : List (Addr × Obj)} {us : List Value} {es : List Int} {rows : List Nat} {tok : Tok} (hs : [1, 2, 4, 8][i]? = some s) (hy : y = (2 ^ W) ^ s) (hz : ¬ N % (y + 1) = 0) (hSg : SegOk (i + 1) seg) (hIv : IntsAre us es)
    (hVl : (es, rows) = stepsF N W ([1, 2, 4, 8].take i)) : StepP N W (i + 1) (seg, us, es, nu, rows ++ rows.map (· + s), tok) :=
  ⟨hSg, hIv, by
    rw [take_succ4 hs]
    show (es, rows ++ rows.map (· + s)) = _
    unfold stepsF
    rw [List.foldl_append]
    unfold stepsF at hVl
    rw [← hVl]
    show _ = stepF N W (es, rows) s
    unfold stepF
    rw [← hy, if_neg hz]⟩
theorem pw1 (b : Int) : b = b ^ 1 := by rw [Int.pow_succ, Int.pow_zero, Int.one_mul]
theorem steps_end {h₀ : Heap} {L : Addr} {s₁ : Shared} {I : Addr} {o : Obj} {Led : StC → List (Addr × Obj)} {ps : StC → List (PySem.Str × Value)} {stored : List PySem.Str} {m₀ : PySem.Str → Option Value} {P : Nat → StC → Prop} {i : Nat} {Q : Flow → Shared → Prop} {h' : Heap} {tk : Nat} {m' : PySem.Str → Option Value}
    (c : StC) (F : Fr h₀ L h' m') (N : News h₀ L h' ((I, o) :: Led c)) (hoff : ∀ p ∈ Led c, p.1 ≠ I) (hpage : ∀ p ∈ ps c, m' p.1 = some p.2) (hst : ∀ z, (∀ p ∈ ps c, z ≠ p.1) → stored.contains z = false → m' z = m₀ z) (hP : P (i + 1) c) :
    RngPost h₀ L s₁ I o (LstS Led ps stored m₀ P (i + 1)) Q .next { s₁ with heap := h', toks := tk } :=
  ⟨h', tk, m', Led c, rfl, F, N, hoff, c, rfl, hpage, hst, hP⟩
open PySem.Calls in
theorem news_dmp0 {h₀ : Heap} {L : Addr} {h : Heap} {x l t55 ev t62 e5 : Addr × Obj} {r : List (Addr × Obj)} (N : News h₀ L h (x :: l :: t55 :: ev :: t62 :: e5 :: r)) : News h₀ L h (t55 :: t62 :: e5 :: x :: l :: ev :: r) := kst_newsOf N (by kst_inAny)
theorem news_dmp1 {h₀ : Heap} {L : Addr} {h : Heap} {x l c1 t55 ev t62 e5 : Addr × Obj} {r : List (Addr × Obj)} (N : News h₀ L h (x :: l :: c1 :: t55 :: ev :: t62 :: e5 :: r)) : News h₀ L h (c1 :: t55 :: t62 :: e5 :: x :: l :: ev :: r) := kst_newsOf N (by kst_inAny)
theorem seg_ne {h₀ : Heap} {L : Addr} {h : Heap} {x l c1 t55 : Addr × Obj} {lEv : Addr} {us : Array Value} {nu : Nat} {vs1 : Array Value} {r : List (Addr × Obj)} (N : News h₀ L h (x :: l :: c1 :: t55 :: (lEv, W.listOf us nu) :: r)) (hd : c1.2.data = .fields vs1) : c1.1 ≠ lEv := by
  intro e
  have h1 := (N c1 (.tail _ (.tail _ (.head _)))).1
  have h2 := (N (lEv, W.listOf us nu) (.tail _ (.tail _ (.tail _ (.tail _ (.head _)))))).1
  rw [e] at h1
  rw [h1] at h2
  rw [Option.some.inj h2] at hd
  cases hd
end

end
end Mine
/-! P35 -/
namespace Mine
section
section
open PySem.Builtin PySem.Builtin.Re PySem.Builtin.Str PySem.Calls
open PySem.Sre (M)
/-- the machine at a place -/
noncomputable def mst (code text : Array Nat) (lim start pc pos handed : Nat) (frames : List Sre.Frame) (weight : Nat) (answer : Option Bool) (seen : Sre.Seen) (first : Bool) : M :=
  { code, text, lim, start, lastStart := lim, pc, pos, handed, outermost := first, marks := #[], frames, weight, answer, seen }
noncomputable def fr1 (pc s : Nat) (first : Bool) : Sre.Frame := { wait := .nextStart, pc, pos := s, outermost := first }
theorem step_exec {m : M} (ho : m.outcome = none) (ha : m.answer = none) (hpc : m.pc < m.code.size) : m.step = m.exec := by
  unfold M.step
  rw [if_neg (by rw [ho]; decide), ha]
  dsimp only
  rw [if_pos hpc]
theorem exec_lit {m : M} (hop : Sre.ops[m.word 0]? = some .LITERAL) (hop' : Sre.ops[m.code.getD m.pc 0]? = some .LITERAL) (hlt : m.pos < m.lim) (hc : m.text.getD m.pos 0 = m.code.getD (m.pc + 1) 0) :
    m.exec = { m with seen := m.seen.add (m.word 0), pc := m.pc + 2, pos := m.pos + 1 } := by
  unfold M.exec
  rw [hop]
  dsimp only
  rw [if_neg (Nat.not_le.mpr hlt)]
  unfold Sre.accepts Sre.itemWidth
  simp only [hop', hc, beq_self_eq_true]
theorem exec_litno {m : M} (hop : Sre.ops[m.word 0]? = some .LITERAL) (hge : m.lim ≤ m.pos) :
    m.exec = { m with seen := m.seen.add (m.word 0) }.say false := by
  unfold M.exec
  rw [hop]
  dsimp only
  rw [if_pos hge]
theorem runFor_succ {m : M} (h : m.outcome = none) (n : Nat) : m.runFor (n + 1) = m.step.runFor n := by
  rw [M.runFor, if_neg (by rw [h]; decide)]
variable {X : Array Nat} {lim s q : Nat} {seen : Sre.Seen} {first : Bool}
/-- code2 at a place of \r\n -/
theorem c2_hit (h1 : s + 1 < lim) (e1 : X.getD s 0 = 13) (e2 : X.getD (s + 1) 0 = 10) (n : Nat) :
    ∃ m' : M, (mst code2 X lim s 10 s s [fr1 10 s first] 1 none seen true).runFor (n + 8) = m' ∧ m'.outcome = some .matched ∧ m'.handed = s + 2 ∧ m'.start = s := by
  refine ⟨_, rfl, ?_⟩
  have a1 : (mst code2 X lim s 10 s s [fr1 10 s first] 1 none seen true).step = mst code2 X lim s 12 s s [{ wait := .nextBranch, pc := 11, pos := s, outermost := true, kept := {} }, fr1 10 s first] 2 none (seen.add 7) true := by
    rfl
  have a2 : (mst code2 X lim s 12 s s [{ wait := .nextBranch, pc := 11, pos := s, outermost := true, kept := {} }, fr1 10 s first] 2 none (seen.add 7) true).step = mst code2 X lim s 14 (s + 1) s [{ wait := .nextBranch, pc := 11, pos := s, outermost := true, kept := {} }, fr1 10 s first] 2 none ((seen.add 7).add 16) true := by
    rw [step_exec rfl rfl (show 12 < 36 from by decide), exec_lit rfl rfl (Nat.lt_of_succ_lt h1) e1]; rfl
  have a3 : (mst code2 X lim s 14 (s + 1) s [{ wait := .nextBranch, pc := 11, pos := s, outermost := true, kept := {} }, fr1 10 s first] 2 none ((seen.add 7).add 16) true).step = mst code2 X lim s 16 (s + 2) s [{ wait := .nextBranch, pc := 11, pos := s, outermost := true, kept := {} }, fr1 10 s first] 2 none (((seen.add 7).add 16).add 16) true := by
    rw [step_exec rfl rfl (show 14 < 36 from by decide), exec_lit rfl rfl h1 e2]; rfl
  generalize (((seen.add 7).add 16).add 16) = sn at a3
  have a4 : (mst code2 X lim s 16 (s + 2) s [{ wait := .nextBranch, pc := 11, pos := s, outermost := true, kept := {} }, fr1 10 s first] 2 none sn true).step = mst code2 X lim s 35 (s + 2) s [{ wait := .nextBranch, pc := 11, pos := s, outermost := true, kept := {} }, fr1 10 s first] 2 none (sn.add 15) true := by
    rfl
  have a5 : (mst code2 X lim s 35 (s + 2) s [{ wait := .nextBranch, pc := 11, pos := s, outermost := true, kept := {} }, fr1 10 s first] 2 none (sn.add 15) true).step = mst code2 X lim s 35 (s + 2) (s + 2) [{ wait := .nextBranch, pc := 11, pos := s, outermost := true, kept := {} }, fr1 10 s first] 2 (some true) ((sn.add 15).add 1) true := by
    rfl
  have a6 : (mst code2 X lim s 35 (s + 2) (s + 2) [{ wait := .nextBranch, pc := 11, pos := s, outermost := true, kept := {} }, fr1 10 s first] 2 (some true) ((sn.add 15).add 1) true).step = mst code2 X lim s 11 s (s + 2) [fr1 10 s first] 1 (some true) ((sn.add 15).add 1) true := by
    rfl
  have a7 : (mst code2 X lim s 11 s (s + 2) [fr1 10 s first] 1 (some true) ((sn.add 15).add 1) true).step = mst code2 X lim s 10 s (s + 2) [] 0 (some true) ((sn.add 15).add 1) first := by
    rfl
  rw [runFor_succ rfl, a1, runFor_succ rfl, a2, runFor_succ rfl, a3, runFor_succ rfl, a4, runFor_succ rfl, a5, runFor_succ rfl, a6, runFor_succ rfl, a7, runFor_succ rfl, runFor_done rfl]
  exact ⟨rfl, rfl, rfl⟩
theorem adm_skip (m : M) (hm : m.code = code2) (f : Nat) (h1 : s < m.lim) (e1 : m.text.getD s 0 = 46 ∨ m.text.getD s 0 = 69) : ∃ seen', M.admitted m (f + 1) s seen = M.admitted m f (s + 1) seen' := by
  rw [M.admitted, if_neg (Nat.not_le.mpr h1), hm]
  rcases e1 with e | e <;> rw [e] <;> exact ⟨_, rfl⟩
theorem adm_hit (m : M) (hm : m.code = code2) (f : Nat) (h1 : s < m.lim) (e1 : m.text.getD s 0 = 13) : ∃ seen', M.admitted m (f + 1) s seen = .ok (some s, seen') := by
  rw [M.admitted, if_neg (Nat.not_le.mpr h1), hm, e1]
  exact ⟨_, rfl⟩

theorem adm_run (m : M) (hm : m.code = code2) (f : Nat) : ∀ (j s : Nat) (seen : Sre.Seen), s + j < m.lim → (∀ i, i < j → m.text.getD (s + i) 0 = 46 ∨ m.text.getD (s + i) 0 = 69) → m.text.getD (s + j) 0 = 13 →
    ∃ seen', M.admitted m (f + 1 + j) s seen = .ok (some (s + j), seen')
  | 0, s, seen, h1, _, e => adm_hit m hm f h1 e
  | j + 1, s, seen, h1, h2, e => by
    have h1' : s + 1 + j < m.lim := by rw [Nat.succ_add]; exact h1
    obtain ⟨sn, h⟩ := adm_skip (seen := seen) m hm (f + 1 + j) (Nat.lt_of_le_of_lt (Nat.le_add_right ..) h1) (s := s) (h2 0 (Nat.succ_pos _))
    rw [show f + 1 + (j + 1) = f + 1 + j + 1 from rfl, h]
    obtain ⟨sn', h'⟩ := adm_run m hm f j (s + 1) sn h1' (fun i hi => by have := h2 (i + 1) (Nat.succ_lt_succ hi); rw [Nat.succ_add]; exact this) (by rw [Nat.succ_add]; exact e)
    exact ⟨sn', by rw [h', Nat.succ_add]; rfl⟩
theorem in_text {s n : Nat} (h : s < n) : ¬ ((decide (s > n) || decide (n - s < 1)) = true) := by
  rw [Bool.or_eq_true, decide_eq_true_eq, decide_eq_true_eq]
  rintro (h1 | h1)
  · exact Nat.lt_asymm h h1
  · exact Nat.lt_irrefl _ (Nat.lt_of_lt_of_le (Nat.sub_pos_of_lt h) (Nat.le_of_lt_succ h1))
theorem fuel_eq {n s j : Nat} (h : s + j + 1 < n) : n + 1 - s - 1 - j + 1 + j = n + 1 - s := by
  have h1 : s + (1 + j) ≤ n + 1 := by rw [Nat.add_comm 1, ← Nat.add_assoc]; exact Nat.le_succ_of_le (Nat.le_of_lt h)
  rw [Nat.sub_sub, Nat.sub_sub, Nat.add_assoc, ← Nat.sub_sub, Nat.sub_add_cancel (Nat.le_sub_of_add_le (by rw [Nat.add_comm]; exact h1))]
theorem four_eq {k : Nat} (h : 1 ≤ k) : 4 * k + 4 = (4 * k - 4) + 8 := by lia
theorem c2_find {j k : Nat} (hk : 1 ≤ k) (h1 : s + j + 1 < X.size) (h2 : ∀ i, i < j → X.getD (s + i) 0 = 46 ∨ X.getD (s + i) 0 = 69) (e1 : X.getD (s + j) 0 = 13) (e2 : X.getD (s + j + 1) 0 = 10) :
    (findF code2 X s X.size false k).outcome = some .matched ∧ (findF code2 X s X.size false k).handed = s + j + 2 ∧ (findF code2 X s X.size false k).start = s + j := by
  have a : Sre.forSearch code2 X 0 s X.size false = (mst code2 X X.size s 10 s s [] 0 none (({} : Sre.Seen).add 14) true).attemptFrom s true := by
    have hc := in_text (Nat.lt_of_le_of_lt (Nat.le_trans (Nat.le_add_right s j) (Nat.le_add_right (s + j) 1)) h1)
    unfold Sre.forSearch
    exact if_neg hc
  have b : ∃ sn, (mst code2 X X.size s 10 s s [] 0 none (({} : Sre.Seen).add 14) true).attemptFrom s true = mst code2 X X.size (s + j) 10 (s + j) (s + j) [fr1 10 (s + j) true] 1 none sn true := by
    obtain ⟨sn, h⟩ := adm_run (mst code2 X X.size s 10 s s [] 0 none (({} : Sre.Seen).add 14) true) rfl (X.size + 1 - s - 1 - j) j s (({} : Sre.Seen).add 14) (Nat.lt_of_succ_lt h1) h2 e1
    rw [fuel_eq h1] at h
    refine ⟨sn, ?_⟩
    unfold M.attemptFrom
    rw [if_neg (show ¬ (!(mst code2 X X.size s 10 s s [] 0 none (({} : Sre.Seen).add 14) true).hasFirstSet) = true by (show ¬ (!true) = true); decide)]
    show (match M.admitted (mst code2 X X.size s 10 s s [] 0 none (({} : Sre.Seen).add 14) true) (X.size + 1 - s) s (({} : Sre.Seen).add 14) with
      | .ok (some s, seen) => M.attemptAt { (mst code2 X X.size s 10 s s [] 0 none (({} : Sre.Seen).add 14) true) with mustAdvance := false, seen } s true
      | .ok (none, seen) => M.say { (mst code2 X X.size s 10 s s [] 0 none (({} : Sre.Seen).add 14) true) with seen } false
      | .error why => M.stick (mst code2 X X.size s 10 s s [] 0 none (({} : Sre.Seen).add 14) true) why) = _
    rw [h]
    rfl
  obtain ⟨sn, b⟩ := b
  unfold findF
  rw [a, b, four_eq hk]
  obtain ⟨m', hm, h3, h4, h5⟩ := c2_hit (X := X) (lim := X.size) (s := s + j) (seen := sn) (first := true) h1 e1 e2 (4 * k - 4)
  rw [hm]
  exact ⟨h3, h4, h5⟩
theorem find_end {code : Array Nat} {k : Nat} {t : Nat × Nat} (hh : Sre.header code = t) (ht : t.1 = 1) : (findF code X X.size X.size false k).outcome = some .failed := by
  have hc : (decide (X.size > X.size) || decide (X.size - X.size < (Sre.header code).1)) = true := by
    rw [hh, ht]
    simp
  have a : ∃ m : M, Sre.forSearch code X 0 X.size X.size false = m ∧ m.outcome = none ∧ m.answer = some false ∧ m.frames = [] := by
    refine ⟨_, rfl, ?_⟩
    unfold Sre.forSearch
    rw [if_pos hc]
    exact ⟨rfl, rfl, rfl⟩
  obtain ⟨m, hm, h1, h2, h3⟩ := a
  unfold findF
  rw [hm, show 4 * k + 4 = (4 * k + 3) + 1 from rfl, runFor_succ h1]
  have e : m.step = { m with outcome := some .failed } := by
    unfold M.step
    rw [if_neg (by rw [h1]; decide), h2, h3]
    rfl
  rw [e, runFor_done rfl]
end

section
open PySem.Builtin PySem.Builtin.Re PySem.Builtin.Str PySem.Calls
open PySem.Sre (M)
variable {X : Array Nat} {lim s q : Nat} {seen : Sre.Seen} {o : Bool}
theorem c1_at : ∃ sn, (mst code1 X lim s 5 s s [fr1 5 s o] 1 none seen o).step = if (s == 0 || X.getD (s - 1) 0 == 10) = true then mst code1 X lim s 7 s s [fr1 5 s o] 1 none sn o else mst code1 X lim s 5 s s [fr1 5 s o] 1 (some false) sn o :=
  ⟨_, rfl⟩
theorem c1_skip (hs : s ≠ 0) (hlt : s < lim) (hp : X.getD (s - 1) 0 ≠ 10) (n : Nat) :
    ∃ sn, (mst code1 X lim s 5 s s [fr1 5 s o] 1 none seen o).runFor (n + 2) = (mst code1 X lim (s + 1) 5 (s + 1) (s + 1) [fr1 5 (s + 1) false] 1 none sn false).runFor n := by
  obtain ⟨sn, a1⟩ := c1_at (X := X) (lim := lim) (s := s) (seen := seen) (o := o)
  rw [if_neg (by simp [hs]; simpa using hp)] at a1
  have a2 : (mst code1 X lim s 5 s s [fr1 5 s o] 1 (some false) sn o).step = if s < lim then mst code1 X lim (s + 1) 5 (s + 1) (s + 1) [fr1 5 (s + 1) false] 1 none sn false else mst code1 X lim s 5 s s [] 0 (some false) sn o := rfl
  rw [if_pos hlt] at a2
  exact ⟨sn, by rw [runFor_succ rfl, a1, runFor_succ rfl, a2]⟩
theorem c1_run : ∀ (j s : Nat) (seen : Sre.Seen) (o : Bool), s + j ≤ lim → (∀ i, i < j → s + i ≠ 0 ∧ X.getD (s + i - 1) 0 ≠ 10) → ∀ n, ∃ sn o', (mst code1 X lim s 5 s s [fr1 5 s o] 1 none seen o).runFor (n + 2 * j) = (mst code1 X lim (s + j) 5 (s + j) (s + j) [fr1 5 (s + j) o'] 1 none sn o').runFor n
  | 0, s, seen, o, _, _, n => ⟨seen, o, rfl⟩
  | j + 1, s, seen, o, h1, h2, n => by
    obtain ⟨sn, h⟩ := c1_skip (X := X) (lim := lim) (s := s) (seen := seen) (o := o) (h2 0 (Nat.succ_pos _)).1 (Nat.lt_of_lt_of_le (Nat.lt_add_of_pos_right (Nat.succ_pos _)) h1) (h2 0 (Nat.succ_pos _)).2 (n + 2 * j)
    obtain ⟨sn', o', h'⟩ := c1_run j (s + 1) sn false (by rw [Nat.succ_add]; exact h1) (fun i hi => by have := h2 (i + 1) (Nat.succ_lt_succ hi); rw [Nat.succ_add]; exact this) n
    exact ⟨sn', o', by rw [show n + 2 * (j + 1) = n + 2 * j + 2 from rfl, h, h', Nat.succ_add]; rfl⟩
theorem c1_hit (h : s = 0 ∨ X.getD (s - 1) 0 = 10) (hlt : s < lim) (e : X.getD s 0 = 46) (n : Nat) :
    ∃ m' : M, (mst code1 X lim s 5 s s [fr1 5 s o] 1 none seen o).runFor (n + 5) = m' ∧ m'.outcome = some .matched ∧ m'.handed = s + 1 ∧ m'.start = s := by
  obtain ⟨sn, a1⟩ := c1_at (X := X) (lim := lim) (s := s) (seen := seen) (o := o)
  rw [if_pos (by rcases h with h | h <;> simp [h])] at a1
  have a2 : (mst code1 X lim s 7 s s [fr1 5 s o] 1 none sn o).step = mst code1 X lim s 9 (s + 1) s [fr1 5 s o] 1 none (sn.add 16) o := by
    rw [step_exec rfl rfl (show 7 < 10 from by decide), exec_lit rfl rfl hlt e]; rfl
  have a3 : (mst code1 X lim s 9 (s + 1) s [fr1 5 s o] 1 none (sn.add 16) o).step = mst code1 X lim s 9 (s + 1) (s + 1) [fr1 5 s o] 1 (some true) ((sn.add 16).add 1) o := by
    cases o <;> rfl
  have a4 : (mst code1 X lim s 9 (s + 1) (s + 1) [fr1 5 s o] 1 (some true) ((sn.add 16).add 1) o).step = mst code1 X lim s 5 s (s + 1) [] 0 (some true) ((sn.add 16).add 1) o := rfl
  refine ⟨_, rfl, ?_⟩
  rw [runFor_succ rfl, a1, runFor_succ rfl, a2, runFor_succ rfl, a3, runFor_succ rfl, a4, runFor_succ rfl, runFor_done rfl]
  exact ⟨rfl, rfl, rfl⟩
theorem c1_end (h : X.getD (s - 1) 0 = 10) (hge : lim ≤ s) (n : Nat) : ((mst code1 X lim s 5 s s [fr1 5 s o] 1 none seen o).runFor (n + 4)).outcome = some .failed := by
  obtain ⟨sn, a1⟩ := c1_at (X := X) (lim := lim) (s := s) (seen := seen) (o := o)
  rw [if_pos (by simp [h])] at a1
  have a2 : (mst code1 X lim s 7 s s [fr1 5 s o] 1 none sn o).step = mst code1 X lim s 7 s s [fr1 5 s o] 1 (some false) (sn.add 16) o := by
    rw [step_exec rfl rfl (show 7 < 10 from by decide), exec_litno rfl hge]; rfl
  have a3 : (mst code1 X lim s 7 s s [fr1 5 s o] 1 (some false) (sn.add 16) o).step = if s < lim then mst code1 X lim (s + 1) 5 (s + 1) (s + 1) [fr1 5 (s + 1) false] 1 none (sn.add 16) false else mst code1 X lim s 5 s s [] 0 (some false) (sn.add 16) o := rfl
  rw [if_neg (Nat.not_lt.mpr hge)] at a3
  rw [runFor_succ rfl, a1, runFor_succ rfl, a2, runFor_succ rfl, a3, runFor_succ rfl, runFor_done rfl]
  rfl
theorem c1_search (h : s < X.size) : Sre.forSearch code1 X 0 s X.size false = mst code1 X X.size s 5 s s [fr1 5 s true] 1 none (({} : Sre.Seen).add 14) true := by
  have hc := in_text h
  unfold Sre.forSearch
  exact if_neg hc
theorem five_eq {j k n : Nat} (h : 2 * j + n ≤ 4 * k + 4) : 4 * k + 4 = (4 * k + 4 - n - 2 * j + n) + 2 * j := by lia
theorem c1_find {j k : Nat} (hk : 2 * j + 5 ≤ 4 * k + 4) (h1 : s + j < X.size) (h2 : ∀ i, i < j → s + i ≠ 0 ∧ X.getD (s + i - 1) 0 ≠ 10) (h3 : s + j = 0 ∨ X.getD (s + j - 1) 0 = 10) (e : X.getD (s + j) 0 = 46) :
    (findF code1 X s X.size false k).outcome = some .matched ∧ (findF code1 X s X.size false k).handed = s + j + 1 ∧ (findF code1 X s X.size false k).start = s + j := by
  unfold findF
  rw [c1_search (Nat.lt_of_le_of_lt (Nat.le_add_right ..) h1), five_eq hk]
  obtain ⟨sn, o', h⟩ := c1_run (X := X) (lim := X.size) j s (({} : Sre.Seen).add 14) true (Nat.le_of_lt h1) h2 (4 * k + 4 - 5 - 2 * j + 5)
  rw [h]
  obtain ⟨m', hm, a, b, c⟩ := c1_hit (X := X) (lim := X.size) (s := s + j) (seen := sn) (o := o') h3 h1 e (4 * k + 4 - 5 - 2 * j)
  rw [hm]
  exact ⟨a, b, c⟩
theorem c1_fend {j k : Nat} (hk : 2 * j + 4 ≤ 4 * k + 4) (h0 : 0 < j) (h1 : s + j = X.size) (h2 : ∀ i, i < j → s + i ≠ 0 ∧ X.getD (s + i - 1) 0 ≠ 10) (h3 : X.getD (s + j - 1) 0 = 10) :
    (findF code1 X s X.size false k).outcome = some .failed := by
  unfold findF
  rw [c1_search (h1 ▸ Nat.lt_add_of_pos_right h0), five_eq hk]
  obtain ⟨sn, o', h⟩ := c1_run (X := X) (lim := X.size) j s (({} : Sre.Seen).add 14) true (Nat.le_of_eq h1) h2 (4 * k + 4 - 4 - 2 * j + 4)
  rw [h]
  exact c1_end h3 (Nat.le_of_eq h1.symm) _
end
section
theorem getD_at {pre l : List Nat} {i : Nat} : (pre ++ l).toArray.getD (pre.length + i) 0 = l.getD i 0 := by
  simp [Array.getD_eq_getD_getElem?, List.getElem?_append_right]
theorem ext_at {pre l r : List Nat} : (pre ++ (l ++ r)).toArray.extract pre.length (pre.length + l.length) = l.toArray := by
  simp
theorem rowc_dot : ∀ {k i : Nat} (l : List Nat), i < k → (rowR k ++ l).getD i 0 = 46
  | _ + 1, 0, _, _ => rfl
  | k + 1, i + 1, l, h => rowc_dot (k := k) (i := i) l (Nat.lt_of_succ_lt_succ h)
theorem row_at : ∀ (k i : Nat) (l : List Nat), (rowR k ++ l).getD (k + i) 0 = (69 :: 13 :: 10 :: l).getD i 0
  | 0, i, l => by rw [Nat.zero_add]; rfl
  | k + 1, i, l => by rw [Nat.succ_add]; exact row_at k i l
theorem row_char {k i : Nat} (l : List Nat) (h : i < k + 1) : (rowR k ++ l).getD i 0 = 46 ∨ (rowR k ++ l).getD i 0 = 69 := by
  rcases Nat.lt_or_ge i k with h1 | h1
  · exact .inl (rowc_dot l h1)
  · rw [Nat.le_antisymm (Nat.le_of_lt_succ h) h1]
    exact .inr (row_at k 0 l)
theorem row_ne10 {k i : Nat} (l : List Nat) (h : i < k + 2) : (rowR k ++ l).getD i 0 ≠ 10 := by
  rcases Nat.lt_or_ge i (k + 1) with h1 | h1
  · rcases row_char l h1 with e | e <;> rw [e] <;> decide
  · rw [Nat.le_antisymm (Nat.le_of_lt_succ h) h1, row_at k 1 l]
    exact show (13 : Nat) ≠ 10 by decide
theorem row_next {k : Nat} (l : List Nat) (i : Nat) : (rowR k ++ l).getD (k + (i + 3)) 0 = l.getD i 0 := row_at k (i + 3) l
theorem row_succ {i : Nat} (h : 1 ≤ i) : rowR i = 46 :: rowR (i - 1) := by
  cases i with
  | zero => exact absurd h (by decide)
  | succ i => rfl
theorem n_in (p j T : Nat) : p + (j + 1) + 1 < p + (j + 3 + T) := by lia
theorem n_in3 (p j T U : Nat) : p + (j + 3) < p + (j + 3 + (T + 3 + U)) := by lia
theorem n_pre (p i : Nat) : p + (i + 1) - 1 = p + i := rfl
theorem n_k {j k n : Nat} (hk : 100 ≤ k) (hj : j ≤ 50) (hn : n ≤ 5) : 2 * (j + 3) + n ≤ 4 * k + 4 := by lia
theorem pre_ok {pre : List Nat} {j : Nat} {l : List Nat} {X : Array Nat} (hp : 0 < pre.length) (hl : X.getD (pre.length - 1) 0 ≠ 10) (hg : ∀ i, X.getD (pre.length + i) 0 = (rowR j ++ l).getD i 0) (i : Nat) (hi : i < j + 3) : pre.length + i ≠ 0 ∧ X.getD (pre.length + i - 1) 0 ≠ 10 := by
  refine ⟨Nat.ne_of_gt (Nat.lt_of_lt_of_le hp (Nat.le_add_right ..)), ?_⟩
  cases i with
  | zero => exact hl
  | succ i =>
    rw [n_pre, hg]
    exact row_ne10 l (Nat.lt_of_succ_lt_succ hi)
theorem rowR_len (k : Nat) : (rowR k).length = k + 3 := by simp [rowR]
section
open PySem.Builtin PySem.Builtin.Re PySem.Builtin.Str PySem.Calls
theorem sub2 {k : Nat} (hk : 1 ≤ k) (r : PySem.Str) : ∀ (rows pre : List Nat) (f : Nat) (X : Array Nat), X = (pre ++ rows.flatMap rowR).toArray → rows.length < f →
    subF code2 ⟨X⟩ r k f pre.length pre.length false = some (rows.flatMap fun j => [⟨(List.replicate j 46 ++ [69]).toArray⟩, r])
  | [], pre, f + 1, X, hX, _ => by
    have hs : X.size = pre.length := by rw [hX]; simp
    unfold subF
    rw [← hs]
    rw [show ((⟨X⟩ : PySem.Str).cps) = X from rfl, find_end (code := code2) (k := k) (t := (1, 10)) rfl rfl]
    dsimp only
    rw [if_neg (Nat.lt_irrefl _)]
    rfl
  | j :: rows, pre, f + 1, X, hX, hf => by
    have hs : X.size = pre.length + (j + 3 + (rows.flatMap rowR).length) := by rw [hX]; simp [rowR_len]
    have hX' : X = (pre ++ (rowR j ++ rows.flatMap rowR)).toArray := by rw [hX]; rfl
    have hg : ∀ i, X.getD (pre.length + i) 0 = (rowR j ++ rows.flatMap rowR).getD i 0 := fun i => by
      rw [hX', getD_at]
    obtain ⟨a, b, c⟩ := c2_find (X := X) (s := pre.length) (j := j + 1) hk (by rw [hs]; exact n_in ..) (fun i hi => by
      rw [hg]
      exact row_char _ hi) (by rw [hg]; exact row_at j 1 _) (by rw [Nat.add_assoc, hg]; exact row_at j 2 _)
    unfold subF
    rw [show ((⟨X⟩ : PySem.Str).cps) = X from rfl, a, b, c]
    dsimp only
    rw [if_pos (Nat.lt_add_of_pos_right (Nat.succ_pos _))]
    have e1 : (pre.length + (j + 1) + 2 == pre.length + (j + 1)) = false := by simp
    have ih := sub2 hk r rows (pre ++ rowR j) f X (by rw [hX', List.append_assoc]) (Nat.lt_of_succ_lt_succ hf)
    rw [List.length_append, rowR_len] at ih
    rw [e1, show pre.length + (j + 1) + 2 = pre.length + (j + 3) from rfl, ih]
    have e2 : X.extract pre.length (pre.length + (j + 1)) = (List.replicate j 46 ++ [69]).toArray := by
      have := ext_at (pre := pre) (l := List.replicate j 46 ++ [69]) (r := [13, 10] ++ rows.flatMap rowR)
      rw [show (List.replicate j 46 ++ [69] : List Nat).length = j + 1 by simp] at this
      rw [← this, hX']
      congr 1
      simp [rowR]
    rw [e2]
    rfl
noncomputable def pcs1 (r : PySem.Str) : Nat → List Nat → List PySem.Str
  | j, [] => [⟨(rowR j).toArray⟩]
  | j, i :: rest => ⟨(rowR j).toArray⟩ :: r :: pcs1 r (i - 1) rest
theorem sub1_in {k : Nat} (hk : 100 ≤ k) (r : PySem.Str) : ∀ (rows pre : List Nat) (j f : Nat) (X : Array Nat), X = (pre ++ (rowR j ++ rows.flatMap rowR)).toArray → 0 < pre.length → X.getD (pre.length - 1) 0 ≠ 10 → j ≤ 50 → (∀ i ∈ rows, 1 ≤ i ∧ i ≤ 50) → rows.length < f →
    subF code1 ⟨X⟩ r k f pre.length pre.length false = some (pcs1 r j rows)
  | [], pre, j, f + 1, X, hX, hp, hl, hj, hb, hf => by
    have hs : X.size = pre.length + (j + 3) := by rw [hX]; simp [rowR_len]
    have hg : ∀ i, X.getD (pre.length + i) 0 = (rowR j ++ ([] : List Nat).flatMap rowR).getD i 0 := fun i => by
      rw [hX, getD_at]
    have a := c1_fend (X := X) (s := pre.length) (j := j + 3) (k := k) (n_k hk hj (by decide)) (Nat.succ_pos _) hs.symm (pre_ok hp hl hg) (by rw [show pre.length + (j + 3) - 1 = pre.length + (j + 2) from rfl, hg]; exact row_at j 2 _)
    unfold subF
    rw [show ((⟨X⟩ : PySem.Str).cps) = X from rfl, a]
    dsimp only
    rw [if_pos (hs ▸ Nat.lt_add_of_pos_right (Nat.succ_pos _))]
    have e2 : X.extract pre.length X.size = (rowR j).toArray := by
      have := ext_at (pre := pre) (l := rowR j) (r := [])
      rw [rowR_len, List.append_nil] at this
      rw [hs, hX, ← this]
      simp
    rw [e2]
    rfl
  | i :: rows, pre, j, f + 1, X, hX, hp, hl, hj, hb, hf => by
    have hs : X.size = pre.length + (j + 3 + (i + 3 + (rows.flatMap rowR).length)) := by rw [hX]; simp [rowR_len]
    have hi := hb i (List.mem_cons_self ..)
    have hg : ∀ i', X.getD (pre.length + i') 0 = (rowR j ++ (i :: rows).flatMap rowR).getD i' 0 := fun i' => by
      rw [hX, getD_at]
    have h46 : X.getD (pre.length + (j + 3)) 0 = 46 := by
      rw [hg]
      exact (row_next ((i :: rows).flatMap rowR) 0).trans (rowc_dot (rows.flatMap rowR) hi.1)
    obtain ⟨a, b, c⟩ := c1_find (X := X) (s := pre.length) (j := j + 3) (k := k) (n_k hk hj (by decide)) (by rw [hs]; exact n_in3 ..) (pre_ok hp hl hg) (.inr (by rw [show pre.length + (j + 3) - 1 = pre.length + (j + 2) from rfl, hg]; exact row_at j 2 _)) h46
    unfold subF
    rw [show ((⟨X⟩ : PySem.Str).cps) = X from rfl, a, b, c]
    dsimp only
    rw [if_pos (Nat.lt_add_of_pos_right (Nat.succ_pos _))]
    have e1 : (pre.length + (j + 3) + 1 == pre.length + (j + 3)) = false := by simp
    have e3 := row_succ hi.1
    have ih := sub1_in hk r rows (pre ++ rowR j ++ [46]) (i - 1) f X (by rw [hX, List.flatMap_cons, e3]; simp) (by rw [List.length_append]; exact Nat.succ_pos _) (by
      rw [List.length_append, List.length_append, rowR_len]
      rw [show pre.length + (j + 3) + [46].length - 1 = pre.length + (j + 3) from rfl, h46]
      decide) (Nat.le_trans (Nat.sub_le ..) hi.2) (fun i' h => hb i' (List.mem_cons_of_mem _ h)) (Nat.lt_of_succ_lt_succ hf)
    rw [List.length_append, List.length_append, rowR_len] at ih
    rw [e1]
    rw [show pre.length + (j + 3) + [46].length = pre.length + (j + 3) + 1 from rfl] at ih
    rw [ih]
    have e2 : X.extract pre.length (pre.length + (j + 3)) = (rowR j).toArray := by
      have := ext_at (pre := pre) (l := rowR j) (r := (i :: rows).flatMap rowR)
      rw [rowR_len] at this
      rw [hX, this]
    rw [e2]
    rfl
theorem sub1 {k : Nat} (hk : 100 ≤ k) (r : PySem.Str) {j f : Nat} {rows : List Nat} {X : Array Nat} (hX : X = ((j :: rows).flatMap rowR).toArray) (hj : 1 ≤ j ∧ j ≤ 50) (hb : ∀ i ∈ rows, 1 ≤ i ∧ i ≤ 50) (hf : rows.length + 1 < f) :
    subF code1 ⟨X⟩ r k f 0 0 false = some (r :: pcs1 r (j - 1) rows) := by
  obtain ⟨f, rfl⟩ : ∃ f', f = f' + 1 := ⟨f - 1, (Nat.sub_add_cancel (Nat.le_trans (Nat.succ_le_succ (Nat.zero_le _)) (Nat.le_of_lt hf))).symm⟩
  have hX' : X = ([] ++ (rowR j ++ rows.flatMap rowR)).toArray := by rw [hX]; rfl
  have hs : X.size = j + 3 + (rows.flatMap rowR).length := by rw [hX']; simp [rowR_len]
  have hg : X.getD 0 0 = 46 := by
    have := getD_at (pre := []) (l := rowR j ++ rows.flatMap rowR) (i := 0)
    rw [← hX'] at this
    exact this.trans (rowc_dot _ hj.1)
  obtain ⟨a, b, c⟩ := c1_find (X := X) (s := 0) (j := 0) (k := k) (Nat.le_trans (show 2 * 0 + 5 ≤ 4 * 100 + 4 by decide) (Nat.add_le_add_right (Nat.mul_le_mul_left 4 hk) 4)) (by rw [hs, Nat.add_assoc]; rw [← Nat.add_assoc]; exact Nat.lt_of_lt_of_le (Nat.succ_pos (j + 2)) (Nat.le_add_right ..)) (fun i hi => absurd hi (Nat.not_lt_zero _)) (.inl rfl) hg
  have e3 := row_succ hj.1
  have ih := sub1_in hk r rows [46] (j - 1) f X (by rw [hX', e3]; rfl) (by decide) (by show X.getD 0 0 ≠ 10; rw [hg]; decide) (Nat.le_trans (Nat.sub_le ..) hj.2) hb (Nat.lt_of_succ_lt_succ hf)
  unfold subF
  rw [show ((⟨X⟩ : PySem.Str).cps) = X from rfl, a, b, c]
  dsimp only
  rw [if_neg (by decide)]
  have e1 : (0 + 0 + 1 == 0 + 0) = false := by decide
  rw [e1]
  rw [show ([46] : List Nat).length = 0 + 0 + 1 from rfl] at ih
  rw [ih]
  rfl
end
theorem foldl_cat : ∀ (l : List PySem.Str) (acc : Array Nat), (l.foldl (fun acc p => acc ++ (#[] : Array Nat) ++ p.cps) acc) = (acc.toList ++ l.flatMap fun p => p.cps.toList).toArray
  | [], acc => by simp
  | p :: l, acc => by
    rw [List.foldl_cons, foldl_cat l]
    simp
theorem glue_cat {X : Array Nat} {l : List PySem.Str} : Txt.join ⟨X.extract 0 0⟩ l = ⟨(l.flatMap fun p => p.cps.toList).toArray⟩ := by
  show (⟨(l.drop 1).foldl (fun acc p => acc ++ (X.extract 0 0) ++ p.cps) (l.headD PySem.Str.empty).cps⟩ : PySem.Str) = _
  have e : X.extract 0 0 = #[] := by simp
  rw [e]
  congr 1
  rw [foldl_cat]
  cases l with
  | nil => rfl
  | cons p l => rfl
theorem cat2 : ∀ rows : List Nat, ((rows.flatMap fun j => [(⟨(List.replicate j 46 ++ [69]).toArray⟩ : PySem.Str), (⟨#[13, 10]⟩ : PySem.Str)]).flatMap fun p => p.cps.toList) = rows.flatMap rowR
  | [] => rfl
  | j :: rows => by
    rw [List.flatMap_cons, List.flatMap_append, cat2 rows, List.flatMap_cons]
    congr 1
    simp [rowR]
theorem cat1 : ∀ (rows : List Nat) (j : Nat), (∀ i ∈ rows, 1 ≤ i) → ((pcs1 ⟨#[46, 46]⟩ j rows).flatMap fun p => p.cps.toList) = rowR j ++ (rows.map (· + 1)).flatMap rowR
  | [], j, _ => by simp [pcs1]
  | i :: rows, j, h => by
    have hi := h i (List.mem_cons_self ..)
    obtain ⟨i', rfl⟩ : ∃ i', i = i' + 1 := ⟨i - 1, (Nat.sub_add_cancel hi).symm⟩
    show (rowR j) ++ ([46, 46] ++ ((pcs1 ⟨#[46, 46]⟩ (i' + 1 - 1) rows).flatMap fun p => p.cps.toList)) = _
    rw [cat1 rows _ fun i h' => h i (List.mem_cons_of_mem _ h')]
    rfl
theorem quo_rows {rows : List Nat} (hl : rows.length ≤ 16) (hn : rows ≠ []) (hb : ∀ i ∈ rows, 1 ≤ i ∧ i ≤ 50) (hx : (pageR rows).length ≤ 4096) : Quo (pageR rows) (pageR (rows.map (· + 1))) := by
  have s2 := sub2 (k := 99999) (by decide) (⟨#[13, 10]⟩ : PySem.Str) rows [] 333 (rows.flatMap rowR).toArray rfl (Nat.lt_of_le_of_lt hl (by decide))
  have j2 : Txt.join ⟨(pageR rows).cps.extract 0 0⟩ (rows.flatMap fun j => [(⟨(List.replicate j 46 ++ [69]).toArray⟩ : PySem.Str), (⟨#[13, 10]⟩ : PySem.Str)]) = pageR rows := by
    rw [glue_cat, cat2]; rfl
  cases rows with
  | nil => exact absurd rfl hn
  | cons j rows =>
    have hj := hb j (List.mem_cons_self ..)
    have hb' : ∀ i ∈ rows, 1 ≤ i ∧ i ≤ 50 := fun i h => hb i (List.mem_cons_of_mem _ h)
    have s1 := sub1 (k := 99999) (by decide) (⟨#[46, 46]⟩ : PySem.Str) (j := j) (f := 333) (rows := rows) (X := ((j :: rows).flatMap rowR).toArray) rfl hj hb' (Nat.lt_of_le_of_lt hl (by decide))
    have j1 : Txt.join ⟨(pageR (j :: rows)).cps.extract 0 0⟩ ((⟨#[46, 46]⟩ : PySem.Str) :: pcs1 ⟨#[46, 46]⟩ (j - 1) rows) = pageR ((j :: rows).map (· + 1)) := by
      rw [glue_cat, List.flatMap_cons, cat1 rows _ fun i h => (hb' i h).1]
      obtain ⟨i', rfl⟩ : ∃ i', j = i' + 1 := ⟨j - 1, (Nat.sub_add_cancel hj.1).symm⟩
      rfl
    refine ⟨_, (⟨#[46, 46]⟩ : PySem.Str) :: pcs1 ⟨#[46, 46]⟩ (j - 1) rows, 99999, 99999, by decide, by decide, hx, s2, by simp, ?_⟩
    rw [j2]
    exact ⟨hx, s1, by simp, j1⟩
end

end
end Mine
/-! P34 -/
namespace Mine
section
theorem quo_page {b : Nat} {rows : List Nat} (h : RowsB b rows) (hb : b ≤ 40) : Quo (pageR rows) (pageR (rows.map (· + 1))) :=
  quo_rows h.len h.ne (fun i hi => ⟨(h.le i hi).1, Nat.le_trans (h.le i hi).2 (by lia)⟩) (Nat.le_trans (rowsB_len h) (by lia))
theorem rowsB_mapj {b j : Nat} {rows : List Nat} (h : RowsB b rows) : RowsB (b + j) (rows.map (· + j)) :=
  ⟨by rw [List.length_map]; exact h.len, fun k hk => by
    obtain ⟨i, hi, rfl⟩ := List.mem_map.mp hk
    have := h.le i hi
    exact ⟨by lia, by lia⟩, fun e => h.ne (List.map_eq_nil_iff.mp e)⟩
theorem quo_page0 {rows : List Nat} (h : RowsB 16 rows) : Quo (pageR rows) (pageR (rows.map (· + (0 + 1)))) := quo_page h (by decide)
theorem quo_pageS {rows : List Nat} {j : Nat} (h : RowsB 16 rows) (hj : j ≤ 20) : Quo (pageR (rows.map (· + (j + 1)))) (pageR (rows.map (· + (j + 1 + 1)))) := by
  have q := quo_page (rowsB_mapj (j := j + 1) h) (by lia)
  rw [List.map_map] at q
  exact q
theorem page_add {prog : Program} {w : World} {A : Around} {E : Value → Shared → Prop} {s : Shared} {t u : Tok} {Q : Value → Shared → Prop} {j : Nat} {a : List Nat} (ha : RowsB 16 a) (hj : j ≤ 20)
    (h : ∀ t' k, Q (.str (pageR (a ++ a.map (· + (j + 1)))) t') { s with toks := k }) : wpAny (model prog w) A (binaryOp .Add (.str (pageR a) t) (.str (pageR (a.map (· + (j + 1)))) u)) Q E s := by
  have h1 := rowsB_len ha
  have h2 := rowsB_len (rowsB_mapj (j := j + 1) ha)
  refine KXadd.add (Nat.le_refl _) (Nat.le_refl _) (by lia) fun t' k _ => ?_
  rw [page_cat]
  exact h t' k
end
end Mine
/-! P36 -/
namespace Mine
section
theorem nl_eq : PySem.Str.ofString "\r\n" = nl := by decide +kernel
theorem nl_ne : ((PySem.Str.ofString "\r\n").length == 0) = false := by decide +kernel
/-- the steps that are not even -/
noncomputable def odds (N : Int) (W : Nat) : List Nat → List Nat
  | [] => []
  | s :: r => if N % ((2 ^ W) ^ s + 1) = 0 then odds N W r else s :: odds N W r
theorem steps_rows {N : Int} {W : Nat} : ∀ (l : List Nat) (c : List Int × List Nat), (l.foldl (stepF N W) c).2 = rowsOf (odds N W l) c.2
  | [], _ => rfl
  | s :: r, c => by
    rw [List.foldl_cons, steps_rows r]
    have eo : odds N W (s :: r) = if N % ((2 ^ W) ^ s + 1) = 0 then odds N W r else s :: odds N W r := rfl
    rw [eo]
    unfold stepF
    by_cases h : N % ((2 ^ W) ^ s + 1) = 0
    · rw [if_pos h, if_pos h]
    · rw [if_neg h, if_neg h]
      rfl
theorem odds_pick (N : Int) (W : Nat) : odds N W [1, 2, 4, 8] ∈ picks := by
  have eo : ∀ s r, odds N W (s :: r) = if N % ((2 ^ W) ^ s + 1) = 0 then odds N W r else s :: odds N W r := fun _ _ => rfl
  rw [eo, eo, eo, eo]
  split <;> split <;> split <;> split <;> (unfold odds; decide)
theorem rows_split {N : Int} {W : Nat} {es : List Int} {rows : List Nat} (h : (es, rows) = stepsF N W [1, 2, 4, 8]) : Txt.split (pageR rows) (PySem.Str.ofString "\r\n") = rows.map rowE ++ [⟨#[]⟩] := by
  have e : rows = rowsOf (odds N W [1, 2, 4, 8]) [1] := by
    have h2 : rows = (stepsF N W [1, 2, 4, 8]).2 := by rw [← h]
    rw [h2]
    exact steps_rows _ _
  have h3 := List.all_eq_true.mp split16 _ (odds_pick N W)
  rw [nl_eq, e]
  exact eq_of_beq h3
theorem page_room {b : Nat} {rows : List Nat} (h : RowsB b rows) (hb : b ≤ 40) : (pageR rows).length + 2 ≤ PySem.sizeLine := by
  have := rowsB_len h
  rw [PySem.sizeLine_eq]
  lia
end
end Mine
/-! P37 -/
namespace Mine
section
section
open PySem.Builtin PySem.Calls
variable {prog : Program} {w : World} {A : Around} {E : Value → Shared → Prop} {s : Shared} {h₀ : Heap} {L l : Addr} {m : PySem.Str → Option Value} {news : List (Addr × Obj)} {Q : Value → Shared → Prop} {vs : List Value} {vu : Value}
theorem slice_m1 (n : Nat) : sliceBounds none (some (-1)) none (n + 1) = (((0 : Nat) : Int), ((n + 1 - 1 : Nat) : Int), 1) := by
  simp only [sliceBounds, Option.getD_none, show (1 : Int) > 0 by decide, if_true]
  congr 1
  congr 1
  lia
theorem kmt_upto {ys : List PySem.Str} {z : PySem.Str} (hi : StrsAre vs (ys ++ [z])) : StrsAre (slicePick vs.toArray none (some (-1)) none).toList ys := by
  have hlen := hi.length
  rw [List.length_append, List.length_singleton] at hlen
  have e : sliceBounds none (some (-1)) none vs.toArray.size = (((0 : Nat) : Int), ((vs.toArray.size - 1 : Nat) : Int), 1) := by
    rw [List.size_toArray, hlen]
    exact slice_m1 ys.length
  rw [kmk_pick_nat _ e]
  show StrsAre ((vs.drop 0).take (vs.toArray.size - 1 - 0)) _
  have h := hi.take' ys.length
  rw [List.take_left] at h
  rw [List.drop_zero, Nat.sub_zero, List.size_toArray, hlen, Nat.add_sub_cancel]
  exact h
theorem kmt_slice {value slice : PySem.Expr} {ys : List PySem.Str} {z : PySem.Str} {u : Tok} (F : Fr h₀ L s.heap m) (N : News h₀ L s.heap news) (hl : s.heap.IsList l vs.toArray) (hi : StrsAre vs (ys ++ [z]))
    (h : ∀ D ws h', Fr h₀ L h' m → News h₀ L h' ((D, listOf (List.toArray ws) 0) :: news) → (∀ p ∈ news, p.1 < D) → StrsAre ws ys → Q (.ref D) { s with heap := h' })
    (hs : subscripted slice false (.ref l) (.ref s.heap.objs.size) = operate [.ref s.heap.objs.size, .ref l] (getItem (.ref l) (.ref s.heap.objs.size))) (hz : vs.toArray.size ≤ PySem.sizeLine) :
    wpAny (model prog w) A (subscriptTail value slice (.ref l) (.ref s.heap.objs.size)) Q E { s with heap := s.heap.push { cls := .type "slice", data := .fields #[.none, .int (-1) u, .none] } } := by
  refine tail_any (Heap.IsList.typeIs (s := { s with heap := s.heap.push { cls := .type "slice", data := .fields #[.none, .int (-1) u, .none] } }) (hl.push _)) list_getitem_lookup
    (wpAny_getItem_list_slice (hl.push _) (Heap.IsSliceOf.new ..) .none (.int _ _) .none (by simp) ?_ hz) hs
  have N1 := News.push (F.push { cls := .type "slice", data := .fields #[.none, .int (-1) u, .none] }) (N.grown fun _ _ e => Heap.get?_push_of_some _ e) { cls := .type "list", data := .seq (slicePick vs.toArray none (some (-1)) none) }
  have hD : ∀ p ∈ news, p.1 < (s.heap.push { cls := .type "slice", data := .fields #[.none, .int (-1) u, .none] }).objs.size := fun p hp => by
    rw [Heap.size_push]
    exact Nat.lt_succ_of_lt (Heap.lt_size (N p hp).1)
  refine h _ (slicePick vs.toArray none (some (-1)) none).toList _ ((F.push _).push _) ?_ hD (kmt_upto hi)
  rw [Array.toArray_toList]
  exact N1
end

theorem strs_room {vs : List Value} {rows : List Nat} {z : PySem.Str} (h : StrsAre vs (rows.map rowE ++ [z])) (hl : rows.length ≤ 16) : vs.toArray.size ≤ PySem.sizeLine := by
  have := h.length
  rw [List.length_append, List.length_map, List.length_singleton] at this
  rw [PySem.sizeLine_eq, List.size_toArray]
  lia
end
end Mine
/-! P38 -/
namespace Mine
section
theorem lst_end {σ : Type} {h₀ : Heap} {L : Addr} {s₁ : Shared} {I : Addr} {o : Obj} {Led : σ → List (Addr × Obj)} {ps : σ → List (PySem.Str × Value)} {stored : List PySem.Str} {m₀ : PySem.Str → Option Value} {P : Nat → σ → Prop} {i : Nat} {Q : Flow → Shared → Prop} {h' : Heap} {tk : Nat} {m' : PySem.Str → Option Value}
    (c : σ) (F : Fr h₀ L h' m') (N : News h₀ L h' ((I, o) :: Led c)) (hoff : ∀ p ∈ Led c, p.1 ≠ I) (hpage : ∀ p ∈ ps c, m' p.1 = some p.2) (hst : ∀ z, (∀ p ∈ ps c, z ≠ p.1) → stored.contains z = false → m' z = m₀ z) (hP : P (i + 1) c) :
    RngPost h₀ L s₁ I o (LstS Led ps stored m₀ P (i + 1)) Q .next { s₁ with heap := h', toks := tk } :=
  ⟨h', tk, m', Led c, rfl, F, N, hoff, c, rfl, hpage, hst, hP⟩
/-- the turns of the rows -/
noncomputable def turnsOf (rows : List Nat) : List Int := rows.map (fun (k : Nat) => ((k : Int) - 1))
noncomputable abbrev StT := List Value × List Int × Nat
structure TurnP (rows : List Nat) (i : Nat) (c : StT) : Prop where
  iv : IntsAre c.1 c.2.1
  vl : c.2.1 = turnsOf (rows.take i)
theorem turnp_start {rows : List Nat} {nu : Nat} : TurnP rows 0 ([], [], nu) := ⟨.nil, rfl⟩
theorem turnp_next {rows : List Nat} {i j nu nu' : Nat} {us : List Value} {ts : List Int} {X : Int} {t : Tok} (h : TurnP rows i (us, ts, nu)) (hr : rows[i]? = some (j + 1)) (hX : X = (j : Int)) : TurnP rows (i + 1) (us ++ [.int X t], ts ++ [X], nu') :=
  ⟨h.iv.append (.cons _ _ .nil), by
    have e : rows.take (i + 1) = rows.take i ++ [j + 1] := by rw [List.take_succ, hr]; rfl
    show ts ++ [X] = _
    have h2 : ts = turnsOf (rows.take i) := h.vl
    rw [e, turnsOf, List.map_append, ← turnsOf, ← h2, hX]
    congr 1
    show [(j : Int)] = [((j + 1 : Nat) : Int) - 1]
    congr 1
    lia⟩
theorem turnp_room {rows : List Nat} {i nu : Nat} {us : List Value} {ts : List Int} (h : TurnP rows i (us, ts, nu)) (hl : rows.length ≤ 16) : us.toArray.size ≤ PySem.sizeLine := by
  have h1 := h.iv.length
  have h2 : ts = turnsOf (rows.take i) := h.vl
  have h3 : ts.length ≤ 16 := by
    rw [h2, turnsOf, List.length_map, List.length_take]
    lia
  rw [PySem.sizeLine_eq, List.size_toArray]
  dsimp only at h1
  lia
theorem row_item {rows : List Nat} {ws : List Value} {i : Nat} {v : Value} (hs : StrsAre ws (rows.map rowE)) (h : RowsB 16 rows) (hv : ws[i]? = some v) : ∃ j t, j < 16 ∧ rows[i]? = some (j + 1) ∧ v = .str (rowE (j + 1)) t := by
  have hl := hs.length
  have hi : i < rows.length := by
    have := (List.getElem?_eq_some_iff.mp hv).1
    rw [hl, List.length_map] at this
    exact this
  have h1 : (rows.map rowE)[i]? = some (rowE rows[i]) := by rw [List.getElem?_map, List.getElem?_eq_getElem hi]; rfl
  obtain ⟨t, ht⟩ := hs.get i _ h1
  have hb := h.le rows[i] (List.getElem_mem hi)
  rw [hv] at ht
  refine ⟨rows[i] - 1, t, by lia, ?_, ?_⟩
  · rw [show rows[i] - 1 + 1 = rows[i] by lia]
    exact List.getElem?_eq_getElem hi
  · rw [show rows[i] - 1 + 1 = rows[i] by lia]
    exact Option.some.inj ht
section
open PyProof.V PySem.Spec PySem.Calls
variable {prog : Program} {w : World} {A : Around} {E : Value → Shared → Prop} {s : Shared} {env : Env} {h₀ : Heap} {body : List Stmt} {Q : Flow → Shared → Prop}
noncomputable abbrev ttLed (l : Addr) (lo : Obj) (lT : Addr) (ev me e1 e2 t5 t6 : Addr × Obj) (c : StT) : List (Addr × Obj) :=
  (l, lo) :: (lT, W.listOf c.1.toArray c.2.2) :: ev :: me :: e1 :: e2 :: t5 :: t6 :: []
theorem turns_loop {x : PySem.Str} {pos : Pos} {l lT : Addr} {lo : Obj} {d7 b1 b2 b3 ev b4 b5 b6 b7 b8 me b9 e1 e2 : Addr × Obj} {r : List (Addr × Obj)} {us₀ : List Value} {nu₀ : Nat} {vs : List Value} {n : Nat} {m₀ : PySem.Str → Option Value}
    (stored : List PySem.Str) (rows : List Nat)
    (hh : A.handled = none) (hc : lo.cls = .type "list") (hd : lo.data = .seq vs.toArray n) (F : Fr h₀ env.locals s.heap m₀)
    (N : News h₀ env.locals s.heap ((l, lo) :: d7 :: (lT, W.listOf us₀.toArray nu₀) :: b1 :: b2 :: b3 :: ev :: b4 :: b5 :: b6 :: b7 :: b8 :: me :: b9 :: e1 :: e2 :: r))
    (hp : TurnP rows 0 (us₀, [], nu₀))
    (turn : ∀ (I : Addr) (_ : ∀ p ∈ ttLed l lo lT ev me e1 e2 b3 b4 (us₀, [], nu₀), p.1 < I) (c : StT) (i : Nat) v (u : PySem.Str → Option Value) h tk o, vs[i]? = some v → TurnP rows i c → o.cls = .type "list_iterator" →
      (∀ p ∈ ttLed l lo lT ev me e1 e2 b3 b4 c, p.1 ≠ I) →
      Fr h₀ env.locals h (fun z => if stored.contains z then u z else m₀ z) → News h₀ env.locals h ((I, o) :: ttLed l lo lT ev me e1 e2 b3 b4 c) →
      wpAny (model prog w) A (assign (.Name x pos) env v) (fun _ s₂ => wpAny (model prog w) A (execs body env) (RngPost h₀ env.locals { s with heap := h, toks := tk } I o (LstS (ttLed l lo lT ev me e1 e2 b3 b4) (fun _ => []) stored m₀ (TurnP rows) (i + 1)) Q) E s₂) E { s with heap := h, toks := tk })
    (done : ∀ (c : StT) (u : PySem.Str → Option Value) h tk, TurnP rows vs.length c → Fr h₀ env.locals h (fun z => if stored.contains z then u z else m₀ z) → News h₀ env.locals h (ttLed l lo lT ev me e1 e2 b3 b4 c) → Q .next { s with heap := h, toks := tk }) :
    wpAny (model prog w) A (pyIter (.ref l)) (fun it s₂ => TurnsAt prog w A h₀ env (.Name x pos) body Q E it s₂) E s := by
  refine lst_loop (l := l) (lo := lo) (vs := vs) (n := n) (ttLed l lo lT ev me e1 e2 b3 b4) (fun _ => []) stored (TurnP rows) (us₀, [], nu₀) hh (fun c => List.mem_cons_self ..) hc hd F ?_ (fun _ h => nomatch h) hp turn done
  intro p hp'
  refine N p ?_
  simp only [ttLed, List.mem_cons, List.not_mem_nil, or_false] at hp'
  simp only [List.mem_cons]
  rcases hp' with h | h | h | h | h | h | h | h <;> simp [h]
end
end
end Mine
/-! P40 -/
namespace Mine
section
noncomputable def b1 (b : Bool) : Nat := cond b 1 0
noncomputable def spC : Nat := (List.range 16).foldl (fun a n => a + (n % 2 + 8 * (n / 2 % 2) + 64 * (n / 4 % 2) + 512 * (n / 8)) * 4096 ^ n) 0
noncomputable def sp (n : Nat) : Nat := Nat.mod (Nat.div 896728444465583364214731990565516171407077275391548723200 (Nat.pow 4096 n)) 4096
noncomputable def psN (n k : Nat) (rest : List Nat) : List Nat :=
  (fun r3 => (fun r2 => (fun r1 => cond (Nat.beq (Nat.mod n 2) 1) (k :: r1) r1) (cond (Nat.beq (Nat.mod (Nat.div n 2) 2) 1) (Nat.add k 1 :: r2) r2)) (cond (Nat.beq (Nat.mod (Nat.div n 4) 2) 1) (Nat.add k 2 :: r3) r3)) (cond (Nat.beq (Nat.div n 8) 1) (Nat.add k 3 :: rest) rest)
noncomputable def tnsE (e1 e2 e4 e8 : Bool) : List Nat :=
  (fun l1 => (fun l2 => (fun l4 => cond e8 l4 (l4 ++ l4.map (Nat.add · 8))) (cond e4 l2 (l2 ++ l2.map (Nat.add · 4)))) (cond e2 l1 (l1 ++ l1.map (Nat.add · 2)))) (cond e1 [0] [0, 1])
noncomputable def covE (M : Nat) : List Nat → Nat → Nat
  | [], a => a
  | t :: r, a => covE M r (Nat.lor a (rotF M t))
noncomputable def nz (x : Nat) : Bool := cond (Nat.beq x 0) false true
structure Ck where
  pc : Nat
  e1 : Bool
  e2 : Bool
  e4 : Bool
  e8 : Bool
  k1 : Bool
  k2 : Bool
  k4 : Bool
  k8 : Bool
noncomputable def ckE (s0 s1 s2 s3 n0 n1 n2 n3 : Nat) : Ck :=
  (fun T => (fun t0 t1 t2 t3 => (fun u1 u2 => Ck.mk (Nat.add u1 u2) (Nat.beq u1 u2) (and (Nat.beq t0 t2) (Nat.beq t1 t3)) (Nat.beq (Nat.add s0 s2) (Nat.add s1 s3)) (and (Nat.beq n0 n2) (Nat.beq n1 n3))
      (and (nz u1) (nz u2)) (or (and (nz t0) (nz t2)) (and (nz t1) (nz t3))) (nz (Nat.land (Nat.lor n0 n2) (Nat.lor n1 n3))) (or (nz (Nat.land n0 n2)) (nz (Nat.land n1 n3)))) (Nat.add t0 t2) (Nat.add t1 t3))
    (Nat.mod T 8) (Nat.mod (Nat.div T 8) 8) (Nat.mod (Nat.div T 64) 8) (Nat.div T 512)) (Nat.add (Nat.add s0 s1) (Nat.add s2 s3))
noncomputable def ckOk (M : Nat) (ps : List Nat) (c : Ck) : Bool :=
  (fun b => and (and (and (cond c.e1 c.k1 true) (cond c.e2 c.k2 true)) (and (cond c.e4 c.k4 true) (cond c.e8 c.k8 true)))
    (and (cond b (Nat.beq c.pc (Nat.pow 2 (Nat.add (Nat.add (b1 c.k1) (b1 c.k2)) (Nat.add (b1 c.k4) (b1 c.k8))))) (not (Nat.beq c.pc (Nat.pow 2 (Nat.add (Nat.add (b1 c.k1) (b1 c.k2)) (Nat.add (b1 c.k4) (b1 c.k8)))))))
    (and (cond (Nat.beq (Nat.mod 16 c.pc) 0) (Nat.beq (runF ps M 44 [M]) (b1 b)) true) (cond b (Nat.beq (covE M (tnsE c.e1 c.e2 c.e4 c.e8) 0) 65535) true))))
  (Nat.beq c.pc (Nat.pow 2 (Nat.add (Nat.add (b1 c.e1) (b1 c.e2)) (Nat.add (b1 c.e4) (b1 c.e8)))))
noncomputable def ckM (n3 n2 n1 n0 : Nat) : Bool :=
  (fun M => cond (Nat.beq M 0) true (ckOk M (psN n0 0 (psN n1 4 (psN n2 8 (psN n3 12 [])))) (ckE (sp n0) (sp n1) (sp n2) (sp n3) n0 n1 n2 n3)))
    (Nat.add (Nat.add n0 (Nat.mul 16 n1)) (Nat.add (Nat.mul 256 n2) (Nat.mul 4096 n3)))
noncomputable def allN (f : Nat → Bool) : Nat → Bool
  | 0 => true
  | n + 1 => and (f n) (allN f n)
noncomputable def ck3 (n3 : Nat) : Bool := allN (fun n2 => allN (fun n1 => allN (fun n0 => ckM n3 n2 n1 n0) 16) 16) 16
end
end Mine
/-! PN -/
namespace Mine
section
noncomputable def hornr (X : Int) : List Int → Int
  | [] => 0
  | c :: r => c + X * hornr X r
theorem hornr_bd {X : Int} (hX : 18 ≤ X) : ∀ {cs : List Int}, (∀ c ∈ cs, -8 ≤ c ∧ c ≤ 8) → -(X ^ cs.length) < hornr X cs ∧ hornr X cs < X ^ cs.length
  | [], _ => by simp [hornr]
  | c :: r, h => by
    have h1 := h c (List.mem_cons_self ..)
    have h2 := hornr_bd hX (cs := r) fun d hd => h d (List.mem_cons_of_mem _ hd)
    have e : X ^ (c :: r).length = X * X ^ r.length := by rw [List.length_cons, Int.pow_succ, Int.mul_comm]
    rw [e]
    show -(X * X ^ r.length) < c + X * hornr X r ∧ c + X * hornr X r < X * X ^ r.length
    have a1 : X * hornr X r ≤ X * (X ^ r.length - 1) := Int.mul_le_mul_of_nonneg_left (by lia) (by lia)
    have a2 : X * (-(X ^ r.length) + 1) ≤ X * hornr X r := Int.mul_le_mul_of_nonneg_left (by lia) (by lia)
    rw [Int.mul_sub] at a1
    rw [Int.mul_add, Int.mul_neg] at a2
    lia
theorem hornr_zero {X : Int} (hX : 18 ≤ X) : ∀ {cs : List Int}, (∀ c ∈ cs, -8 ≤ c ∧ c ≤ 8) → (hornr X cs = 0 ↔ ∀ c ∈ cs, c = 0)
  | [], _ => by simp [hornr]
  | c :: r, h => by
    have h1 := h c (List.mem_cons_self ..)
    have ih := hornr_zero hX (cs := r) fun d hd => h d (List.mem_cons_of_mem _ hd)
    rw [List.forall_mem_cons, ← ih]
    show c + X * hornr X r = 0 ↔ _
    constructor
    · intro e
      have hR : hornr X r = 0 := by
        rcases Int.lt_trichotomy (hornr X r) 0 with hl | hl | hl
        · have : X * hornr X r ≤ X * (-1) := Int.mul_le_mul_of_nonneg_left (by lia) (by lia)
          lia
        · exact hl
        · have : X * 1 ≤ X * hornr X r := Int.mul_le_mul_of_nonneg_left (by lia) (by lia)
          lia
      rw [hR] at e
      exact ⟨by lia, hR⟩
    · rintro ⟨rfl, e⟩
      rw [e]; lia
theorem hornr_mod {X m : Int} (hX : 18 ≤ X) {cs : List Int} (hm : X ^ cs.length + 1 = m) (h : ∀ c ∈ cs, -8 ≤ c ∧ c ≤ 8) : hornr X cs % m = 0 ↔ ∀ c ∈ cs, c = 0 := by
  rw [← hm]
  rw [← hornr_zero hX h]
  have b := hornr_bd hX h
  have p : 0 < X ^ cs.length := Int.pow_pos (by lia)
  constructor
  · intro e
    obtain ⟨t, ht⟩ := Int.dvd_of_emod_eq_zero e
    generalize X ^ cs.length = Y at *
    rcases Int.lt_trichotomy t 0 with hl | hl | hl
    · have : (Y + 1) * t ≤ (Y + 1) * (-1) := Int.mul_le_mul_of_nonneg_left (by lia) (by lia)
      lia
    · rw [hl] at ht; lia
    · have : (Y + 1) * 1 ≤ (Y + 1) * t := Int.mul_le_mul_of_nonneg_left (by lia) (by lia)
      lia
  · intro e
    rw [e]; rfl
noncomputable def zsub : List Int → List Int → List Int
  | a :: x, b :: y => (a - b) :: zsub x y
  | x, [] => x
  | [], _ => []
theorem hornr_zsub (X : Int) : ∀ (a b : List Int), b.length ≤ a.length → hornr X (zsub a b) = hornr X a - hornr X b
  | [], [], _ => by simp [zsub, hornr]
  | [], _ :: _, h => by simp at h
  | a :: x, [], _ => by simp [zsub, hornr]
  | a :: x, b :: y, h => by
    show (a - b) + X * hornr X (zsub x y) = a + X * hornr X x - (b + X * hornr X y)
    rw [hornr_zsub X x y (by simpa using h), Int.mul_sub]
    lia
theorem hornr_app (X : Int) : ∀ a b : List Int, hornr X (a ++ b) = hornr X a + X ^ a.length * hornr X b
  | [], b => by simp [hornr]
  | c :: r, b => by
    show c + X * hornr X (r ++ b) = c + X * hornr X r + X ^ (r.length + 1) * hornr X b
    rw [hornr_app X r b, Int.mul_add, Int.pow_succ, Int.mul_comm (X ^ r.length) X, Int.mul_assoc]
    lia
/-- the alternating sum of the chunks -/
noncomputable def altS : List (List Int) → List Int
  | [] => []
  | c :: r => zsub c (altS r)
theorem zsub_len : ∀ (a b : List Int), (zsub a b).length = a.length
  | [], [] => rfl
  | [], _ :: _ => rfl
  | _ :: _, [] => rfl
  | _ :: x, _ :: y => congrArg (· + 1) (zsub_len x y)
theorem altS_len {s : Nat} : ∀ l : List (List Int), (∀ c ∈ l, c.length = s) → (altS l).length ≤ s
  | [], _ => Nat.zero_le _
  | c :: r, h => by
    show (zsub c (altS r)).length ≤ s
    rw [zsub_len, h c (List.mem_cons_self ..)]
    exact Nat.le_refl _
theorem alt_mod (X : Int) {s : Nat} : ∀ l : List (List Int), (∀ c ∈ l, c.length = s) → ∃ z, hornr X l.flatten = hornr X (altS l) + (X ^ s + 1) * z
  | [], _ => ⟨0, by simp [altS]⟩
  | c :: r, h => by
    have hr : ∀ d ∈ r, d.length = s := fun d hd => h d (List.mem_cons_of_mem _ hd)
    obtain ⟨z, e⟩ := alt_mod X r hr
    have hc := h c (List.mem_cons_self ..)
    refine ⟨hornr X (altS r) + X ^ s * z, ?_⟩
    show hornr X (c ++ r.flatten) = hornr X (zsub c (altS r)) + _
    rw [hornr_app, e, hc, hornr_zsub X c (altS r) (by rw [hc]; exact altS_len r hr)]
    generalize X ^ s = Y
    simp only [Int.mul_add, Int.add_mul, Int.one_mul]
    lia
theorem hornr_dval (W : Nat) : ∀ l : List Int, dval W l = hornr (2 ^ W) l
  | [] => rfl
  | c :: r => by
    show c + dval W r * 2 ^ W = c + 2 ^ W * hornr (2 ^ W) r
    rw [hornr_dval W r, Int.mul_comm]
theorem alt_div {W s : Nat} (hW : 18 ≤ (2 : Int) ^ W) {l : List (List Int)} (hl : ∀ c ∈ l, c.length = s) (hs : (altS l).length = s) (hb : ∀ c ∈ altS l, -8 ≤ c ∧ c ≤ 8) : dval W l.flatten % (((2 : Int) ^ W) ^ s + 1) = 0 ↔ ∀ c ∈ altS l, c = 0 := by
  obtain ⟨z, e⟩ := alt_mod (2 ^ W) l hl
  rw [hornr_dval, e, Int.add_mul_emod_self_left]
  exact hornr_mod hW (by rw [hs]) hb

end
end Mine
/-! P42 -/
namespace Mine
section
noncomputable def cq (q : List Int) (k : Nat) : Bool := (memL q).any fun x => x == (k : Int)
noncomputable def bi (b : Bool) : Int := if b = true then 1 else 0
theorem bi_b1 (b : Bool) : bi b = (b1 b : Int) := by cases b <;> rfl
theorem b1_le (b : Bool) : b1 b ≤ 1 := by cases b <;> decide
theorem bi_bd (b : Bool) : 0 ≤ bi b ∧ bi b ≤ 1 := by cases b <;> decide
noncomputable def nib (a b c d : Bool) : Nat := b1 a + 2 * b1 b + 4 * b1 c + 8 * b1 d
theorem sp_nib (a b c d : Bool) : sp (nib a b c d) = b1 a + 8 * b1 b + 64 * b1 c + 512 * b1 d := by
  cases a <;> cases b <;> cases c <;> cases d <;> decide +kernel
theorem nib_lt (a b c d : Bool) : nib a b c d < 16 := by
  cases a <;> cases b <;> cases c <;> cases d <;> decide
noncomputable def o1 (b : Bool) (k : Nat) : List Nat := if b = true then [k] else []
theorem psN_nib (a b c d : Bool) (k : Nat) (r : List Nat) : psN (nib a b c d) k r = o1 a k ++ (o1 b (k + 1) ++ (o1 c (k + 2) ++ (o1 d (k + 3) ++ r))) := by
  cases a <;> cases b <;> cases c <;> cases d <;> rfl
theorem bitsQ_eq (q : List Int) : bitsQ q = [bi (cq q 0), bi (cq q 1), bi (cq q 2), bi (cq q 3), bi (cq q 4), bi (cq q 5), bi (cq q 6), bi (cq q 7), bi (cq q 8), bi (cq q 9), bi (cq q 10), bi (cq q 11), bi (cq q 12), bi (cq q 13), bi (cq q 14), bi (cq q 15)] := rfl
noncomputable def oi (b : Bool) (k : Int) : List Int := if b = true then [k] else []
theorem filter4 (p : Int → Bool) (a b c d : Int) (r : List Int) : (a :: b :: c :: d :: r).filter p = oi (p a) a ++ (oi (p b) b ++ (oi (p c) c ++ (oi (p d) d ++ r.filter p))) := by
  simp only [List.filter_cons]
  cases p a <;> cases p b <;> cases p c <;> cases p d <;> rfl
theorem any_filter (p : Int → Bool) (l : List Int) (k : Int) (hk : k ∈ l) : ((l.filter p).any fun x => x == k) = p k := by
  cases h : p k with
  | true => exact List.any_eq_true.mpr ⟨k, List.mem_filter.mpr ⟨hk, h⟩, by simp⟩
  | false =>
    refine List.any_eq_false.mpr fun x hx e => ?_
    have e' : x = k := by simpa using e
    rw [e'] at hx
    rw [(List.mem_filter.mp hx).2] at h
    cases h
theorem memL_filter (q : List Int) : memL q = (rangeKs 0 16).filter fun k => (memL q).any fun x => x == k := by
  refine List.filter_congr fun k hk => ?_
  exact (any_filter (fun k => q.any fun x => x == k) _ k hk).symm
theorem memL_eq (q : List Int) : memL q = oi (cq q 0) 0 ++ (oi (cq q 1) 1 ++ (oi (cq q 2) 2 ++ (oi (cq q 3) 3 ++ (oi (cq q 4) 4 ++ (oi (cq q 5) 5 ++ (oi (cq q 6) 6 ++ (oi (cq q 7) 7 ++ (oi (cq q 8) 8 ++ (oi (cq q 9) 9 ++ (oi (cq q 10) 10 ++ (oi (cq q 11) 11 ++ (oi (cq q 12) 12 ++ (oi (cq q 13) 13 ++ (oi (cq q 14) 14 ++ (oi (cq q 15) 15 ++ []))))))))))))))) := by
  have h := memL_filter q
  rw [h]
  have e : rangeKs 0 16 = [0, 1, 2, 3, 4, 5, 6, 7, 8, 9, 10, 11, 12, 13, 14, 15] := by decide
  rw [← h]
  conv => lhs; rw [h, e]
  rw [filter4, filter4, filter4, filter4]
  rfl
structure Nb (q : List Int) (n0 n1 n2 n3 : Nat) : Prop where
  h0 : n0 = nib (cq q 0) (cq q 1) (cq q 2) (cq q 3)
  h1 : n1 = nib (cq q 4) (cq q 5) (cq q 6) (cq q 7)
  h2 : n2 = nib (cq q 8) (cq q 9) (cq q 10) (cq q 11)
  h3 : n3 = nib (cq q 12) (cq q 13) (cq q 14) (cq q 15)
noncomputable def psOf (n0 n1 n2 n3 : Nat) : List Nat := psN n0 0 (psN n1 4 (psN n2 8 (psN n3 12 [])))
noncomputable def mOf (n0 n1 n2 n3 : Nat) : Nat := Nat.add (Nat.add n0 (Nat.mul 16 n1)) (Nat.add (Nat.mul 256 n2) (Nat.mul 4096 n3))
theorem oi_map (b : Bool) (k : Int) : (oi b k).map Int.toNat = o1 b k.toNat := by cases b <;> rfl
theorem ps_ok {q : List Int} {n0 n1 n2 n3 : Nat} (h : Nb q n0 n1 n2 n3) : (memL q).map Int.toNat = psOf n0 n1 n2 n3 := by
  rw [memL_eq, psOf, h.h0, h.h1, h.h2, h.h3, psN_nib, psN_nib, psN_nib, psN_nib]
  simp only [List.map_append, List.map_nil, oi_map]
  rfl
theorem oi_sum (b : Bool) (k : Int) : ((oi b k).map fun k => (1 : Int) * 2 ^ k.toNat).sum = (b1 b : Int) * 2 ^ k.toNat := by cases b <;> simp [oi, b1]
theorem sum4_0 (a b c d : Bool) (R : Int) : (b1 a : Int) * 2 ^ 0 + ((b1 b : Int) * 2 ^ 1 + ((b1 c : Int) * 2 ^ 2 + ((b1 d : Int) * 2 ^ 3 + R))) = ((1 * nib a b c d : Nat) : Int) + R := by
  unfold nib
  lia
theorem sum4_4 (a b c d : Bool) (R : Int) : (b1 a : Int) * 2 ^ 4 + ((b1 b : Int) * 2 ^ 5 + ((b1 c : Int) * 2 ^ 6 + ((b1 d : Int) * 2 ^ 7 + R))) = ((16 * nib a b c d : Nat) : Int) + R := by
  unfold nib
  lia
theorem sum4_8 (a b c d : Bool) (R : Int) : (b1 a : Int) * 2 ^ 8 + ((b1 b : Int) * 2 ^ 9 + ((b1 c : Int) * 2 ^ 10 + ((b1 d : Int) * 2 ^ 11 + R))) = ((256 * nib a b c d : Nat) : Int) + R := by
  unfold nib
  lia
theorem sum4_12 (a b c d : Bool) (R : Int) : (b1 a : Int) * 2 ^ 12 + ((b1 b : Int) * 2 ^ 13 + ((b1 c : Int) * 2 ^ 14 + ((b1 d : Int) * 2 ^ 15 + R))) = ((4096 * nib a b c d : Nat) : Int) + R := by
  unfold nib
  lia
theorem sum_ok {q : List Int} {n0 n1 n2 n3 : Nat} (h : Nb q n0 n1 n2 n3) : ((memL q).map fun k => (1 : Int) * 2 ^ k.toNat).sum = ((mOf n0 n1 n2 n3 : Nat) : Int) := by
  rw [memL_eq]
  simp only [List.map_append, List.sum_append, oi_sum, List.map_nil, List.sum_nil]
  refine Eq.trans (sum4_0 ..) ?_
  refine Eq.trans (congrArg _ (sum4_4 ..)) ?_
  refine Eq.trans (congrArg _ (congrArg _ (sum4_8 ..))) ?_
  refine Eq.trans (congrArg _ (congrArg _ (congrArg _ (sum4_12 ..)))) ?_
  have e : (mOf n0 n1 n2 n3 : Int) = ((n0 + 16 * n1 + (256 * n2 + 4096 * n3) : Nat) : Int) := rfl
  rw [e, ← h.h0, ← h.h1, ← h.h2, ← h.h3, Nat.one_mul, Int.add_zero, Int.natCast_add, Int.natCast_add, Int.natCast_add, Int.add_assoc]
theorem oi_len (b : Bool) (k : Int) : (oi b k).length = b1 b := by cases b <;> rfl
theorem len_ok (q : List Int) : (memL q).length = b1 (cq q 0) + (b1 (cq q 1) + (b1 (cq q 2) + (b1 (cq q 3) + (b1 (cq q 4) + (b1 (cq q 5) + (b1 (cq q 6) + (b1 (cq q 7) + (b1 (cq q 8) + (b1 (cq q 9) + (b1 (cq q 10) + (b1 (cq q 11) + (b1 (cq q 12) + (b1 (cq q 13) + (b1 (cq q 14) + b1 (cq q 15))))))))))))))) := by
  conv => lhs; rw [memL_eq]
  simp only [List.length_append, oi_len, List.length_nil, Nat.add_zero]
end
end Mine
/-! P43 -/
namespace Mine
section
noncomputable abbrev aq (q : List Int) (k : Nat) : Nat := b1 (cq q k)
theorem aq_le (q : List Int) (k : Nat) : aq q k ≤ 1 := b1_le _
noncomputable abbrev KQ (n0 n1 n2 n3 : Nat) : Ck := ckE (sp n0) (sp n1) (sp n2) (sp n3) n0 n1 n2 n3
structure Dig (q : List Int) (n0 n1 n2 n3 : Nat) : Prop where
  t0 : Nat.mod (Nat.add (Nat.add (sp n0) (sp n1)) (Nat.add (sp n2) (sp n3))) 8 = aq q 0 + aq q 4 + aq q 8 + aq q 12
  t1 : Nat.mod (Nat.div (Nat.add (Nat.add (sp n0) (sp n1)) (Nat.add (sp n2) (sp n3))) 8) 8 = aq q 1 + aq q 5 + aq q 9 + aq q 13
  t2 : Nat.mod (Nat.div (Nat.add (Nat.add (sp n0) (sp n1)) (Nat.add (sp n2) (sp n3))) 64) 8 = aq q 2 + aq q 6 + aq q 10 + aq q 14
  t3 : Nat.div (Nat.add (Nat.add (sp n0) (sp n1)) (Nat.add (sp n2) (sp n3))) 512 = aq q 3 + aq q 7 + aq q 11 + aq q 15
theorem sp_nest : ∀ a b c d : Bool, sp (nib a b c d) = b1 a + 8 * (b1 b + 8 * (b1 c + 8 * b1 d)) := by decide +kernel
theorem add8 (a p b q : Nat) : (a + 8 * p) + (b + 8 * q) = (a + b) + 8 * (p + q) := by
  rw [Nat.mul_add, Nat.add_assoc, Nat.add_left_comm (8 * p), ← Nat.add_assoc]
theorem four_lt : ∀ a b c d : Bool, b1 a + b1 b + (b1 c + b1 d) < 8 := by decide +kernel
theorem two_lt : ∀ a b : Bool, b1 a + b1 b < 8 := by decide +kernel
theorem dig2 {x y p q : Nat} (hx : x < 8) (hy : y < 8) : x + 8 * p = y + 8 * q ↔ x = y ∧ p = q := by
  constructor
  · intro h
    have h1 := congrArg (· % 8) h
    have h2 := congrArg (· / 8) h
    simp only [Nat.add_mul_mod_self_left, Nat.mod_eq_of_lt hx, Nat.mod_eq_of_lt hy] at h1
    simp only [Nat.add_mul_div_left _ _ (show 0 < 8 by decide), Nat.div_eq_of_lt hx, Nat.div_eq_of_lt hy, Nat.zero_add] at h2
    exact ⟨h1, h2⟩
  · rintro ⟨rfl, rfl⟩; rfl
theorem dig_arith {T t0 t1 t2 t3 : Nat} (h : T = t0 + 8 * (t1 + 8 * (t2 + 8 * t3))) (h0 : t0 < 8) (h1 : t1 < 8) (h2 : t2 < 8) : T % 8 = t0 ∧ T / 8 % 8 = t1 ∧ T / 64 % 8 = t2 ∧ T / 512 = t3 := by
  have d1 : T / 8 = t1 + 8 * (t2 + 8 * t3) := by rw [h, Nat.add_mul_div_left _ _ (by decide), Nat.div_eq_of_lt h0, Nat.zero_add]
  have d2 : T / 64 = t2 + 8 * t3 := by rw [show (64 : Nat) = 8 * 8 from rfl, ← Nat.div_div_eq_div_mul, d1, Nat.add_mul_div_left _ _ (by decide), Nat.div_eq_of_lt h1, Nat.zero_add]
  have d3 : T / 512 = t3 := by rw [show (512 : Nat) = 64 * 8 from rfl, ← Nat.div_div_eq_div_mul, d2, Nat.add_mul_div_left _ _ (by decide), Nat.div_eq_of_lt h2, Nat.zero_add]
  refine ⟨?_, ?_, ?_, d3⟩
  · rw [h, Nat.add_mul_mod_self_left, Nat.mod_eq_of_lt h0]
  · rw [d1, Nat.add_mul_mod_self_left, Nat.mod_eq_of_lt h1]
  · rw [d2, Nat.add_mul_mod_self_left, Nat.mod_eq_of_lt h2]
theorem dig_ok {q : List Int} {n0 n1 n2 n3 : Nat} (h : Nb q n0 n1 n2 n3) : Dig q n0 n1 n2 n3 := by
  have e : Nat.add (Nat.add (sp n0) (sp n1)) (Nat.add (sp n2) (sp n3)) = (aq q 0 + aq q 4 + (aq q 8 + aq q 12)) + 8 * ((aq q 1 + aq q 5 + (aq q 9 + aq q 13)) + 8 * ((aq q 2 + aq q 6 + (aq q 10 + aq q 14)) + 8 * (aq q 3 + aq q 7 + (aq q 11 + aq q 15)))) := by
    rw [h.h0, h.h1, h.h2, h.h3, sp_nest, sp_nest, sp_nest, sp_nest]
    simp only [Nat.add_eq]
    rw [add8, add8, add8, add8, add8, add8, add8, add8, add8]
  obtain ⟨x0, x1, x2, x3⟩ := dig_arith e (four_lt _ _ _ _) (four_lt _ _ _ _) (four_lt _ _ _ _)
  rw [← Nat.add_assoc] at x0 x1 x2 x3
  exact ⟨x0, x1, x2, x3⟩
section
variable {q : List Int} {n0 n1 n2 n3 : Nat}
theorem K_pc (h : Nb q n0 n1 n2 n3) : (KQ n0 n1 n2 n3).pc = (memL q).length := by
  have d := dig_ok h
  show Nat.add (Nat.add (Nat.mod _ 8) (Nat.mod (Nat.div _ 64) 8)) (Nat.add (Nat.mod (Nat.div _ 8) 8) (Nat.div _ 512)) = _
  rw [d.t0, d.t1, d.t2, d.t3, len_ok]
  simp only [Nat.add_eq, aq]
  ac_rfl
theorem K_e1 (h : Nb q n0 n1 n2 n3) : (KQ n0 n1 n2 n3).e1 = true ↔ (aq q 0 + aq q 4 + aq q 8 + aq q 12) + (aq q 2 + aq q 6 + aq q 10 + aq q 14) = (aq q 1 + aq q 5 + aq q 9 + aq q 13) + (aq q 3 + aq q 7 + aq q 11 + aq q 15) := by
  have d := dig_ok h
  show Nat.beq (Nat.add (Nat.mod _ 8) (Nat.mod (Nat.div _ 64) 8)) (Nat.add (Nat.mod (Nat.div _ 8) 8) (Nat.div _ 512)) = true ↔ _
  rw [d.t0, d.t1, d.t2, d.t3, Nat.beq_eq]
  exact Iff.rfl
theorem K_e2 (h : Nb q n0 n1 n2 n3) : (KQ n0 n1 n2 n3).e2 = true ↔ aq q 0 + aq q 4 + aq q 8 + aq q 12 = aq q 2 + aq q 6 + aq q 10 + aq q 14 ∧ aq q 1 + aq q 5 + aq q 9 + aq q 13 = aq q 3 + aq q 7 + aq q 11 + aq q 15 := by
  have d := dig_ok h
  show and (Nat.beq (Nat.mod _ 8) (Nat.mod (Nat.div _ 64) 8)) (Nat.beq (Nat.mod (Nat.div _ 8) 8) (Nat.div _ 512)) = true ↔ _
  rw [d.t0, d.t1, d.t2, d.t3, Bool.and_eq_true, Nat.beq_eq, Nat.beq_eq]
theorem K_e4 (h : Nb q n0 n1 n2 n3) : (KQ n0 n1 n2 n3).e4 = true ↔ aq q 0 + aq q 8 = aq q 4 + aq q 12 ∧ aq q 1 + aq q 9 = aq q 5 + aq q 13 ∧ aq q 2 + aq q 10 = aq q 6 + aq q 14 ∧ aq q 3 + aq q 11 = aq q 7 + aq q 15 := by
  show Nat.beq (Nat.add (sp n0) (sp n2)) (Nat.add (sp n1) (sp n3)) = true ↔ _
  rw [h.h0, h.h1, h.h2, h.h3, sp_nest, sp_nest, sp_nest, sp_nest, Nat.beq_eq]
  simp only [Nat.add_eq]
  rw [add8, add8, add8, add8, add8, add8, dig2 (two_lt _ _) (two_lt _ _), dig2 (two_lt _ _) (two_lt _ _), dig2 (two_lt _ _) (two_lt _ _)]
theorem nib_eq : ∀ a b c d e f g h : Bool, nib a b c d = nib e f g h ↔ b1 a = b1 e ∧ b1 b = b1 f ∧ b1 c = b1 g ∧ b1 d = b1 h := by decide +kernel
theorem K_e8 (h : Nb q n0 n1 n2 n3) : (KQ n0 n1 n2 n3).e8 = true ↔ aq q 0 = aq q 8 ∧ aq q 1 = aq q 9 ∧ aq q 2 = aq q 10 ∧ aq q 3 = aq q 11 ∧ aq q 4 = aq q 12 ∧ aq q 5 = aq q 13 ∧ aq q 6 = aq q 14 ∧ aq q 7 = aq q 15 := by
  show and (Nat.beq n0 n2) (Nat.beq n1 n3) = true ↔ _
  rw [h.h0, h.h1, h.h2, h.h3, Bool.and_eq_true, Nat.beq_eq, Nat.beq_eq, nib_eq, nib_eq, and_assoc, and_assoc, and_assoc]
theorem nz_iff (x : Nat) : nz x = true ↔ 0 < x := by
  unfold nz
  cases x with
  | zero => decide
  | succ n => exact ⟨fun _ => Nat.succ_pos n, fun _ => rfl⟩
theorem aq_pos {k : Nat} : 0 < aq q k ↔ cq q k = true := by
  unfold aq
  cases cq q k <;> decide
theorem nz8 : ∀ a b c d e f g h : Bool, nz (Nat.add (b1 a + b1 b + b1 c + b1 d) (b1 e + b1 f + b1 g + b1 h)) = (a || (b || (c || (d || (e || (f || (g || (h || false)))))))) := by decide +kernel
theorem nz4 : ∀ a b c d : Bool, nz (b1 a + b1 b + b1 c + b1 d) = (a || (b || (c || (d || false)))) := by decide +kernel
theorem K_k1 (h : Nb q n0 n1 n2 n3) : (KQ n0 n1 n2 n3).k1 = ([0, 4, 8, 12, 2, 6, 10, 14].any (cq q) && [1, 5, 9, 13, 3, 7, 11, 15].any (cq q)) := by
  have d := dig_ok h
  show and (nz (Nat.add (Nat.mod _ 8) (Nat.mod (Nat.div _ 64) 8))) (nz (Nat.add (Nat.mod (Nat.div _ 8) 8) (Nat.div _ 512))) = _
  rw [d.t0, d.t1, d.t2, d.t3, nz8, nz8]
  rfl
theorem K_k2 (h : Nb q n0 n1 n2 n3) : (KQ n0 n1 n2 n3).k2 = ([0, 4, 8, 12].any (cq q) && [2, 6, 10, 14].any (cq q) || [1, 5, 9, 13].any (cq q) && [3, 7, 11, 15].any (cq q)) := by
  have d := dig_ok h
  show or (and (nz (Nat.mod _ 8)) (nz (Nat.mod (Nat.div _ 64) 8))) (and (nz (Nat.mod (Nat.div _ 8) 8)) (nz (Nat.div _ 512))) = _
  rw [d.t0, d.t1, d.t2, d.t3, nz4, nz4, nz4, nz4]
  rfl
theorem lor_nib : ∀ a b c d e f g h : Bool, Nat.lor (nib a b c d) (nib e f g h) = nib (a || e) (b || f) (c || g) (d || h) := by decide +kernel
theorem land_nib : ∀ a b c d e f g h : Bool, Nat.land (nib a b c d) (nib e f g h) = nib (a && e) (b && f) (c && g) (d && h) := by decide +kernel
theorem nz_nib : ∀ a b c d : Bool, nz (nib a b c d) = (a || b || c || d) := by decide +kernel
theorem K_k4 (h : Nb q n0 n1 n2 n3) : (KQ n0 n1 n2 n3).k4 = ((cq q 0 || cq q 8) && (cq q 4 || cq q 12) || (cq q 1 || cq q 9) && (cq q 5 || cq q 13) || (cq q 2 || cq q 10) && (cq q 6 || cq q 14) || (cq q 3 || cq q 11) && (cq q 7 || cq q 15)) := by
  show nz (Nat.land (Nat.lor n0 n2) (Nat.lor n1 n3)) = _
  rw [h.h0, h.h1, h.h2, h.h3, lor_nib, lor_nib, land_nib, nz_nib]
theorem K_k8 (h : Nb q n0 n1 n2 n3) : (KQ n0 n1 n2 n3).k8 = ((cq q 0 && cq q 8 || cq q 1 && cq q 9 || cq q 2 && cq q 10 || cq q 3 && cq q 11) || (cq q 4 && cq q 12 || cq q 5 && cq q 13 || cq q 6 && cq q 14 || cq q 7 && cq q 15)) := by
  show or (nz (Nat.land n0 n2)) (nz (Nat.land n1 n3)) = _
  rw [h.h0, h.h1, h.h2, h.h3, land_nib, land_nib, nz_nib, nz_nib]
end
end
section
/-- low bit of a difference -/
noncomputable def lowb (p o : Int) : Int := Builtin.bitAnd (o - p) (p - o)
theorem kin_mem {p x : Int} (ns ks : List Int) : x ∈ kIn p ns ks ↔ x ∈ ks ∨ ∃ o ∈ ns, p < o ∧ lowb p o = x := by
  induction ns generalizing ks with
  | nil => simp [kIn]
  | cons o r ih =>
    show x ∈ kIn p r (kStep p ks o) ↔ _
    rw [ih]
    have : x ∈ kStep p ks o ↔ x ∈ ks ∨ (p < o ∧ lowb p o = x) := by
      unfold kStep
      by_cases h1 : p < o
      · by_cases h2 : (ks.any fun x => x == Builtin.bitAnd (o - p) (p - o)) = false
        · rw [if_pos ⟨h1, h2⟩]
          constructor
          · intro h
            rcases List.mem_append.mp h with h | h
            · exact .inl h
            · exact .inr ⟨h1, (List.mem_singleton.mp h).symm⟩
          · rintro (h | ⟨_, h⟩)
            · exact List.mem_append.mpr (.inl h)
            · exact List.mem_append.mpr (.inr (List.mem_singleton.mpr h.symm))
        · rw [if_neg (fun h => h2 h.2)]
          constructor
          · exact .inl
          · rintro (h | ⟨_, h⟩)
            · exact h
            · have h3 : (ks.any fun x => x == Builtin.bitAnd (o - p) (p - o)) = true := by simpa using h2
              obtain ⟨y, hy, e⟩ := List.any_eq_true.mp h3
              have e' : y = Builtin.bitAnd (o - p) (p - o) := by simpa using e
              rw [← h]
              show Builtin.bitAnd (o - p) (p - o) ∈ ks
              rw [← e']
              exact hy
      · rw [if_neg (fun h => h1 h.1)]
        constructor
        · exact .inl
        · rintro (h | ⟨h, _⟩)
          · exact h
          · exact absurd h h1
    rw [this]
    constructor
    · rintro ((h | h) | ⟨o', ho', h⟩)
      · exact .inl h
      · exact .inr ⟨o, List.mem_cons_self .., h⟩
      · exact .inr ⟨o', List.mem_cons_of_mem _ ho', h⟩
    · rintro (h | ⟨o', ho', h⟩)
      · exact .inl (.inl h)
      · rcases List.mem_cons.mp ho' with rfl | ho'
        · exact .inl (.inr h)
        · exact .inr ⟨o', ho', h⟩
theorem kfold_mem {x : Int} {ns : List Int} (pre ks : List Int) : x ∈ pre.foldl (fun ks p => kIn p ns ks) ks ↔ x ∈ ks ∨ ∃ p ∈ pre, ∃ o ∈ ns, p < o ∧ lowb p o = x := by
  induction pre generalizing ks with
  | nil => simp
  | cons p r ih =>
    rw [List.foldl_cons, ih, kin_mem]
    constructor
    · rintro ((h | h) | ⟨p', hp', h⟩)
      · exact .inl h
      · exact .inr ⟨p, List.mem_cons_self .., h⟩
      · exact .inr ⟨p', List.mem_cons_of_mem _ hp', h⟩
    · rintro (h | ⟨p', hp', h⟩)
      · exact .inl (.inl h)
      · rcases List.mem_cons.mp hp' with rfl | hp'
        · exact .inl (.inr h)
        · exact .inr ⟨p', hp', h⟩
theorem kout_mem {x : Int} {ns : List Int} : x ∈ kOut ns ns ↔ ∃ p ∈ ns, ∃ o ∈ ns, p < o ∧ lowb p o = x := by
  unfold kOut
  rw [kfold_mem]
  simp
theorem low_tab : ∀ d : Nat, d < 16 → 0 < d → lowb 0 (d : Int) = if d % 2 = 1 then 1 else if d % 4 = 2 then 2 else if d % 8 = 4 then 4 else 8 := by decide +kernel
theorem lowb_sub (p o : Int) : lowb p o = lowb 0 (o - p) := by
  unfold lowb
  congr 1 <;> lia
theorem low_of {p o : Nat} (h : p < o) (ho : o < 16) : lowb (p : Int) (o : Int) = if (o - p) % 2 = 1 then 1 else if (o - p) % 4 = 2 then 2 else if (o - p) % 8 = 4 then 4 else 8 := by
  rw [lowb_sub, show (o : Int) - (p : Int) = ((o - p : Nat) : Int) by lia]
  exact low_tab _ (by lia) (by lia)
/-- the kinds are among four and are there once -/
structure KInv (ks : List Int) : Prop where
  sub : ∀ x ∈ ks, x = 1 ∨ x = 2 ∨ x = 4 ∨ x = 8
  len : ks.length = b1 (ks.any (· == 1)) + b1 (ks.any (· == 2)) + (b1 (ks.any (· == 4)) + b1 (ks.any (· == 8)))
theorem kinv_add {ks : List Int} {y : Int} (h : KInv ks) (hy : y = 1 ∨ y = 2 ∨ y = 4 ∨ y = 8) (hn : (ks.any fun x => x == y) = false) : KInv (ks ++ [y]) := by
  refine ⟨fun x hx => ?_, ?_⟩
  · rcases List.mem_append.mp hx with hx | hx
    · exact h.sub x hx
    · rw [List.mem_singleton.mp hx]; exact hy
  · rw [List.length_append, h.len]
    simp only [List.any_append, List.any_cons, List.any_nil, Bool.or_false, List.length_singleton]
    rcases hy with rfl | rfl | rfl | rfl
    all_goals
      rw [hn]
      simp [b1]
      try lia
theorem kstep_inv {p o : Int} {ks : List Int} (h : KInv ks) (hl : p < o → lowb p o = 1 ∨ lowb p o = 2 ∨ lowb p o = 4 ∨ lowb p o = 8) : KInv (kStep p ks o) := by
  unfold kStep
  by_cases hc : p < o ∧ (ks.any fun x => x == Builtin.bitAnd (o - p) (p - o)) = false
  · rw [if_pos hc]
    exact kinv_add h (hl hc.1) hc.2
  · rw [if_neg hc]
    exact h
theorem kin_inv {p : Int} : ∀ (ns ks : List Int), KInv ks → (∀ o ∈ ns, p < o → lowb p o = 1 ∨ lowb p o = 2 ∨ lowb p o = 4 ∨ lowb p o = 8) → KInv (kIn p ns ks)
  | [], _, h, _ => h
  | o :: r, ks, h, hl => kin_inv r _ (kstep_inv h (hl o (List.mem_cons_self ..))) fun o' ho' => hl o' (List.mem_cons_of_mem _ ho')
theorem kfold_inv {ns : List Int} : ∀ (pre ks : List Int), KInv ks → (∀ p ∈ pre, ∀ o ∈ ns, p < o → lowb p o = 1 ∨ lowb p o = 2 ∨ lowb p o = 4 ∨ lowb p o = 8) → KInv (pre.foldl (fun ks p => kIn p ns ks) ks)
  | [], _, h, _ => h
  | p :: r, ks, h, hl => kfold_inv r _ (kin_inv ns ks h (hl p (List.mem_cons_self ..))) fun p' hp' => hl p' (List.mem_cons_of_mem _ hp')
theorem kout_inv {ns : List Int} (hb : ∀ x ∈ ns, 0 ≤ x ∧ x < 16) : KInv (kOut ns ns) := by
  refine kfold_inv ns [] ⟨fun _ h => (nomatch h), rfl⟩ fun p hp o ho hlt => ?_
  have h1 := hb p hp
  have h2 := hb o ho
  have e := low_of (p := p.toNat) (o := o.toNat) (by lia) (by lia)
  rw [Int.toNat_of_nonneg h1.1, Int.toNat_of_nonneg h2.1] at e
  rw [e]
  split
  · simp
  · split
    · simp
    · split <;> simp
end
end Mine
/-! P44 -/
namespace Mine
section
variable {q : List Int} {n0 n1 n2 n3 : Nat}
theorem w18 {W : Nat} (hW : W = 6 ∨ W = 7 ∨ W = 8) : 18 ≤ (2 : Int) ^ W := by rcases hW with rfl | rfl | rfl <;> decide
theorem zsub_bd {lo hi : Int} (h0 : lo ≤ 0) (h1 : 0 ≤ hi) : ∀ {a b : List Int}, (∀ x ∈ a, 0 ≤ x ∧ x ≤ 1) → (∀ y ∈ b, lo ≤ y ∧ y ≤ hi) → ∀ z ∈ zsub a b, -hi ≤ z ∧ z ≤ 1 - lo
  | [], [], _, _, z, hz => by cases hz
  | [], _ :: _, _, _, z, hz => by cases hz
  | a :: x, [], ha, _, z, hz => ⟨Int.le_trans (Int.neg_nonpos_of_nonneg h1) (ha z hz).1, Int.le_trans (ha z hz).2 (Int.le_sub_right_of_add_le (Int.add_le_add_left h0 1))⟩
  | a :: x, b :: y, ha, hb, z, hz => by
    rcases List.mem_cons.mp hz with rfl | hz
    · have h3 := ha a (List.mem_cons_self ..)
      have h4 := hb b (List.mem_cons_self ..)
      clear ha hb hz h0 h1
      lia
    · exact zsub_bd h0 h1 (fun c hc => ha c (List.mem_cons_of_mem _ hc)) (fun c hc => hb c (List.mem_cons_of_mem _ hc)) z hz
theorem altS_bd : ∀ {l : List (List Int)}, (∀ x ∈ l.flatten, 0 ≤ x ∧ x ≤ 1) → ∀ z ∈ altS l, -((l.length / 2 : Nat) : Int) ≤ z ∧ z ≤ (((l.length + 1) / 2 : Nat) : Int)
  | [], _, z, hz => by cases hz
  | c :: r, h, z, hz => by
    have ih := altS_bd (l := r) fun x hx => h x (List.mem_append.mpr (.inr hx))
    have h2 := zsub_bd (Int.neg_nonpos_of_nonneg (Int.natCast_nonneg _)) (Int.natCast_nonneg _) (fun x hx => h x (List.mem_append.mpr (.inl hx))) ih z hz
    rw [List.length_cons, show (r.length + 1 + 1) / 2 = r.length / 2 + 1 from Nat.add_div_right _ (show 0 < 2 by decide), Int.natCast_add]
    rw [Int.sub_neg, Int.add_comm] at h2
    exact h2
theorem bits_bd : ∀ x ∈ bitsQ q, 0 ≤ x ∧ x ≤ 1 := by
  intro x hx
  rw [bitsQ_eq] at hx
  simp only [List.mem_cons, List.not_mem_nil, or_false] at hx
  rcases hx with rfl | rfl | rfl | rfl | rfl | rfl | rfl | rfl | rfl | rfl | rfl | rfl | rfl | rfl | rfl | rfl <;> exact bi_bd _
theorem chunk_div {W s : Nat} (hW : W = 6 ∨ W = 7 ∨ W = 8) {l : List (List Int)} (e : bitsQ q = l.flatten) (hl : ∀ c ∈ l, c.length = s) (hs : (altS l).length = s) (hn : l.length ≤ 16) : dval W (bitsQ q) % (((2 : Int) ^ W) ^ s + 1) = 0 ↔ ∀ c ∈ altS l, c = 0 := by
  rw [e]
  refine alt_div (w18 hW) hl hs fun c hc => ?_
  have h := altS_bd (fun x hx => bits_bd (q := q) x (e ▸ hx)) c hc
  have h1 : l.length / 2 ≤ 8 := Nat.div_le_div_right (c := 2) hn
  have h2 : (l.length + 1) / 2 ≤ 8 := Nat.le_trans (Nat.div_le_div_right (c := 2) (Nat.add_le_add_right hn 1)) (show 17 / 2 ≤ 8 by decide)
  exact ⟨Int.le_trans (Int.neg_le_neg (Int.ofNat_le.mpr h1)) h.1, Int.le_trans h.2 (Int.ofNat_le.mpr h2)⟩
theorem bi2 : ∀ a b : Bool, bi a - bi b = 0 ↔ b1 a = b1 b := by decide +kernel
theorem bi4 : ∀ a b c d : Bool, bi a - (bi b - (bi c - bi d)) = 0 ↔ b1 a + b1 c = b1 b + b1 d := by decide +kernel
theorem bi8 : ∀ a b c d e f g h : Bool, bi a - (bi b - (bi c - (bi d - (bi e - (bi f - (bi g - bi h)))))) = 0 ↔ b1 a + b1 c + b1 e + b1 g = b1 b + b1 d + b1 f + b1 h := by decide +kernel
theorem bi8' : ∀ a b c d e f g h : Bool, bi a - (bi b - (bi c - (bi d - (bi e - (bi f - (bi g - bi h)))))) = (((b1 a + b1 e) + (b1 c + b1 g) : Nat) : Int) - (((b1 b + b1 f) + (b1 d + b1 h) : Nat) : Int) := by decide +kernel
theorem alt_app (a b c d e f g h r : Int) : a - (b - (c - (d - (e - (f - (g - (h - r))))))) = a - (b - (c - (d - (e - (f - (g - h)))))) + r := by lia
theorem sum_zero (u v u' v' : Nat) : ((u : Int) - (v : Int)) + ((u' : Int) - (v' : Int)) = 0 ↔ u + u' = v + v' := by lia
theorem swap4 (a b c d : Nat) : (a + b) + (c + d) = (a + c) + (b + d) := Nat.add_add_add_comm a b c d
theorem sum16 (a b c d e f g h : Nat) : (a + b + c + d) + (e + f + g + h) = ((a + b) + (e + f)) + ((c + d) + (g + h)) := by
  rw [Nat.add_assoc (a + b), Nat.add_assoc (e + f), Nat.add_add_add_comm]
theorem st_1 {W : Nat} (hW : W = 6 ∨ W = 7 ∨ W = 8) (h : Nb q n0 n1 n2 n3) : dval W (bitsQ q) % (((2 : Int) ^ W) ^ 1 + 1) = 0 ↔ (KQ n0 n1 n2 n3).e1 = true := by
  rw [chunk_div (s := 1) (l := [[bi (cq q 0)], [bi (cq q 1)], [bi (cq q 2)], [bi (cq q 3)], [bi (cq q 4)], [bi (cq q 5)], [bi (cq q 6)], [bi (cq q 7)], [bi (cq q 8)], [bi (cq q 9)], [bi (cq q 10)], [bi (cq q 11)], [bi (cq q 12)], [bi (cq q 13)], [bi (cq q 14)], [bi (cq q 15)]]) hW (bitsQ_eq q) (by simp) rfl (Nat.le_of_ble_eq_true rfl), K_e1 h]
  show (∀ c ∈ [(bi (cq q 0) - (bi (cq q 1) - (bi (cq q 2) - (bi (cq q 3) - (bi (cq q 4) - (bi (cq q 5) - (bi (cq q 6) - (bi (cq q 7) - (bi (cq q 8) - (bi (cq q 9) - (bi (cq q 10) - (bi (cq q 11) - (bi (cq q 12) - (bi (cq q 13) - (bi (cq q 14) - bi (cq q 15))))))))))))))))], c = 0) ↔ _
  rw [List.forall_mem_cons, alt_app, bi8', bi8', sum_zero, sum16 (aq q 0), sum16 (aq q 1)]
  exact and_iff_left (fun _ h => nomatch h)
theorem st_2 {W : Nat} (hW : W = 6 ∨ W = 7 ∨ W = 8) (h : Nb q n0 n1 n2 n3) : dval W (bitsQ q) % (((2 : Int) ^ W) ^ 2 + 1) = 0 ↔ (KQ n0 n1 n2 n3).e2 = true := by
  rw [chunk_div (s := 2) (l := [[bi (cq q 0), bi (cq q 1)], [bi (cq q 2), bi (cq q 3)], [bi (cq q 4), bi (cq q 5)], [bi (cq q 6), bi (cq q 7)], [bi (cq q 8), bi (cq q 9)], [bi (cq q 10), bi (cq q 11)], [bi (cq q 12), bi (cq q 13)], [bi (cq q 14), bi (cq q 15)]]) hW (bitsQ_eq q) (by simp) rfl (Nat.le_of_ble_eq_true rfl), K_e2 h]
  show (∀ c ∈ [(bi (cq q 0) - (bi (cq q 2) - (bi (cq q 4) - (bi (cq q 6) - (bi (cq q 8) - (bi (cq q 10) - (bi (cq q 12) - bi (cq q 14)))))))), (bi (cq q 1) - (bi (cq q 3) - (bi (cq q 5) - (bi (cq q 7) - (bi (cq q 9) - (bi (cq q 11) - (bi (cq q 13) - bi (cq q 15))))))))], c = 0) ↔ _
  rw [List.forall_mem_cons, List.forall_mem_cons, bi8, bi8]
  exact and_congr_right fun _ => and_iff_left (fun _ h => nomatch h)
theorem st_4 {W : Nat} (hW : W = 6 ∨ W = 7 ∨ W = 8) (h : Nb q n0 n1 n2 n3) : dval W (bitsQ q) % (((2 : Int) ^ W) ^ 4 + 1) = 0 ↔ (KQ n0 n1 n2 n3).e4 = true := by
  rw [chunk_div (s := 4) (l := [[bi (cq q 0), bi (cq q 1), bi (cq q 2), bi (cq q 3)], [bi (cq q 4), bi (cq q 5), bi (cq q 6), bi (cq q 7)], [bi (cq q 8), bi (cq q 9), bi (cq q 10), bi (cq q 11)], [bi (cq q 12), bi (cq q 13), bi (cq q 14), bi (cq q 15)]]) hW (bitsQ_eq q) (by simp) rfl (Nat.le_of_ble_eq_true rfl), K_e4 h]
  show (∀ c ∈ [(bi (cq q 0) - (bi (cq q 4) - (bi (cq q 8) - bi (cq q 12)))), (bi (cq q 1) - (bi (cq q 5) - (bi (cq q 9) - bi (cq q 13)))), (bi (cq q 2) - (bi (cq q 6) - (bi (cq q 10) - bi (cq q 14)))), (bi (cq q 3) - (bi (cq q 7) - (bi (cq q 11) - bi (cq q 15))))], c = 0) ↔ _
  simp only [List.forall_mem_cons, List.not_mem_nil, false_implies, implies_true, and_true, bi4, aq]
theorem st_8 {W : Nat} (hW : W = 6 ∨ W = 7 ∨ W = 8) (h : Nb q n0 n1 n2 n3) : dval W (bitsQ q) % (((2 : Int) ^ W) ^ 8 + 1) = 0 ↔ (KQ n0 n1 n2 n3).e8 = true := by
  rw [chunk_div (s := 8) (l := [[bi (cq q 0), bi (cq q 1), bi (cq q 2), bi (cq q 3), bi (cq q 4), bi (cq q 5), bi (cq q 6), bi (cq q 7)], [bi (cq q 8), bi (cq q 9), bi (cq q 10), bi (cq q 11), bi (cq q 12), bi (cq q 13), bi (cq q 14), bi (cq q 15)]]) hW (bitsQ_eq q) (by simp) rfl (Nat.le_of_ble_eq_true rfl), K_e8 h]
  show (∀ c ∈ [(bi (cq q 0) - bi (cq q 8)), (bi (cq q 1) - bi (cq q 9)), (bi (cq q 2) - bi (cq q 10)), (bi (cq q 3) - bi (cq q 11)), (bi (cq q 4) - bi (cq q 12)), (bi (cq q 5) - bi (cq q 13)), (bi (cq q 6) - bi (cq q 14)), (bi (cq q 7) - bi (cq q 15))], c = 0) ↔ _
  simp only [List.forall_mem_cons, List.not_mem_nil, false_implies, implies_true, and_true, bi2, aq]
noncomputable def esE (e1 e2 e4 e8 : Bool) : List Int := oi e1 1 ++ (oi e2 2 ++ (oi e4 4 ++ (oi e8 8 ++ [])))
theorem steps_val {N : Int} {W : Nat} {e1 e2 e4 e8 : Bool} (h1 : N % (((2 : Int) ^ W) ^ 1 + 1) = 0 ↔ e1 = true) (h2 : N % (((2 : Int) ^ W) ^ 2 + 1) = 0 ↔ e2 = true) (h4 : N % (((2 : Int) ^ W) ^ 4 + 1) = 0 ↔ e4 = true) (h8 : N % (((2 : Int) ^ W) ^ 8 + 1) = 0 ↔ e8 = true) :
    stepsF N W [1, 2, 4, 8] = (esE e1 e2 e4 e8, (tnsE e1 e2 e4 e8).map (· + 1)) := by
  have f : ∀ (c : List Int × List Nat) (s : Nat) (e : Bool), (N % (((2 : Int) ^ W) ^ s + 1) = 0 ↔ e = true) → stepF N W c s = cond e (c.1 ++ [(s : Int)], c.2) (c.1, c.2 ++ c.2.map (· + s)) := by
    intro c s e h
    unfold stepF
    cases e with
    | true => rw [if_pos (h.mpr rfl)]; rfl
    | false => rw [if_neg (fun x => Bool.noConfusion (h.mp x))]; rfl
  show stepF N W (stepF N W (stepF N W (stepF N W ([], [1]) 1) 2) 4) 8 = _
  rw [f _ 1 e1 h1, f _ 2 e2 h2, f _ 4 e4 h4, f _ 8 e8 h8]
  cases e1 <;> cases e2 <;> cases e4 <;> cases e8 <;> rfl
theorem tns_val (l : List Nat) : turnsOf (l.map (· + 1)) = l.map fun (n : Nat) => (n : Int) := by
  unfold turnsOf
  rw [List.map_map]
  refine List.map_congr_left fun n _ => ?_
  show ((n + 1 : Nat) : Int) - 1 = n
  lia
theorem cq_mem {k : Nat} : cq q k = true ↔ (k : Int) ∈ memL q := by
  unfold cq
  rw [List.any_eq_true]
  constructor
  · rintro ⟨x, hx, e⟩
    have e' : x = (k : Int) := by simpa using e
    rwa [e'] at hx
  · intro h
    exact ⟨_, h, by simp⟩
theorem memL_bd : ∀ x ∈ memL q, 0 ≤ x ∧ x < 16 := by
  intro x hx
  have := mem_rangeKs (List.mem_filter.mp hx).1
  lia
theorem memL_len : (memL q).length ≤ 16 := Nat.le_trans (List.length_filter_le ..) (Nat.le_of_eq (rangeKs_length ..))
theorem kq_mem {x : Int} : x ∈ kOut (memL q) (memL q) ↔ ∃ p o : Nat, p < o ∧ o < 16 ∧ cq q p = true ∧ cq q o = true ∧ (if (o - p) % 2 = 1 then (1 : Int) else if (o - p) % 4 = 2 then 2 else if (o - p) % 8 = 4 then 4 else 8) = x := by
  rw [kout_mem]
  constructor
  · rintro ⟨p, hp, o, ho, hlt, e⟩
    have b1' := memL_bd p hp
    have b2' := memL_bd o ho
    have el := low_of (p := p.toNat) (o := o.toNat) (by lia) (by lia)
    rw [Int.toNat_of_nonneg b1'.1, Int.toNat_of_nonneg b2'.1, e] at el
    exact ⟨p.toNat, o.toNat, by lia, by lia, cq_mem.mpr (by rw [Int.toNat_of_nonneg b1'.1]; exact hp), cq_mem.mpr (by rw [Int.toNat_of_nonneg b2'.1]; exact ho), el.symm⟩
  · rintro ⟨p, o, hlt, h16, hp, ho, e⟩
    exact ⟨p, cq_mem.mp hp, o, cq_mem.mp ho, by lia, (low_of hlt h16).trans e⟩
theorem t20 : ∀ x < 16, x % 2 = 0 → x ∈ [0, 4, 8, 12, 2, 6, 10, 14] := by decide +kernel
theorem r20 : ∀ x ∈ [0, 4, 8, 12, 2, 6, 10, 14], x < 16 ∧ x % 2 = 0 := by decide +kernel
theorem cl20 : [0, 4, 8, 12, 2, 6, 10, 14].any (cq q) = true ↔ ∃ x, x < 16 ∧ x % 2 = 0 ∧ cq q x = true := by
  rw [List.any_eq_true]
  exact ⟨fun ⟨x, hx, c⟩ => ⟨x, (r20 x hx).1, (r20 x hx).2, c⟩, fun ⟨x, h1, h2, c⟩ => ⟨x, t20 x h1 h2, c⟩⟩
theorem t21 : ∀ x < 16, x % 2 = 1 → x ∈ [1, 5, 9, 13, 3, 7, 11, 15] := by decide +kernel
theorem r21 : ∀ x ∈ [1, 5, 9, 13, 3, 7, 11, 15], x < 16 ∧ x % 2 = 1 := by decide +kernel
theorem cl21 : [1, 5, 9, 13, 3, 7, 11, 15].any (cq q) = true ↔ ∃ x, x < 16 ∧ x % 2 = 1 ∧ cq q x = true := by
  rw [List.any_eq_true]
  exact ⟨fun ⟨x, hx, c⟩ => ⟨x, (r21 x hx).1, (r21 x hx).2, c⟩, fun ⟨x, h1, h2, c⟩ => ⟨x, t21 x h1 h2, c⟩⟩
theorem t40 : ∀ x < 16, x % 4 = 0 → x ∈ [0, 4, 8, 12] := by decide +kernel
theorem r40 : ∀ x ∈ [0, 4, 8, 12], x < 16 ∧ x % 4 = 0 := by decide +kernel
theorem cl40 : [0, 4, 8, 12].any (cq q) = true ↔ ∃ x, x < 16 ∧ x % 4 = 0 ∧ cq q x = true := by
  rw [List.any_eq_true]
  exact ⟨fun ⟨x, hx, c⟩ => ⟨x, (r40 x hx).1, (r40 x hx).2, c⟩, fun ⟨x, h1, h2, c⟩ => ⟨x, t40 x h1 h2, c⟩⟩
theorem t41 : ∀ x < 16, x % 4 = 1 → x ∈ [1, 5, 9, 13] := by decide +kernel
theorem r41 : ∀ x ∈ [1, 5, 9, 13], x < 16 ∧ x % 4 = 1 := by decide +kernel
theorem cl41 : [1, 5, 9, 13].any (cq q) = true ↔ ∃ x, x < 16 ∧ x % 4 = 1 ∧ cq q x = true := by
  rw [List.any_eq_true]
  exact ⟨fun ⟨x, hx, c⟩ => ⟨x, (r41 x hx).1, (r41 x hx).2, c⟩, fun ⟨x, h1, h2, c⟩ => ⟨x, t41 x h1 h2, c⟩⟩
theorem t42 : ∀ x < 16, x % 4 = 2 → x ∈ [2, 6, 10, 14] := by decide +kernel
theorem r42 : ∀ x ∈ [2, 6, 10, 14], x < 16 ∧ x % 4 = 2 := by decide +kernel
theorem cl42 : [2, 6, 10, 14].any (cq q) = true ↔ ∃ x, x < 16 ∧ x % 4 = 2 ∧ cq q x = true := by
  rw [List.any_eq_true]
  exact ⟨fun ⟨x, hx, c⟩ => ⟨x, (r42 x hx).1, (r42 x hx).2, c⟩, fun ⟨x, h1, h2, c⟩ => ⟨x, t42 x h1 h2, c⟩⟩
theorem t43 : ∀ x < 16, x % 4 = 3 → x ∈ [3, 7, 11, 15] := by decide +kernel
theorem r43 : ∀ x ∈ [3, 7, 11, 15], x < 16 ∧ x % 4 = 3 := by decide +kernel
theorem cl43 : [3, 7, 11, 15].any (cq q) = true ↔ ∃ x, x < 16 ∧ x % 4 = 3 ∧ cq q x = true := by
  rw [List.any_eq_true]
  exact ⟨fun ⟨x, hx, c⟩ => ⟨x, (r43 x hx).1, (r43 x hx).2, c⟩, fun ⟨x, h1, h2, c⟩ => ⟨x, t43 x h1 h2, c⟩⟩
theorem u40 : ∀ x < 16, x % 4 = 0 → x = 0 ∨ x = 4 ∨ x = 8 ∨ x = 12 := by decide +kernel
theorem u41 : ∀ x < 16, x % 4 = 1 → x = 1 ∨ x = 5 ∨ x = 9 ∨ x = 13 := by decide +kernel
theorem u42 : ∀ x < 16, x % 4 = 2 → x = 2 ∨ x = 6 ∨ x = 10 ∨ x = 14 := by decide +kernel
theorem u43 : ∀ x < 16, x % 4 = 3 → x = 3 ∨ x = 7 ∨ x = 11 ∨ x = 15 := by decide +kernel
theorem two_of {x y : Nat} {m : Nat → Prop} (hx : x < 16) (hy : y < 16) (hne : x ≠ y) (cx : cq q x = true) (cy : cq q y = true) (h1 : m (y - x)) (h2 : m (x - y)) : ∃ p o : Nat, p < o ∧ o < 16 ∧ cq q p = true ∧ cq q o = true ∧ m (o - p) := by
  by_cases h : x < y
  · exact ⟨x, y, h, hy, cx, cy, h1⟩
  · exact ⟨y, x, by lia, hx, cy, cx, h2⟩
theorem z1 : ∀ p < 16, ∀ o < 16, p < o → (o - p) % 2 = 1 → p % 2 = 0 → o % 2 = 1 := by decide +kernel
set_option synthInstance.maxSize 4000 in
set_option synthInstance.maxHeartbeats 400000 in
theorem z2 : ∀ p < 16, ∀ o < 16, p < o → (o - p) % 2 = 1 → ¬ p % 2 = 0 → o % 2 = 0 ∧ p % 2 = 1 := by decide +kernel
set_option synthInstance.maxSize 4000 in
set_option synthInstance.maxHeartbeats 400000 in
theorem z3 : ∀ x < 16, ∀ y < 16, x % 2 = 0 → y % 2 = 1 → x ≠ y ∧ ((y - x) % 2 = 1 ∨ y - x = 0) ∧ ((x - y) % 2 = 1 ∨ x - y = 0) := by decide +kernel
theorem z4 : ∀ p < 16, ∀ o < 16, p < o → (o - p) % 4 = 2 → o % 4 = (p + 2) % 4 := by decide +kernel
theorem z5 : ∀ x < 16, ∀ y < 16, (x + 2) % 4 = y % 4 → x ≠ y ∧ ((y - x) % 4 = 2 ∨ y - x = 0) ∧ ((x - y) % 4 = 2 ∨ x - y = 0) := by decide +kernel
theorem mod4' : ∀ r < 4, r = 0 ∨ r = 1 ∨ r = 2 ∨ r = 3 := by decide +kernel
theorem mod4 (p : Nat) : p % 4 = 0 ∨ p % 4 = 1 ∨ p % 4 = 2 ∨ p % 4 = 3 := mod4' _ (Nat.mod_lt _ (by decide))
theorem z6 (d : Nat) (h : d % 4 = 2) : ¬ d % 2 = 1 := by
  rw [← Nat.mod_mod_of_dvd d (show 2 ∣ 4 by decide), h]; decide
theorem pick_low {d : Nat} {x : Int} (e : (if d % 2 = 1 then (1 : Int) else if d % 4 = 2 then 2 else if d % 8 = 4 then 4 else 8) = x) : (d % 2 = 1 ∧ x = 1) ∨ (d % 4 = 2 ∧ x = 2) ∨ (d % 8 = 4 ∧ x = 4) ∨ (¬ d % 2 = 1 ∧ ¬ d % 4 = 2 ∧ ¬ d % 8 = 4 ∧ x = 8) := by
  by_cases c1 : d % 2 = 1
  · exact .inl ⟨c1, by rw [← e, if_pos c1]⟩
  · by_cases c2 : d % 4 = 2
    · exact .inr (.inl ⟨c2, by rw [← e, if_neg c1, if_pos c2]⟩)
    · by_cases c3 : d % 8 = 4
      · exact .inr (.inr (.inl ⟨c3, by rw [← e, if_neg c1, if_neg c2, if_pos c3]⟩))
      · exact .inr (.inr (.inr ⟨c1, c2, c3, by rw [← e, if_neg c1, if_neg c2, if_neg c3]⟩))
theorem low1 {d : Nat} (e : (if d % 2 = 1 then (1 : Int) else if d % 4 = 2 then 2 else if d % 8 = 4 then 4 else 8) = 1) : d % 2 = 1 := by
  rcases pick_low e with h | h | h | h
  · exact h.1
  · exact absurd h.2 (by decide)
  · exact absurd h.2 (by decide)
  · exact absurd h.2.2.2 (by decide)
theorem low2 {d : Nat} (e : (if d % 2 = 1 then (1 : Int) else if d % 4 = 2 then 2 else if d % 8 = 4 then 4 else 8) = 2) : d % 4 = 2 := by
  rcases pick_low e with h | h | h | h
  · exact absurd h.2 (by decide)
  · exact h.1
  · exact absurd h.2 (by decide)
  · exact absurd h.2.2.2 (by decide)
theorem low4 {d : Nat} (e : (if d % 2 = 1 then (1 : Int) else if d % 4 = 2 then 2 else if d % 8 = 4 then 4 else 8) = 4) : d % 8 = 4 := by
  rcases pick_low e with h | h | h | h
  · exact absurd h.2 (by decide)
  · exact absurd h.2 (by decide)
  · exact h.1
  · exact absurd h.2.2.2 (by decide)
theorem z8 : ∀ d < 16, ¬ d % 2 = 1 → ¬ d % 4 = 2 → ¬ d % 8 = 4 → d = 0 ∨ d = 8 := by decide +kernel
theorem kd1 (h : Nb q n0 n1 n2 n3) : (1 : Int) ∈ kOut (memL q) (memL q) ↔ (KQ n0 n1 n2 n3).k1 = true := by
  rw [kq_mem, K_k1 h, Bool.and_eq_true, cl20, cl21]
  constructor
  · rintro ⟨p, o, hlt, h16, hp, ho, e⟩
    have hm := low1 e
    by_cases hpp : p % 2 = 0
    · exact ⟨⟨p, Nat.lt_trans hlt h16, hpp, hp⟩, ⟨o, h16, z1 p (Nat.lt_trans hlt h16) o h16 hlt hm hpp, ho⟩⟩
    · exact ⟨⟨o, h16, (z2 p (Nat.lt_trans hlt h16) o h16 hlt hm hpp).1, ho⟩, ⟨p, Nat.lt_trans hlt h16, (z2 p (Nat.lt_trans hlt h16) o h16 hlt hm hpp).2, hp⟩⟩
  · rintro ⟨⟨x, hx, mx, cx⟩, ⟨y, hy, my, cy⟩⟩
    have z := z3 x hx y hy mx my
    obtain ⟨p, o, a1, a2, a3, a4, a5⟩ := two_of (m := fun d => d % 2 = 1 ∨ d = 0) hx hy z.1 cx cy z.2.1 z.2.2
    exact ⟨p, o, a1, a2, a3, a4, if_pos (a5.resolve_right (Nat.sub_ne_zero_of_lt a1))⟩
theorem kd2 (h : Nb q n0 n1 n2 n3) : (2 : Int) ∈ kOut (memL q) (memL q) ↔ (KQ n0 n1 n2 n3).k2 = true := by
  rw [kq_mem, K_k2 h, Bool.or_eq_true, Bool.and_eq_true, Bool.and_eq_true, cl40, cl41, cl42, cl43]
  constructor
  · rintro ⟨p, o, hlt, h16, hp, ho, e⟩
    have hm := low2 e
    have hp16 := Nat.lt_trans hlt h16
    have e4 := z4 p hp16 o h16 hlt hm
    have hp4 := mod4 p
    rcases hp4 with c | c | c | c
    · exact .inl ⟨⟨p, hp16, c, hp⟩, ⟨o, h16, by rw [e4, Nat.add_mod, c], ho⟩⟩
    · exact .inr ⟨⟨p, hp16, c, hp⟩, ⟨o, h16, by rw [e4, Nat.add_mod, c], ho⟩⟩
    · exact .inl ⟨⟨o, h16, by rw [e4, Nat.add_mod, c], ho⟩, ⟨p, hp16, c, hp⟩⟩
    · exact .inr ⟨⟨o, h16, by rw [e4, Nat.add_mod, c], ho⟩, ⟨p, hp16, c, hp⟩⟩
  · rintro (⟨⟨x, hx, mx, cx⟩, ⟨y, hy, my, cy⟩⟩ | ⟨⟨x, hx, mx, cx⟩, ⟨y, hy, my, cy⟩⟩)
    all_goals
      have z := z5 x hx y hy (by rw [Nat.add_mod, mx, my])
      obtain ⟨p, o, a1, a2, a3, a4, a5⟩ := two_of (m := fun d => d % 4 = 2 ∨ d = 0) hx hy z.1 cx cy z.2.1 z.2.2
      have a6 := a5.resolve_right (Nat.sub_ne_zero_of_lt a1)
      exact ⟨p, o, a1, a2, a3, a4, by rw [if_neg (z6 _ a6), if_pos a6]⟩
theorem or4 : ∀ a b c d : Bool, (a || b || c || d) = (a || (b || (c || (d || false)))) := by decide +kernel
theorem or8 : ∀ a b c d e f g h : Bool, ((a || b || c || d) || (e || f || g || h)) = (a || (b || (c || (d || (e || (f || (g || (h || false)))))))) := by decide +kernel
set_option synthInstance.maxSize 4000 in
set_option synthInstance.maxHeartbeats 400000 in
theorem k4a : ∀ p < 16, ∀ o < 16, p < o → (o - p) % 8 = 4 → (p % 8 < 4 ∧ o % 8 = p % 8 + 4) ∨ (o % 8 < 4 ∧ p % 8 = o % 8 + 4) := by decide +kernel
theorem k4b : ∀ x < 16, ∀ y < 16, y % 8 = x % 8 + 4 → x ≠ y ∧ ((y - x) % 8 = 4 ∨ y - x = 0) ∧ ((x - y) % 8 = 4 ∨ x - y = 0) := by decide +kernel
theorem k4c : ∀ d < 16, d % 8 = 4 → ¬ d % 2 = 1 ∧ ¬ d % 4 = 2 := by decide +kernel
theorem k4r : ∀ x < 16, ∀ r < 8, x % 8 = r → x = r ∨ x = r + 8 := by decide +kernel
theorem k4s : ∀ r < 8, (r < 16 ∧ r % 8 = r) ∧ (r + 8 < 16 ∧ (r + 8) % 8 = r) := by decide +kernel
theorem cl8 {r : Nat} (hr : r < 8) : (cq q r || cq q (r + 8)) = true ↔ ∃ x, x < 16 ∧ x % 8 = r ∧ cq q x = true := by
  rw [Bool.or_eq_true]
  constructor
  · rintro (c | c)
    · exact ⟨r, (k4s r hr).1.1, (k4s r hr).1.2, c⟩
    · exact ⟨r + 8, (k4s r hr).2.1, (k4s r hr).2.2, c⟩
  · rintro ⟨x, hx, hm, c⟩
    rcases k4r x hx r hr hm with rfl | rfl
    · exact .inl c
    · exact .inr c
theorem kd4 (h : Nb q n0 n1 n2 n3) : (4 : Int) ∈ kOut (memL q) (memL q) ↔ (KQ n0 n1 n2 n3).k4 = true := by
  rw [kq_mem, K_k4 h, or4]
  show _ ↔ ([0, 1, 2, 3].any fun r => (cq q r || cq q (r + 8)) && (cq q (r + 4) || cq q (r + 4 + 8))) = true
  rw [List.any_eq_true]
  have hr4 : ∀ r ∈ [0, 1, 2, 3], r < 8 ∧ r + 4 < 8 := by decide
  have h4r : ∀ r < 4, r ∈ [0, 1, 2, 3] := by decide
  constructor
  · rintro ⟨p, o, hlt, h16, hp, ho, e⟩
    have hp16 := Nat.lt_trans hlt h16
    rcases k4a p hp16 o h16 hlt (low4 e) with ⟨a1, a2⟩ | ⟨a1, a2⟩
    · exact ⟨p % 8, h4r _ a1, (Bool.and_eq_true ..).mpr ⟨(cl8 (hr4 _ (h4r _ a1)).1).mpr ⟨p, hp16, rfl, hp⟩, (cl8 (hr4 _ (h4r _ a1)).2).mpr ⟨o, h16, a2, ho⟩⟩⟩
    · exact ⟨o % 8, h4r _ a1, (Bool.and_eq_true ..).mpr ⟨(cl8 (hr4 _ (h4r _ a1)).1).mpr ⟨o, h16, rfl, ho⟩, (cl8 (hr4 _ (h4r _ a1)).2).mpr ⟨p, hp16, a2, hp⟩⟩⟩
  · rintro ⟨r, hr, c⟩
    obtain ⟨c1, c2⟩ := (Bool.and_eq_true ..).mp c
    obtain ⟨x, hx, mx, cx⟩ := (cl8 (hr4 r hr).1).mp c1
    obtain ⟨y, hy, my, cy⟩ := (cl8 (hr4 r hr).2).mp c2
    have z := k4b x hx y hy (by rw [my, mx])
    obtain ⟨p, o, a1, a2, a3, a4, a5⟩ := two_of (m := fun d => d % 8 = 4 ∨ d = 0) hx hy z.1 cx cy z.2.1 z.2.2
    have a6 := a5.resolve_right (Nat.sub_ne_zero_of_lt a1)
    have a7 := k4c _ (Nat.lt_of_le_of_lt (Nat.sub_le ..) a2) a6
    exact ⟨p, o, a1, a2, a3, a4, by rw [if_neg a7.1, if_neg a7.2, if_pos a6]⟩
theorem kd8 (h : Nb q n0 n1 n2 n3) : (8 : Int) ∈ kOut (memL q) (memL q) ↔ (KQ n0 n1 n2 n3).k8 = true := by
  rw [kq_mem, K_k8 h, or8]
  show _ ↔ ([0, 1, 2, 3, 4, 5, 6, 7].any fun p => cq q p && cq q (p + 8)) = true
  rw [List.any_eq_true]
  have h8 : ∀ p ∈ [0, 1, 2, 3, 4, 5, 6, 7], p < p + 8 ∧ p + 8 < 16 ∧ (if (p + 8 - p) % 2 = 1 then (1 : Int) else if (p + 8 - p) % 4 = 2 then 2 else if (p + 8 - p) % 8 = 4 then 4 else 8) = 8 := by decide +kernel
  have h8m : ∀ p < 8, p ∈ [0, 1, 2, 3, 4, 5, 6, 7] := by decide +kernel
  constructor
  · rintro ⟨p, o, hlt, h16, hp, ho, e⟩
    rcases pick_low e with c | c | c | c
    · exact absurd c.2 (by decide)
    · exact absurd c.2 (by decide)
    · exact absurd c.2 (by decide)
    · have hd : o - p = 8 := (z8 _ (Nat.lt_of_le_of_lt (Nat.sub_le ..) h16) c.1 c.2.1 c.2.2.1).resolve_left (Nat.sub_ne_zero_of_lt hlt)
      have ho2 : o = p + 8 := by rw [← hd, Nat.add_sub_cancel' (Nat.le_of_lt hlt)]
      rw [ho2] at ho h16
      exact ⟨p, h8m p (Nat.lt_of_add_lt_add_right (n := 8) h16), (Bool.and_eq_true ..).mpr ⟨hp, ho⟩⟩
  · rintro ⟨p, hp, c⟩
    obtain ⟨c1, c2⟩ := (Bool.and_eq_true ..).mp c
    exact ⟨p, p + 8, (h8 p hp).1, (h8 p hp).2.1, c1, c2, (h8 p hp).2.2⟩
theorem any_iff {l : List Int} {k : Int} {b : Bool} (h : k ∈ l ↔ b = true) : (l.any fun x => x == k) = b := by
  cases b with
  | true => exact List.any_eq_true.mpr ⟨k, h.mpr rfl, by simp⟩
  | false =>
    refine List.any_eq_false.mpr fun x hx e => ?_
    have e' : x = k := by simpa using e
    rw [e'] at hx
    exact Bool.noConfusion (h.mp hx)
theorem kq_len (h : Nb q n0 n1 n2 n3) : (kOut (memL q) (memL q)).length = b1 (KQ n0 n1 n2 n3).k1 + b1 (KQ n0 n1 n2 n3).k2 + (b1 (KQ n0 n1 n2 n3).k4 + b1 (KQ n0 n1 n2 n3).k8) := by
  rw [(kout_inv memL_bd).len, any_iff (kd1 h), any_iff (kd2 h), any_iff (kd4 h), any_iff (kd8 h)]
end
end Mine
/-! F_lay0 -/
namespace Mine
section
theorem lay_no {w : World} {loose : List PySem.Str} {mean : ExcName → Option Value} {mg mb : PySem.Str → Option Value}
    {dp un : Nat} {gd : Option (List Code)} {cn : PySem.Str} {cs : Scope} {a : Addr} {ccd : Value} {cl : List (PySem.Str × Addr)} {outer : List Env} {A₀ : Around} {base h₀ : Heap} {L : Addr} {m : PySem.Str → Option Value} {s : Shared} {Q E : Value → Shared → Prop} {news : List (Addr × Obj)}
    (B : Below A₀ base outer h₀) (F : Fr h₀ L s.heap m) (X : (hd.heap_1 w.params).In h₀) (N : News h₀ L s.heap news) (T : Top topProg loose mean mg mb h₀) (hk : cs.kind = .function)
    {l : Addr} {vs : List Value} {ns : List Int} {nn : Nat} (hi : IntsAre vs ns) (N0 : News h₀ L s.heap ((l, W.listOf vs.toArray nn) :: news)) (hlen : ns.length ≤ 16) (hpos : 0 < ns.length) (hne : (16 : Int).fmod (ns.length : Int) ≠ 0)
    (hd1 : dp + 2 < recursionLimit) (hu : un + 128 < cLine)
    (hret : ∀ h1 tk1, Fr h₀ L h1 m → News h₀ L h1 ((l, W.listOf vs.toArray nn) :: news) → Q (.bool false) { s with heap := h1, toks := tk1 }) :
    wpAny (model Challenge.rw_sn0051_01.row.prog w) (ktrTop dp un gd cn cs L a ccd cl outer) (call (.ref 136) [.ref l]) Q E s := by
  revert X
  k_fill
  intro X
  refine wpAny_call ?_
  k_with_none
  k_with "pyIter ref" => fail
  first
  | (k_dflt cell_enter)
  | (k_dflt (refine' code_def ?k1 ?k2 ?k3 ?k4 ?k5 ?kA ?kF ?kK ?k6 ?k7 ?k8 ?k9 ?kB ?_ ?c2 ?c3 ?c4 ?c5; (case kA => exact rfl); (case kF => exact rfl); (case kK => assumption); (case k1 => k_asm); (case k2 => k_asm); (case k3 => k_asm); (case k4 => k_asm); (case k5 => k_asm); (case k6 => k_is); (case k7 => k_is); (case k8 => ktr_room); (case k9 => first | exact BindsTo.of_eq rfl | exact binds_K (by k_in) rfl (by k_is) rfl rfl rfl); (case c5 => decide); (case kB => exact locs rfl); (case c2 => exact rfl); (case c3 => exact rfl); (case c4 => exact rfl); k_whole; intro g' L' h' FG' F' N' B' X' T'; (try dsimp only); (try k_lift B'); (try k_fold)))
  | (k_dflt (refine' code_defC ?k1 ?k2 ?k3 ?k4 ?k5 ?kA ?kF ?kK ?k6 ?k7 ?k8 ?k9 ?kB ?kD ?_ ?c2 ?c3 ?c4; (case kA => exact rfl); (case kF => exact rfl); (case kK => assumption); (case k1 => k_asm); (case k2 => k_asm); (case k3 => k_asm); (case k4 => k_asm); (case k5 => k_asm); (case k6 => k_is); (case k7 => k_is); (case k8 => ktr_room); (case k9 => first | exact BindsTo.of_eq rfl | exact binds_K (by k_in) rfl (by k_is) rfl rfl rfl); (case kB => exact rfl); (case kD => decide); (case c2 => exact rfl); (case c3 => exact rfl); (case c4 => exact rfl); k_whole; intro g' L' h' tk' cells' FG' F' N' Y' B' X' T' l'; (try dsimp only); (try k_cells Y'); (try simp only [List.nil_append, List.cons_append] at N'); (try k_lt l'); (try k_lift B'); (try k_fold)))
  k_steps
  all_goals first | (exact absurd (by assumption) hne) | skip
  rename News _ _ _ _ => kN
  exact hret _ _ (by k_asm) (kst_newsOf kN (by kst_inAny))

end
end Mine
/-! P27 -/
namespace Mine
section
section
open PySem.Builtin PySem.Calls PySem.Flt
noncomputable def fl16 (n : Nat) : UInt64 := Float64.ofInt (n : Int)
noncomputable def flKey (b : UInt64) : Option Nat := (List.range 16).find? fun n => fl16 n == b
theorem flKey_of {b : UInt64} {n : Nat} (h : flKey b = some n) : n < 16 ∧ b = fl16 n := by
  have h1 := List.find?_some h
  have h2 := List.mem_range.mp (List.mem_of_find?_eq_some h)
  exact ⟨h2, (eq_of_beq h1).symm⟩
theorem fl_cmp : ∀ a < 16, ∀ b < 16, (Float64.cmp (fl16 a) (fl16 b) == some Ordering.lt) = decide (a < b) := by decide +kernel
theorem fl_key : ∀ n < 16, flKey (fl16 n) = some n := by decide +kernel
@[reducible] noncomputable def flKind : KeyKind where
  α := Nat
  blt a b := decide (a < b)
  irrefl a := by simp
  trans a b c h1 h2 := by simp only [decide_eq_true_eq] at *; lia
  negTrans a b c h := by simp only [decide_eq_true_eq] at *; lia
  total a b h1 h2 := by simp only [decide_eq_false_iff_not] at *; lia
  keyOf v := match v with | .float b _ => flKey b | _ => none
  dflt := 0
theorem oneLt_float {prog : Program} {w : World} {A : Around} {E : Value → Shared → Prop} {s : Shared} {a b : UInt64} {t u : Tok} {Q : Bool → Shared → Prop} (h : Q (Float64.cmp a b == some Ordering.lt) s) : wpAny (model prog w) A (oneLt' true (.float a t) (.float b u)) Q E s := by
  rw [oneLt'_eq]
  simp only [if_true]
  refine wpAny_bind (wpAny_cRoomFor_byValue rfl ?_)
  refine wpAny_bind (wpAny_callSpecialIfBound?_slot (typeIs_float s a t) F.slot_float_lt (call_gives F.slot_float_lt (typeIs_float s a t) F.entry_float_lt (F.args_float_lt_2 _ _) (AutoFloatG5.float___lt___float_float_0 a t b u) ?_))
  exact wpAny_truthy_bool h
theorem flKind_oneLt : flKind.OneLt := by
  intro prog w A E s x y a b Q ha hb h
  cases x <;> simp only [flKind, reduceCtorEq] at ha
  cases y <;> simp only [flKind, reduceCtorEq] at hb
  obtain ⟨a1, rfl⟩ := flKey_of ha
  obtain ⟨b1, rfl⟩ := flKey_of hb
  refine oneLt_float ?_
  rw [fl_cmp _ a1 _ b1]
  exact h
end

end
end Mine
/-! P28 -/
namespace Mine
section
section
open PySem.Builtin PySem.Calls PySem.Flt
inductive FlsAre : List Value → List Nat → Prop
  | nil : FlsAre [] []
  | cons (n : Nat) (t : Tok) {vs ns} : n < 16 → FlsAre vs ns → FlsAre (.float (fl16 n) t :: vs) (n :: ns)
theorem FlsAre.len {vs : List Value} {ns : List Nat} (H : FlsAre vs ns) : vs.length = ns.length := by
  induction H with
  | nil => rfl
  | cons _ _ _ _ ih => exact congrArg (· + 1) ih
theorem FlsAre.app {vs ws : List Value} {ns ms : List Nat} (H : FlsAre vs ns) (H' : FlsAre ws ms) : FlsAre (vs ++ ws) (ns ++ ms) := by
  induction H with
  | nil => exact H'
  | cons n t hn _ ih => exact .cons n t hn ih
theorem FlsAre.all {vs : List Value} {ns : List Nat} (H : FlsAre vs ns) : ∀ v ∈ vs, ∃ n t, n < 16 ∧ v = .float (fl16 n) t := by
  induction H with
  | nil => exact fun v hv => nomatch hv
  | cons n t hn _ ih =>
    intro v hv
    rcases List.mem_cons.mp hv with rfl | hv
    · exact ⟨n, t, hn, rfl⟩
    · exact ih v hv
noncomputable def flN (v : Value) : Nat := (flKind.keyOf v).getD 0
theorem flN_of {n : Nat} {t : Tok} (h : n < 16) : flN (.float (fl16 n) t) = n := by
  show (flKey (fl16 n)).getD 0 = n
  rw [fl_key n h]
  rfl
theorem FlsAre.nums {vs : List Value} {ns : List Nat} (H : FlsAre vs ns) : vs.map flN = ns := by
  induction H with
  | nil => rfl
  | cons n t hn _ ih => rw [List.map_cons, ih, flN_of hn]
theorem flsAre_map : ∀ (vs : List Value), (∀ v ∈ vs, ∃ n t, n < 16 ∧ v = Value.float (fl16 n) t) → FlsAre vs (vs.map flN)
  | [], _ => .nil
  | v :: vs, h => by
    obtain ⟨n, t, hn, rfl⟩ := h v (List.mem_cons_self ..)
    rw [List.map_cons, flN_of hn]
    exact .cons n t hn (flsAre_map vs fun u hu => h u (List.mem_cons_of_mem _ hu))
theorem rng_of : ∀ (l : List Nat) (k : Nat), l.Pairwise (· < ·) → (∀ n ∈ l, k ≤ n ∧ n < k + l.length) → l = List.range' k l.length
  | [], _, _, _ => rfl
  | a :: r, k, hs, hb => by
    obtain ⟨h1, h2⟩ := List.pairwise_cons.mp hs
    have ha := hb a (List.mem_cons_self ..)
    rw [List.length_cons] at ha
    have ih := rng_of r (k + 1) h2 (fun n hn => by
      have := h1 n hn
      have := hb n (List.mem_cons_of_mem _ hn)
      rw [List.length_cons] at this
      lia)
    have e : a = k := by
      cases r with
      | nil => simp at ha; lia
      | cons b r =>
        have hbk : b = k + 1 := by
          rw [List.length_cons, List.range'_succ] at ih
          exact (List.cons.inj ih).1
        have := h1 b (List.mem_cons_self ..)
        lia
    rw [List.length_cons, List.range'_succ, ← ih, e]
theorem range_of {l : List Nat} (hl : l.length = 16) (hb : ∀ n ∈ l, n < 16) (hs : l.Pairwise (· < ·)) : l = List.range 16 := by
  rw [rng_of l 0 hs (fun n hn => ⟨Nat.zero_le _, by rw [hl, Nat.zero_add]; exact hb n hn⟩), hl, List.range_eq_range']
theorem keyKind_fls {v₁ v₂ : Value} {vs : List Value} {ns : List Nat} (hS : FlsAre (v₁ :: v₂ :: vs) ns) : keyKind' (v₁ :: v₂ :: vs).toArray = pure oneType' := by
  have first : ∀ {vs : List Value} {ns : List Nat}, FlsAre vs ns → vs.mapM firstOfTuple' = pure (vs.map fun _ => none) := by
    intro vs ns h
    induction h with
    | nil => simp
    | cons n t hn h ih => rw [List.mapM_cons, show firstOfTuple' (.float (fl16 n) t) = pure none from rfl, ih]; simp
  have types : ∀ {vs : List Value} {ns : List Nat}, FlsAre vs ns → vs.mapM typeOf = pure (vs.map fun _ => Value.type "float") := by
    intro vs ns h
    induction h with
    | nil => simp
    | cons n t hn h ih =>
      rw [List.mapM_cons, ih]
      show (pure (Value.type "float") >>= fun b => pure _ >>= fun bs => pure (b :: bs)) = _
      simp
  rw [keyKind'_eq, List.mapM_toArray, first hS]
  simp only [map_pure, pure_bind]
  rw [if_neg (by simp), if_neg (by simp)]
  rw [oneTypeOnly'_eq, List.mapM_toArray, types hS]
  simp only [map_pure, pure_bind]
  have hall : ((List.map (fun _ => Value.type "float") (v₁ :: v₂ :: vs)).toArray.all fun x => x == Value.type "float") = true := by
    simp only [List.all_toArray, List.all_map, List.all_eq_true]
    intro _ _
    rfl
  have h0 : (List.map (fun _ => Value.type "float") (v₁ :: v₂ :: vs)).toArray[0]? = some (Value.type "float") := by simp
  rw [h0]
  simp only [hall, if_true, pure_bind, Option.isSome_some]
end

end
end Mine
/-! P29 -/
namespace Mine
section
section
open PySem.Builtin PySem.Calls PySem.Flt
theorem fls_keys {vs : List Value} {ns : List Nat} (hS : FlsAre vs ns) : KeysOf flKind (pairsOf vs) := by
  intro p hp
  rw [pairsOf_toList] at hp
  obtain ⟨n, t, hn, e⟩ := hS.all _ (mem_zip_self hp).2
  exact ⟨n, by rw [e]; exact fl_key n hn⟩
theorem KK_fl {xs : Array Keyed} {i : Nat} (hi : i < xs.size) {n : Nat} {t : Tok} {q : Value} (hn : n < 16) (hx : xs[i] = (.float (fl16 n) t, q)) : KK flKind xs i = n := by
  unfold KK
  rw [getElem?_pos xs i hi, hx]
  show (flKey (fl16 n)).getD 0 = n
  rw [fl_key n hn]
  rfl
theorem sorted_out_fl {vs : List Value} {ns : List Nat} (hS : FlsAre vs ns) (hr : ns.Perm (List.range 16)) {xs : Array Keyed} (hp : xs.Perm (pairsOf vs)) (hs : SortedToK flKind xs (pairsOf vs).size) :
    FlsAre (xs.map (·.2)).toList (List.range 16) := by
  have hl : xs.toList.Perm (vs.zip vs) := by rw [← pairsOf_toList]; exact Array.perm_iff_toList_perm.mp hp
  have hmem : ∀ p, p ∈ xs.toList → p.1 = p.2 ∧ p.1 ∈ vs := fun p hp' => mem_zip_self (hl.mem_iff.mp hp')
  have h1 : FlsAre (xs.toList.map (·.1)) ((xs.toList.map (·.1)).map flN) := flsAre_map _ (by
    intro v hv
    obtain ⟨p, hp', rfl⟩ := List.mem_map.mp hv
    exact hS.all _ (hmem p hp').2)
  rw [List.map_map] at h1
  have e : (xs.map (·.2)).toList = xs.toList.map (·.1) := by
    rw [Array.toList_map]; exact List.map_congr_left fun p hp' => (hmem p hp').1.symm
  rw [e]
  have h2 : (xs.toList.map (flN ∘ (·.1))).Perm ns := by
    have h3 := hl.map (fun p => flN p.1)
    have e2 : (vs.zip vs).map (fun p => flN p.1) = ns := by
      have : (vs.zip vs).map (fun p => flN p.1) = ((vs.zip vs).map Prod.fst).map flN := by rw [List.map_map]; rfl
      rw [this, List.map_fst_zip (Nat.le_refl _), hS.nums]
    rwa [e2] at h3
  have h4 := h2.trans hr
  have hlen : (xs.toList.map (flN ∘ (·.1))).length = 16 := by rw [h4.length_eq, List.length_range]
  have hlt : ∀ n ∈ xs.toList.map (flN ∘ (·.1)), n < 16 := fun n hn => List.mem_range.mp (h4.mem_iff.mp hn)
  have hnd : (xs.toList.map (flN ∘ (·.1))).Nodup := h4.nodup_iff.mpr List.nodup_range
  have hpw : (xs.toList.map (flN ∘ (·.1))).Pairwise (· < ·) := by
    rw [List.pairwise_iff_getElem]
    intro i j hi hj hij
    have hi' : i < xs.size := by simpa using hi
    have hj' : j < xs.size := by simpa using hj
    have q := hs i j (Nat.le_of_lt hij) (by rw [← hp.size_eq]; exact hj')
    obtain ⟨a, t, ha, ea⟩ := hS.all _ (hmem xs[i] (by simp)).2
    obtain ⟨b, u, hb, eb⟩ := hS.all _ (hmem xs[j] (by simp)).2
    rw [KK_fl hi' ha (q := xs[i].2) (Prod.ext ea rfl), KK_fl hj' hb (q := xs[j].2) (Prod.ext eb rfl)] at q
    change decide (b < a) = false at q
    have q' : ¬ b < a := of_decide_eq_false q
    have ea' : (xs.toList.map (flN ∘ (·.1)))[i] = a := by
      simp only [List.getElem_map, Array.getElem_toList, Function.comp]
      rw [ea, flN_of ha]
    have eb' : (xs.toList.map (flN ∘ (·.1)))[j] = b := by
      simp only [List.getElem_map, Array.getElem_toList, Function.comp]
      rw [eb, flN_of hb]
    have hne : (xs.toList.map (flN ∘ (·.1)))[i] ≠ (xs.toList.map (flN ∘ (·.1)))[j] := fun h => absurd ((List.getElem_inj hnd).mp h) (Nat.ne_of_lt hij)
    rw [ea', eb'] at hne ⊢
    omega
  have e9 := range_of hlen hlt hpw
  rw [e9] at h1
  exact h1
variable {prog : Program} {w : World} {A : Around} {E : Value → Shared → Prop} {s : Shared}
/-- sorted(met): sixteen floats, each of 0 .. 15 once -/
theorem kx_sorted16 {h₀ : Heap} {L : Addr} {m : PySem.Str → Option Value} {news : List (Addr × Obj)} {l : Addr} {vs : List Value} {ns : List Nat} {Q : Value → Shared → Prop}
    (F : Fr h₀ L s.heap m) (N : News h₀ L s.heap news) (hl : s.heap.IsList l vs.toArray) (hS : FlsAre vs ns) (hr : ns.Perm (List.range 16))
    (h : ∀ (h' : Heap) (vs' : List Value) (e : Nat), Fr h₀ L h' m → News h₀ L h' ((s.heap.objs.size + 1, seqObj "list" vs'.toArray e) :: news) → FlsAre vs' (List.range 16) → Q (.ref (s.heap.objs.size + 1)) { s with heap := h' }) :
    wpAny (model prog w) A (call (.builtin "sorted") [.ref l]) Q E s := by
  have h16 : ns.length = 16 := by rw [hr.length_eq, List.length_range]
  refine sortedK flKind_oneLt hl (fls_keys hS) (fun v₁ v₂ rest e => keyKind_fls (by rw [← e]; exact hS)) (by rw [hS.len, h16]; decide) fun st' hp hs => ?_
  obtain ⟨e, he⟩ := sortedAll_at s.heap vs ((arrOf st').map (·.2))
  exact h _ ((arrOf st').map (·.2)).toList e (F.kept fun _ _ => sortedAll_old) (N.kept_cons F (fun _ _ => sortedAll_old) (Nat.le_succ _) he) (sorted_out_fl hS hr hp hs)
end

end
end Mine
/-! P30 -/
namespace Mine
section
section
open PySem.Builtin PySem.Flt
/-- n / d as the law reckons it -/
noncomputable def frF (n d : Int) : UInt64 := Float64.ofFrac (decide (n < 0) != decide (d < 0)) n.natAbs d.natAbs
noncomputable def ne0 (x y : UInt64) : Bool := !(Float64.cmp x y == some Ordering.eq)
noncomputable def hueF (h s v : UInt64) : UInt64 := Float64.mul (rgbH (hsvT h s v).1 (hsvT h s v).2.1 (hsvT h s v).2.2) (Float64.ofInt 16)
noncomputable def hueOk (h s v : UInt64) (k : Nat) : Bool :=
  ne0 s 0 && !Float64.isInf (Float64.mul h 4618441417868443648) && !Float64.isNaN (Float64.mul h 4618441417868443648) && decide ((Flt.toInt Float64.truncOf (Float64.mul h 4618441417868443648)).natAbs < 1000) &&
  ne0 (mn3 (hsvT h s v).1 (hsvT h s v).2.1 (hsvT h s v).2.2) (mx3 (hsvT h s v).1 (hsvT h s v).2.1 (hsvT h s v).2.2) && ne0 (mx3 (hsvT h s v).1 (hsvT h s v).2.1 (hsvT h s v).2.2) 0 &&
  ne0 (Float64.sub (mx3 (hsvT h s v).1 (hsvT h s v).2.1 (hsvT h s v).2.2) (mn3 (hsvT h s v).1 (hsvT h s v).2.1 (hsvT h s v).2.2)) 0 && hueF h s v == fl16 k
noncomputable def hueAll (n : Nat) : Bool := (List.range 4).all fun a => (List.range 4).all fun b => hueOk (frF (n : Int) 16) (frF ((a : Int) + 1) 4) (frF ((b : Int) + 1) 4) (n % 16)
theorem hueA : (List.range 8).all hueAll = true := by decide +kernel
theorem hueB : (List.range' 8 8).all hueAll = true := by decide +kernel
noncomputable def hueTurn (n : Nat) : Bool := decide (hsvI (frF (n : Int) 16) = hsvI (frF ((n % 16 : Nat) : Int) 16)) && hsvF (frF (n : Int) 16) == hsvF (frF ((n % 16 : Nat) : Int) 16) &&
  !Float64.isInf (Float64.mul (frF (n : Int) 16) 4618441417868443648) && !Float64.isNaN (Float64.mul (frF (n : Int) 16) 4618441417868443648) && decide ((Flt.toInt Float64.truncOf (Float64.mul (frF (n : Int) 16) 4618441417868443648)).natAbs < 1000)
theorem hueC : (List.range 46).all hueTurn = true := by decide +kernel
end

end
end Mine
/-! P41 -/
namespace Mine
section
section
open PySem.Builtin PySem.Flt
structure Hue (h s v : UInt64) (k : Nat) : Prop where
  c1 : (Float64.cmp s 0 == some Ordering.eq) = false
  c2 : Float64.isInf (Float64.mul h 4618441417868443648) = false
  c3 : Float64.isNaN (Float64.mul h 4618441417868443648) = false
  c4 : HSm h
  d1 : (Float64.cmp (mn3 (hsvT h s v).1 (hsvT h s v).2.1 (hsvT h s v).2.2) (mx3 (hsvT h s v).1 (hsvT h s v).2.1 (hsvT h s v).2.2) == some Ordering.eq) = false
  d2 : (Float64.cmp (mx3 (hsvT h s v).1 (hsvT h s v).2.1 (hsvT h s v).2.2) 0 == some Ordering.eq) = false
  d3 : (Float64.cmp (Float64.sub (mx3 (hsvT h s v).1 (hsvT h s v).2.1 (hsvT h s v).2.2) (mn3 (hsvT h s v).1 (hsvT h s v).2.1 (hsvT h s v).2.2)) 0 == some Ordering.eq) = false
  val : hueF h s v = fl16 k
theorem hsvT_of {h h' s v : UInt64} (e1 : hsvI h = hsvI h') (e2 : hsvF h = hsvF h') : hsvT h s v = hsvT h' s v := by
  have q : hsvQ h s v = hsvQ h' s v := by unfold hsvQ; rw [e2]
  have u : hsvU h s v = hsvU h' s v := by unfold hsvU; rw [e2]
  unfold hsvT
  rw [e1, q, u]
theorem hue_base {n a b : Nat} (hn : n < 16) (ha : a < 4) (hb : b < 4) : hueOk (frF (n : Int) 16) (frF ((a : Int) + 1) 4) (frF ((b : Int) + 1) 4) (n % 16) = true := by
  have h : hueAll n = true := by
    by_cases h8 : n < 8
    · exact List.all_eq_true.mp hueA n (List.mem_range.mpr h8)
    · exact List.all_eq_true.mp hueB n (List.mem_range'_1.mpr ⟨by lia, by lia⟩)
  exact List.all_eq_true.mp (List.all_eq_true.mp h a (List.mem_range.mpr ha)) b (List.mem_range.mpr hb)
theorem hue_all {n a b : Nat} (hn : n < 46) (ha : a < 4) (hb : b < 4) : Hue (frF (n : Int) 16) (frF ((a : Int) + 1) 4) (frF ((b : Int) + 1) 4) (n % 16) := by
  have h0 := hue_base (n := n % 16) (Nat.mod_lt _ (by decide)) ha hb
  have ht := List.all_eq_true.mp hueC n (List.mem_range.mpr hn)
  unfold hueTurn at ht
  simp only [Bool.and_eq_true, decide_eq_true_eq, Bool.not_eq_true', beq_iff_eq] at ht
  obtain ⟨⟨⟨⟨t1, t2⟩, t3⟩, t4⟩, t5⟩ := ht
  have e := hsvT_of (s := frF ((a : Int) + 1) 4) (v := frF ((b : Int) + 1) 4) t1 t2
  unfold hueOk ne0 at h0
  rw [← e, Nat.mod_mod] at h0
  simp only [Bool.and_eq_true, decide_eq_true_eq, Bool.not_eq_true'] at h0
  obtain ⟨⟨⟨⟨⟨⟨⟨q1, q2⟩, q3⟩, q4⟩, q5⟩, q6⟩, q7⟩, q8⟩ := h0
  refine ⟨q1, t3, t4, ⟨t5⟩, q5, q6, q7, ?_⟩
  have q9 : hueF (frF ((n % 16 : Nat) : Int) 16) (frF ((a : Int) + 1) 4) (frF ((b : Int) + 1) 4) = fl16 (n % 16) := eq_of_beq q8
  rw [← q9]
  unfold hueF
  rw [e]
theorem fm_nat {x : Int} {m : Nat} (hm : 0 < m) : ∃ a : Nat, a < m ∧ x.fmod (m : Int) = (a : Int) := by
  have h0 : 0 ≤ x.fmod (m : Int) := Int.fmod_nonneg_of_pos _ (by lia)
  have h1 : x.fmod (m : Int) < m := Int.fmod_lt_of_pos _ (by lia)
  exact ⟨(x.fmod m).toNat, by lia, by lia⟩
theorem sum46 {c : Nat} {p t : Int} (hc : c < 16) (hp : 0 ≤ p ∧ p < 16) (ht : 0 ≤ t ∧ t < 16) : ((c : Int) + p + t) = (((c : Int) + p + t).toNat : Int) ∧ ((c : Int) + p + t).toNat < 46 := by
  have h0 : 0 ≤ (c : Int) + p + t := Int.add_nonneg (Int.add_nonneg (Int.natCast_nonneg _) hp.1) ht.1
  refine ⟨(Int.toNat_of_nonneg h0).symm, (Int.toNat_lt h0).mpr ?_⟩
  obtain ⟨_, h1⟩ := hp
  obtain ⟨_, h2⟩ := ht
  lia
theorem hue_law (x y z : Int) {p t : Int} (hp : 0 ≤ p ∧ p < 16) (ht : 0 ≤ t ∧ t < 16) : Hue (frF (x.fmod 16 + p + t) 16) (frF (y.fmod 4 + 1) 4) (frF (z.fmod 4 + 1) 4) ((x.fmod 16 + p + t).toNat % 16) := by
  obtain ⟨c, hc, ec⟩ := fm_nat (x := x) (m := 16) (by decide)
  obtain ⟨a, ha, ea⟩ := fm_nat (x := y) (m := 4) (by decide)
  obtain ⟨b, hb, eb⟩ := fm_nat (x := z) (m := 4) (by decide)
  have ec' : x.fmod 16 = (c : Int) := ec
  have ea' : y.fmod 4 = (a : Int) := ea
  have eb' : z.fmod 4 = (b : Int) := eb
  rw [ec', ea', eb']
  obtain ⟨e, hn⟩ := sum46 hc hp ht
  rw [e, Int.toNat_natCast]
  exact hue_all hn ha hb
theorem hue_inf {n : Nat} (h : n < 46) : Float64.isInf (frF (n : Int) 16) = false := by
  have : (List.range 46).all (fun n => !Float64.isInf (frF (n : Int) 16)) = true := by decide +kernel
  simpa using List.all_eq_true.mp this n (List.mem_range.mpr h)
theorem hue_inf' (x : Int) {p t : Int} (hp : 0 ≤ p ∧ p < 16) (ht : 0 ≤ t ∧ t < 16) : Float64.isInf (frF (x.fmod 16 + p + t) 16) = false := by
  obtain ⟨c, hc, ec⟩ := fm_nat (x := x) (m := 16) (by decide)
  have ec' : x.fmod 16 = (c : Int) := ec
  obtain ⟨e, hn⟩ := sum46 hc hp ht
  rw [ec', e]
  exact hue_inf hn
noncomputable def metI (st p : Int) (tn : List Int) : List Nat := tn.map fun t => (st + p + t).toNat % 16
noncomputable def metO (st : Int) (ms tn : List Int) : List Nat := ms.flatMap fun p => metI st p tn
noncomputable abbrev StM := List Value × List Nat × Nat
structure MetO (st : Int) (ms tn : List Int) (i : Nat) (c : StM) : Prop where
  fl : FlsAre c.1 c.2.1
  vl : c.2.1 = metO st (ms.take i) tn
structure MetI (st p : Int) (tn : List Int) (pre : List Nat) (j : Nat) (c : StM) : Prop where
  fl : FlsAre c.1 c.2.1
  vl : c.2.1 = pre ++ metI st p (tn.take j)
theorem meto_start {st : Int} {ms tn : List Int} {nu : Nat} : MetO st ms tn 0 ([], [], nu) := ⟨.nil, rfl⟩
theorem meti_start {st p : Int} {ms tn : List Int} {i nu : Nat} {us : List Value} {ns : List Nat} (h : MetO st ms tn i (us, ns, nu)) : MetI st p tn (metO st (ms.take i) tn) 0 (us, ns, nu) :=
  ⟨h.fl, by
    show ns = _
    have h2 : ns = metO st (ms.take i) tn := h.vl
    rw [h2]
    simp [metI]⟩
theorem meti_next {st p t : Int} {tn : List Int} {pre : List Nat} {j nu nu' k : Nat} {us : List Value} {ns : List Nat} {tk : Tok} {x : UInt64} (h : MetI st p tn pre j (us, ns, nu)) (ht : tn[j]? = some t) (hk : k = (st + p + t).toNat % 16) (hx : x = fl16 k) : MetI st p tn pre (j + 1) (us ++ [.float x tk], ns ++ [k], nu') :=
  ⟨by
    rw [hx]
    exact h.fl.app (.cons k tk (by rw [hk]; exact Nat.mod_lt _ (by decide)) .nil), by
    show ns ++ [k] = _
    have h2 : ns = pre ++ metI st p (tn.take j) := h.vl
    have e : tn.take (j + 1) = tn.take j ++ [t] := by rw [List.take_succ, ht]; rfl
    rw [h2, e, metI, metI, List.map_append, List.append_assoc, hk]
    rfl⟩
theorem meto_next {st p : Int} {ms tn : List Int} {i j : Nat} {c : StM} (h : MetI st p tn (metO st (ms.take i) tn) j c) (hj : j = tn.length) (hi : ms[i]? = some p) : MetO st ms tn (i + 1) c :=
  ⟨h.fl, by
    rw [h.vl, hj, List.take_length]
    have e : ms.take (i + 1) = ms.take i ++ [p] := by rw [List.take_succ, hi]; rfl
    rw [e, metO, metO, List.flatMap_append]
    simp⟩
theorem metI_len {st p : Int} {tn : List Int} : (metI st p tn).length = tn.length := by simp [metI]
theorem metO_len {st : Int} {tn : List Int} (ht : tn.length ≤ 16) : ∀ ms : List Int, (metO st ms tn).length ≤ 16 * ms.length
  | [] => Nat.le_refl _
  | p :: r => by
    have := metO_len (st := st) ht r
    show (metI st p tn ++ metO st r tn).length ≤ _
    rw [List.length_append, metI_len, List.length_cons]
    lia
theorem meti_room {st p : Int} {ms tn : List Int} {i j nu : Nat} {us : List Value} {ns : List Nat} (h : MetI st p tn (metO st (ms.take i) tn) j (us, ns, nu)) (hm : ms.length ≤ 16) (ht : tn.length ≤ 16) : us.toArray.size ≤ PySem.sizeLine := by
  have h1 : us.length = ns.length := h.fl.len
  have h2 : ns = metO st (ms.take i) tn ++ metI st p (tn.take j) := h.vl
  have h3 := metO_len (st := st) ht (ms.take i)
  have h4 : (ms.take i).length ≤ 16 := by rw [List.length_take]; lia
  have h5 : (tn.take j).length ≤ 16 := by rw [List.length_take]; lia
  rw [PySem.sizeLine_eq, List.size_toArray, h1, h2, List.length_append, metI_len]
  lia
theorem int_item {vs : List Value} {ns : List Int} {i : Nat} {v : Value} (h : IntsAre vs ns) (hv : vs[i]? = some v) : ∃ k t, ns[i]? = some k ∧ v = .int k t := by
  obtain ⟨k, t, e, hk⟩ := IntsAre.at h i v hv
  exact ⟨k, t, hk, e⟩
end
section
open PyProof.V PySem.Spec PySem.Calls
variable {prog : Program} {w : World} {A : Around} {E : Value → Shared → Prop} {s : Shared} {env : Env} {h₀ : Heap} {body : List Stmt} {Q : Flow → Shared → Prop}
noncomputable abbrev moLed (l : Addr) (lo : Obj) (lM : Addr) (tt t5 t6 : Addr × Obj) (c : StM) : List (Addr × Obj) := (l, lo) :: (lM, W.listOf c.1.toArray c.2.2) :: tt :: t5 :: t6 :: []
theorem meto_loop {x : PySem.Str} {pos : Pos} {l lM : Addr} {lo : Obj} {tt ev e1 e2 t5 t6 : Addr × Obj} {r : List (Addr × Obj)} {us₀ : List Value} {nu₀ : Nat} {vs : List Value} {n : Nat} {m₀ : PySem.Str → Option Value}
    (stored : List PySem.Str) (st : Int) (ms tn : List Int)
    (hh : A.handled = none) (hc : lo.cls = .type "list") (hd : lo.data = .seq vs.toArray n) (F : Fr h₀ env.locals s.heap m₀)
    (N : News h₀ env.locals s.heap ((lM, W.listOf us₀.toArray nu₀) :: tt :: (l, lo) :: ev :: e1 :: e2 :: t5 :: t6 :: r)) (hp : MetO st ms tn 0 (us₀, [], nu₀))
    (turn : ∀ (I : Addr) (_ : ∀ p ∈ moLed l lo lM tt t5 t6 (us₀, [], nu₀), p.1 < I) (c : StM) (i : Nat) v (u : PySem.Str → Option Value) h tk o, vs[i]? = some v → MetO st ms tn i c → o.cls = .type "list_iterator" →
      (∀ p ∈ moLed l lo lM tt t5 t6 c, p.1 ≠ I) →
      Fr h₀ env.locals h (fun z => if stored.contains z then u z else m₀ z) → News h₀ env.locals h ((I, o) :: moLed l lo lM tt t5 t6 c) →
      wpAny (model prog w) A (assign (.Name x pos) env v) (fun _ s₂ => wpAny (model prog w) A (execs body env) (RngPost h₀ env.locals { s with heap := h, toks := tk } I o (LstS (moLed l lo lM tt t5 t6) (fun _ => []) stored m₀ (MetO st ms tn) (i + 1)) Q) E s₂) E { s with heap := h, toks := tk })
    (done : ∀ (c : StM) (u : PySem.Str → Option Value) h tk, MetO st ms tn vs.length c → Fr h₀ env.locals h (fun z => if stored.contains z then u z else m₀ z) → News h₀ env.locals h (moLed l lo lM tt t5 t6 c) → Q .next { s with heap := h, toks := tk }) :
    wpAny (model prog w) A (pyIter (.ref l)) (fun it s₂ => TurnsAt prog w A h₀ env (.Name x pos) body Q E it s₂) E s := by
  refine lst_loop (l := l) (lo := lo) (vs := vs) (n := n) (moLed l lo lM tt t5 t6) (fun _ => []) stored (MetO st ms tn) (us₀, [], nu₀) hh (fun c => List.mem_cons_self ..) hc hd F ?_ (fun _ h => nomatch h) hp turn done
  intro p hp'
  refine N p ?_
  simp only [moLed, List.mem_cons, List.not_mem_nil, or_false] at hp'
  simp only [List.mem_cons]
  rcases hp' with h | h | h | h | h <;> simp [h]
noncomputable abbrev miLed (l : Addr) (lo : Obj) (lM : Addr) (io dd t5 t6 : Addr × Obj) (c : StM) : List (Addr × Obj) := (l, lo) :: (lM, W.listOf c.1.toArray c.2.2) :: io :: dd :: t5 :: t6 :: []
theorem meti_loop {x : PySem.Str} {pos : Pos} {l lM : Addr} {lo : Obj} {io dd t5 t6 : Addr × Obj} {r : List (Addr × Obj)} {us₀ : List Value} {ns₀ : List Nat} {nu₀ : Nat} {vs : List Value} {n : Nat} {m₀ : PySem.Str → Option Value}
    (stored : List PySem.Str) (st p : Int) (tn : List Int) (pre : List Nat)
    (hh : A.handled = none) (hc : lo.cls = .type "list") (hd : lo.data = .seq vs.toArray n) (F : Fr h₀ env.locals s.heap m₀)
    (N : News h₀ env.locals s.heap (io :: dd :: (lM, W.listOf us₀.toArray nu₀) :: (l, lo) :: t5 :: t6 :: r)) (hp : MetI st p tn pre 0 (us₀, ns₀, nu₀))
    (turn : ∀ (I : Addr) (_ : ∀ q ∈ miLed l lo lM io dd t5 t6 (us₀, ns₀, nu₀), q.1 < I) (c : StM) (i : Nat) v (u : PySem.Str → Option Value) h tk o, vs[i]? = some v → MetI st p tn pre i c → o.cls = .type "list_iterator" →
      (∀ q ∈ miLed l lo lM io dd t5 t6 c, q.1 ≠ I) →
      Fr h₀ env.locals h (fun z => if stored.contains z then u z else m₀ z) → News h₀ env.locals h ((I, o) :: miLed l lo lM io dd t5 t6 c) →
      wpAny (model prog w) A (assign (.Name x pos) env v) (fun _ s₂ => wpAny (model prog w) A (execs body env) (RngPost h₀ env.locals { s with heap := h, toks := tk } I o (LstS (miLed l lo lM io dd t5 t6) (fun _ => []) stored m₀ (MetI st p tn pre) (i + 1)) Q) E s₂) E { s with heap := h, toks := tk })
    (done : ∀ (c : StM) (u : PySem.Str → Option Value) h tk, MetI st p tn pre vs.length c → Fr h₀ env.locals h (fun z => if stored.contains z then u z else m₀ z) → News h₀ env.locals h (miLed l lo lM io dd t5 t6 c) → Q .next { s with heap := h, toks := tk }) :
    wpAny (model prog w) A (pyIter (.ref l)) (fun it s₂ => TurnsAt prog w A h₀ env (.Name x pos) body Q E it s₂) E s := by
  refine lst_loop (l := l) (lo := lo) (vs := vs) (n := n) (miLed l lo lM io dd t5 t6) (fun _ => []) stored (MetI st p tn pre) (us₀, ns₀, nu₀) hh (fun c => List.mem_cons_self ..) hc hd F ?_ (fun _ h => nomatch h) hp turn done
  intro q hp'
  refine N q ?_
  simp only [miLed, List.mem_cons, List.not_mem_nil, or_false] at hp'
  simp only [List.mem_cons]
  rcases hp' with h | h | h | h | h | h <;> simp [h]
end
end
end Mine
/-! P39 -/
namespace Mine
section
theorem turnp_done {rows : List Nat} {ws us : List Value} {ts : List Int} {nu : Nat} (hs : StrsAre ws (rows.map rowE)) (h : TurnP rows ws.length (us, ts, nu)) : IntsAre us (turnsOf rows) := by
  have h1 := h.iv
  have h2 : ts = turnsOf (rows.take ws.length) := h.vl
  rw [hs.length, List.length_map, List.take_length] at h2
  rw [← h2]
  exact h1
theorem wordOf_eq (ns : List Int) : wordOf ns = ⟨((rangeKs 0 16).map fun k => if (ns.any fun x => x == k) = true then 120 else 111).toArray⟩ := by
  have e : PySem.Str.ofString "" = ⟨(#[] : Array Nat).extract 0 0⟩ := by decide +kernel
  have ex : PySem.Str.ofString "x" = ⟨#[120]⟩ := by decide +kernel
  have eo : PySem.Str.ofString "o" = ⟨#[111]⟩ := by decide +kernel
  unfold wordOf
  rw [e, glue_cat]
  congr 2
  rw [List.flatMap_map]
  have : ∀ l : List Int, (l.flatMap fun k => (wLet ns k).cps.toList) = l.map fun k => if (ns.any fun x => x == k) = true then 120 else 111 := by
    intro l
    induction l with
    | nil => rfl
    | cons k r ih =>
      rw [List.flatMap_cons, ih, List.map_cons]
      unfold wLet
      cases h : (ns.any fun x => x == k) with
      | true => rw [if_pos rfl, ex]; simp
      | false => rw [if_neg (by decide), eo]; simp
  exact this _
theorem wordOf_len (ns : List Int) : (wordOf ns).length = 16 := by
  rw [wordOf_eq]
  show ((rangeKs 0 16).map _).toArray.size = 16
  rw [List.size_toArray, List.length_map, rangeKs_length]
theorem wordOf_nd (ns : List Int) : ∀ c ∈ (wordOf ns).cps.toList, c ≠ 46 := by
  rw [wordOf_eq]
  intro c hc
  obtain ⟨k, _, rfl⟩ := List.mem_map.mp (by simpa using hc)
  split <;> decide
noncomputable def itsF (ns : List Int) : Bool := (ffind (Txt.slice (wordOf ns ++ wordOf ns) (some 1) (some (-1))) (wordOf ns)).isSome
structure LawF (ms es tn : List Int) (ps : List Nat) (M ans : Nat) (b : Bool) : Prop where
  hlen : ms.length ≤ 16
  hpos : 0 < ms.length
  hbd : ∀ x ∈ ms, 0 ≤ x ∧ x < 16
  hps : ms.map Int.toNat = ps
  hsum : (ms.map fun k => (1 : Int) * 2 ^ k.toNat).sum = (M : Int)
  G : (16 : Int).fmod (ms.length : Int) = 0 → Lays ps M ans
  h16 : (16 : Int).fmod (ms.length : Int) ≠ 0 → ans = 0
  hb : decide (ans = 1) = b
  hev : ((ms.length : Int) == 2 ^ ((es.length : Nat) : Int).toNat) = b
  hki : ((ms.length : Int) == 2 ^ (((kOut ms ms).length : Nat) : Int).toNat) = b
  hin : ∀ s ∈ es, s ∈ kOut ms ms
  hw : itsF ms = es.any fun x => x == 8
  ht : itsF tn = !(es.any fun x => x == 8)
  tlen : tn.length ≤ 16
  tbd : ∀ x ∈ tn, 0 ≤ x ∧ x < 16
  elen : es.length ≤ 4
  met : b = true → ∀ st : Int, 0 ≤ st → st < 16 → (metO st ms tn).Perm (List.range 16)
theorem lay_all {w : World} {loose : List PySem.Str} {mean : ExcName → Option Value} {mg mb : PySem.Str → Option Value}
    {dp un : Nat} {gd : Option (List Code)} {cn : PySem.Str} {cs : Scope} {a : Addr} {ccd : Value} {cl : List (PySem.Str × Addr)} {outer : List Env} {A₀ : Around} {base h₀ : Heap} {L : Addr} {m : PySem.Str → Option Value} {s : Shared} {Q E : Value → Shared → Prop} {news : List (Addr × Obj)}
    (B : Below A₀ base outer h₀) (F : Fr h₀ L s.heap m) (X : (hd.heap_1 w.params).In h₀) (N : News h₀ L s.heap news) (T : Top topProg loose mean mg mb h₀) (hk : cs.kind = .function)
    {l : Addr} {vs : List Value} {ns : List Int} {nn : Nat} (hi : IntsAre vs ns) (N0 : News h₀ L s.heap ((l, W.listOf vs.toArray nn) :: news)) (hlen : ns.length ≤ 16) (hpos : 0 < ns.length) (hb : ∀ x ∈ ns, 0 ≤ x ∧ x < 16) {ps : List Nat} {M ans : Nat} (hps : ns.map Int.toNat = ps) (hS : (ns.map fun k => (1 : Int) * 2 ^ k.toNat).sum = (M : Int)) (G : (16 : Int).fmod (ns.length : Int) = 0 → Lays ps M ans) (h16 : (16 : Int).fmod (ns.length : Int) ≠ 0 → ans = 0)
    (hd1 : dp + 2 < recursionLimit) (hu : un + 128 < cLine)
    (hret : ∀ h1 tk1, Fr h₀ L h1 m → News h₀ L h1 ((l, W.listOf vs.toArray nn) :: news) → Q (.bool (decide (ans = 1))) { s with heap := h1, toks := tk1 }) :
    wpAny (model Challenge.rw_sn0051_01.row.prog w) (ktrTop dp un gd cn cs L a ccd cl outer) (call (.ref 136) [.ref l]) Q E s := by
  by_cases h : (16 : Int).fmod (ns.length : Int) = 0
  · exact lay_ok B F X N T hk hi N0 hlen hpos hb hps hS (G h) h16 hd1 hu hret
  · have e : decide (ans = 1) = false := by rw [h16 h]; rfl
    rw [e] at hret
    exact lay_no B F X N T hk hi N0 hlen hpos h hd1 hu hret
theorem fit_of {n m : Nat} (h : n ≤ m) (hm : (m : Int) < 2 ^ 63) : (n : Int) < 2 ^ 63 := by lia
theorem cast_le {n m : Nat} (h : n ≤ m) (hm : m ≤ 1000000) : ((n : Nat) : Int) ≤ 1000000 := by lia
section
open PySem.Calls
variable {prog : Program} {w : World} {A : Around} {E : Value → Shared → Prop} {s : Shared} {Q : Value → Shared → Prop}
theorem ne_same {a b : Bool} (e : b = a) (h : Q (.bool false) s) : wpAny (model prog w) A (compareOp .NotEq (.bool a) (.bool b)) Q E s := by
  subst e
  refine ne_bool ?_
  rw [bne_self_eq_false]
  exact h
theorem isnot_same {a b : Bool} (e : a = b) (h : Q (.bool false) s) : wpAny (model prog w) A (compareOp .IsNot (.bool a) (.bool b)) Q E s := by
  subst e
  refine wpAny_isNot_plain (by cases a <;> rfl) ?_
  rw [show (!((Value.bool a) == (Value.bool a))) = false by cases a <;> rfl]
  exact h
theorem isnot_w {ns : List Int} {b : Bool} (e : itsF ns = b) (h : Q (.bool false) s) : wpAny (model prog w) A (compareOp .IsNot (.bool (ffind (Txt.slice (wordOf ns ++ wordOf ns) (some 1) (some (-1))) (wordOf ns)).isSome) (.bool b)) Q E s := isnot_same e h
end
theorem foldl_const {α : Type} (z : List Int) : ∀ l : List α, l.foldl (fun a _ => a) z = z
  | [] => rfl
  | _ :: r => foldl_const z r
theorem lawF_in {ms es tn : List Int} {ps : List Nat} {M ans : Nat} {b : Bool} {k : Int} (h : LawF ms es tn ps M ans b) (hk : k ∈ es) (e : (List.any (kOut ms ms) fun x => x == k) = false) : False := by
  have := List.any_eq_false.mp e k (h.hin k hk)
  simp at this
theorem es_room {us : List Value} {es : List Int} (h : IntsAre us es) (hl : es.length ≤ 4) : us.toArray.size ≤ PySem.sizeLine := by
  have := h.length
  rw [PySem.sizeLine_eq, List.size_toArray]
  lia
theorem meto_done {st : Int} {ms tn : List Int} {vs us : List Value} {ns : List Nat} {nu : Nat} (hi : IntsAre vs ms) (h : MetO st ms tn vs.length (us, ns, nu)) : FlsAre us (metO st ms tn) := by
  have h1 := h.fl
  have h2 : ns = metO st (ms.take vs.length) tn := h.vl
  rw [hi.length, List.take_length] at h2
  rw [← h2]
  exact h1
theorem news_w1 {h₀ : Heap} {L : Addr} {h : Heap} {x1 x2 lK me lT ev e1 e2 t5 t6 : Addr × Obj} (N : News h₀ L h (x1 :: x2 :: lK :: me :: lT :: ev :: e1 :: e2 :: t5 :: t6 :: [])) : News h₀ L h (me :: lT :: ev :: e1 :: e2 :: t5 :: t6 :: []) := kst_newsOf N (by kst_inAny)
theorem news_w2 {h₀ : Heap} {L : Addr} {h : Heap} {me lT ev e1 e2 t5 t6 : Addr × Obj} (N : News h₀ L h (me :: lT :: ev :: e1 :: e2 :: t5 :: t6 :: [])) : News h₀ L h (lT :: me :: ev :: e1 :: e2 :: t5 :: t6 :: []) := kst_newsOf N (by kst_inAny)
theorem news_lay {h₀ : Heap} {L : Addr} {h : Heap} {l lT ev me e1 e2 t5 t6 : Addr × Obj} (N : News h₀ L h (l :: lT :: ev :: me :: e1 :: e2 :: t5 :: t6 :: [])) : News h₀ L h (me :: lT :: ev :: e1 :: e2 :: t5 :: t6 :: []) := kst_newsOf N (by kst_inAny)
end
end Mine
/-! P46 -/
namespace Mine
section
section
open PySem.Builtin PySem.Builtin.Str
theorem per_mul {α : Type} (f : Nat → α) (r : Nat) (h : ∀ i, f (i + r) = f i) : ∀ m i, f (i + m * r) = f i
  | 0, i => by rw [Nat.zero_mul, Nat.add_zero]
  | m + 1, i => by rw [Nat.succ_mul, ← Nat.add_assoc, h, per_mul f r h m i]
theorem odd_to8 : ∀ k < 15, ∃ m, m < 16 ∧ (m * (k + 1)) % 16 = 8 := by decide
theorem get_two {α : Type} {l : List α} (hl : l.length = 16) {j : Nat} (hj : j < 32) : (l ++ l)[j]? = l[j % 16]? := by
  by_cases h : j < 16
  · rw [List.getElem?_append_left (hl.symm ▸ h), Nat.mod_eq_of_lt h]
  · have h' : 16 ≤ j := Nat.le_of_not_lt h
    rw [List.getElem?_append_right (hl.symm ▸ h'), hl, Nat.mod_eq_sub_mod h', Nat.mod_eq_of_lt (Nat.sub_lt_left_of_lt_add h' hj)]
theorem rot8 {α : Type} {l : List α} (hl : l.length = 16) {k : Nat} (hk : k < 15) (h : ((((l ++ l).drop 1).take 30).drop k).take 16 = l) (i : Nat) (hi : i < 8) : l[i + 8]? = l[i]? := by
  have e : ∀ i, l[(i + (k + 1)) % 16]? = l[i % 16]? := fun i => by
    have h1 : i % 16 < 16 := Nat.mod_lt _ (by decide)
    have h2 := congrArg (fun x : List α => x[i % 16]?) h
    rw [List.getElem?_take_of_lt h1, List.getElem?_drop, List.getElem?_take_of_lt (Nat.add_lt_add_of_le_of_lt (Nat.le_of_lt_succ hk) h1), List.getElem?_drop, get_two hl (Nat.add_lt_add_left (Nat.lt_succ_of_lt (Nat.add_lt_add_of_le_of_lt (Nat.le_of_lt_succ hk) h1)) 1)] at h2
    rw [← h2, Nat.add_comm i, ← Nat.add_assoc, Nat.add_comm 1 k, Nat.add_mod, Nat.add_mod (k + 1) (i % 16), Nat.mod_mod]
  obtain ⟨m, _, hm⟩ := odd_to8 k hk
  have h8 : l[(i + m * (k + 1)) % 16]? = l[i % 16]? := per_mul (fun i => l[i % 16]?) (k + 1) e m i
  rw [Nat.add_mod, hm] at h8
  rw [Nat.mod_eq_of_lt (Nat.lt_of_lt_of_le hi (by decide) : i < 16), Nat.mod_eq_of_lt (Nat.add_lt_add_right hi 8)] at h8
  exact h8
theorem slice_mid {w : PySem.Str} {l : List Nat} (hl : w.cps.toList = l) (h16 : l.length = 16) : (Txt.slice (w ++ w) (some 1) (some (-1))).cps.toList = ((l ++ l).drop 1).take 30 := by
  have h := mid_list (x := w) (by rw [PySem.Str.length, ← Array.length_toList, hl, h16])
  rw [h, hl]
theorem its_word (x0 x1 x2 x3 x4 x5 x6 x7 x8 x9 x10 x11 x12 x13 x14 x15 : Nat) (w : PySem.Str) (hw : w = ⟨#[x0, x1, x2, x3, x4, x5, x6, x7, x8, x9, x10, x11, x12, x13, x14, x15]⟩) :
    (ffind (Txt.slice (w ++ w) (some 1) (some (-1))) w).isSome = true ↔ x0 = x8 ∧ x1 = x9 ∧ x2 = x10 ∧ x3 = x11 ∧ x4 = x12 ∧ x5 = x13 ∧ x6 = x14 ∧ x7 = x15 := by
  have hl : w.cps.toList = [x0, x1, x2, x3, x4, x5, x6, x7, x8, x9, x10, x11, x12, x13, x14, x15] := by rw [hw]
  have hs : ∀ k, subAt (Txt.slice (w ++ w) (some 1) (some (-1))) w k = true ↔ (((w.cps.toList ++ w.cps.toList).drop 1).take 30 |>.drop k).take 16 = w.cps.toList := by
    intro k
    unfold subAt
    rw [beq_iff_eq, ← Array.toList_inj, Array.toList_extract, List.extract_eq_take_drop, Nat.add_sub_cancel_left, slice_mid rfl (by rw [hl]; rfl)]
    rw [show w.length = 16 by rw [hw]; rfl]
  generalize hL : w.cps.toList = l at hl hs
  unfold ffind
  rw [List.find?_isSome]
  constructor
  · rintro ⟨k, hk, h⟩
    have hk' : k < 15 := List.mem_range.mp hk
    have h8 := rot8 (by rw [hl]; rfl) hk' ((hs k).mp h)
    rw [hl] at h8
    exact ⟨(Option.some.inj (h8 0 (by decide))).symm, (Option.some.inj (h8 1 (by decide))).symm, (Option.some.inj (h8 2 (by decide))).symm, (Option.some.inj (h8 3 (by decide))).symm, (Option.some.inj (h8 4 (by decide))).symm, (Option.some.inj (h8 5 (by decide))).symm, (Option.some.inj (h8 6 (by decide))).symm, (Option.some.inj (h8 7 (by decide))).symm⟩
  · rintro ⟨h0, h1, h2, h3, h4, h5, h6, h7⟩
    refine ⟨7, List.mem_range.mpr (by decide), ?_⟩
    rw [hs, hl]
    subst h0 h1 h2 h3 h4 h5 h6 h7
    rfl
end
noncomputable def ch (b : Bool) : Nat := if b = true then 120 else 111
theorem ch_inj {a b : Bool} : ch a = ch b ↔ b1 a = b1 b := by cases a <;> cases b <;> decide
variable {q : List Int} {n0 n1 n2 n3 : Nat}
theorem word_q (q : List Int) : wordOf (memL q) = ⟨#[ch (cq q 0), ch (cq q 1), ch (cq q 2), ch (cq q 3), ch (cq q 4), ch (cq q 5), ch (cq q 6), ch (cq q 7), ch (cq q 8), ch (cq q 9), ch (cq q 10), ch (cq q 11), ch (cq q 12), ch (cq q 13), ch (cq q 14), ch (cq q 15)]⟩ := by
  rw [wordOf_eq]
  rfl
theorem its_q (h : Nb q n0 n1 n2 n3) : itsF (memL q) = (KQ n0 n1 n2 n3).e8 := by
  rw [Bool.eq_iff_iff, K_e8 h]
  unfold itsF
  rw [its_word _ _ _ _ _ _ _ _ _ _ _ _ _ _ _ _ _ (word_q q)]
  simp only [ch_inj, aq]
theorem es_any (e1 e2 e4 e8 : Bool) : ((esE e1 e2 e4 e8).any fun x => x == 8) = e8 := by
  cases e1 <;> cases e2 <;> cases e4 <;> cases e8 <;> rfl
theorem its_t : ∀ e1 e2 e4 e8 : Bool, itsF ((tnsE e1 e2 e4 e8).map fun (n : Nat) => (n : Int)) = !e8 := by decide +kernel
end
end Mine
/-! P47 -/
namespace Mine
section
theorem allN_get {f : Nat → Bool} : ∀ {n : Nat}, allN f n = true → ∀ i, i < n → f i = true
  | 0, _, i, h => absurd h (Nat.not_lt_zero _)
  | n + 1, h, i, hi => by
    have h2 : f n = true ∧ allN f n = true := by simpa [allN] using h
    by_cases e : i = n
    · rw [e]; exact h2.1
    · exact allN_get h2.2 i (by lia)
theorem perm_of_sub : ∀ {xs L : List Nat}, xs.Nodup → (∀ x ∈ xs, x ∈ L) → L.length = xs.length → L.Perm xs
  | [], L, _, _, hl => by rw [List.length_eq_zero_iff.mp hl]
  | x :: xs, L, hn, hs, hl => by
    have hx := hs x (List.mem_cons_self ..)
    have h1 := List.perm_cons_erase hx
    have h2 : (L.erase x).length = xs.length := by
      rw [List.length_erase_of_mem hx, hl]; rfl
    have hn' := List.nodup_cons.mp hn
    have h3 := perm_of_sub (L := L.erase x) hn'.2 (fun y hy => by
      refine (List.mem_erase_of_ne ?_).mpr (hs y (List.mem_cons_of_mem _ hy))
      intro e
      rw [e] at hy
      exact hn'.1 hy) h2
    exact h1.trans (h3.cons x)
theorem covE_bit (M r : Nat) : ∀ (l : List Nat) (a : Nat), (covE M l a).testBit r = (a.testBit r || l.any fun t => (rotF M t).testBit r)
  | [], a => by simp [covE]
  | t :: l, a => by
    show (covE M l (Nat.lor a (rotF M t))).testBit r = _
    rw [covE_bit M r l]
    have : (Nat.lor a (rotF M t)).testBit r = (a.testBit r || (rotF M t).testBit r) := Nat.testBit_or a (rotF M t) r
    rw [this, List.any_cons, Bool.or_assoc]
theorem rot_bit {M t r : Nat} (h : (rotF M t).testBit r = true) : (t ≤ r ∧ M.testBit (r - t) = true) ∨ M.testBit (16 - t + r) = true := by
  have e : (rotF M t).testBit r = (((M <<< t).testBit r || (M >>> (16 - t)).testBit r) && (65535).testBit r) := by
    show (((M <<< t) ||| (M >>> (16 - t))) &&& 65535).testBit r = _
    rw [Nat.testBit_and, Nat.testBit_or]
  rw [e, Bool.and_eq_true, Bool.or_eq_true, Nat.testBit_shiftLeft, Nat.testBit_shiftRight, Bool.and_eq_true] at h
  rcases h.1 with h | h
  · exact .inl ⟨of_decide_eq_true h.1, h.2⟩
  · exact .inr h
variable {q : List Int} {n0 n1 n2 n3 : Nat}
noncomputable def valB : List Bool → Nat
  | [] => 0
  | c :: r => b1 c + 2 * valB r
theorem valB_bit : ∀ (cs : List Bool) (i : Nat), (valB cs).testBit i = cs.getD i false
  | [], i => by simp [valB]
  | c :: r, 0 => by
    rw [Nat.testBit_zero]
    show decide ((b1 c + 2 * valB r) % 2 = 1) = c
    rw [Nat.add_mul_mod_self_left]
    cases c <;> rfl
  | c :: r, i + 1 => by
    rw [Nat.testBit_succ]
    have e : (b1 c + 2 * valB r) / 2 = valB r := by
      rw [Nat.add_mul_div_left _ _ (show 0 < 2 by decide), Nat.div_eq_of_lt (Nat.lt_succ_of_le (b1_le c)), Nat.zero_add]
    show ((b1 c + 2 * valB r) / 2).testBit i = _
    rw [e, valB_bit r i]
    rfl
theorem valB_nib (a b c d : Bool) (r : List Bool) : valB (a :: b :: c :: d :: r) = nib a b c d + 16 * valB r := by
  show b1 a + 2 * (b1 b + 2 * (b1 c + 2 * (b1 d + 2 * valB r))) = b1 a + 2 * b1 b + 4 * b1 c + 8 * b1 d + 16 * valB r
  simp only [Nat.mul_add, ← Nat.mul_assoc, ← Nat.add_assoc]
theorem m_four (a b c d : Nat) : a + 16 * b + (256 * c + 4096 * d) = a + 16 * (b + 16 * (c + 16 * (d + 16 * 0))) := by lia
theorem mOf_val (h : Nb q n0 n1 n2 n3) : mOf n0 n1 n2 n3 = valB ((List.range 16).map (cq q)) := by
  show n0 + 16 * n1 + (256 * n2 + 4096 * n3) = valB [cq q 0, cq q 1, cq q 2, cq q 3, cq q 4, cq q 5, cq q 6, cq q 7, cq q 8, cq q 9, cq q 10, cq q 11, cq q 12, cq q 13, cq q 14, cq q 15]
  rw [valB_nib, valB_nib, valB_nib, valB_nib, ← h.h0, ← h.h1, ← h.h2, ← h.h3]
  exact m_four ..
theorem mOf_bit (h : Nb q n0 n1 n2 n3) (k : Nat) : (mOf n0 n1 n2 n3).testBit k = (decide (k < 16) && cq q k) := by
  rw [mOf_val h, valB_bit, List.getD_eq_getElem?_getD, List.getElem?_map]
  by_cases hk : k < 16
  · rw [List.getElem?_range hk, decide_eq_true hk]; rfl
  · rw [List.getElem?_eq_none (by rw [List.length_range]; exact Nat.le_of_not_lt hk), decide_eq_false hk]; rfl
theorem mOf_lt' {a b c d : Nat} (ha : a < 16) (hb : b < 16) (hc : c < 16) (hd : d < 16) : a + 16 * b + (256 * c + 4096 * d) < 65536 := by lia
theorem mOf_lt (h : Nb q n0 n1 n2 n3) : mOf n0 n1 n2 n3 < 65536 :=
  mOf_lt' (h.h0 ▸ nib_lt ..) (h.h1 ▸ nib_lt ..) (h.h2 ▸ nib_lt ..) (h.h3 ▸ nib_lt ..)
theorem m_bit (h : Nb q n0 n1 n2 n3) {k : Nat} (hb : (mOf n0 n1 n2 n3).testBit k = true) : k < 16 ∧ cq q k = true := by
  rw [mOf_bit h, Bool.and_eq_true, decide_eq_true_eq] at hb
  exact hb
theorem mOf_ne (h : Nb q n0 n1 n2 n3) (hpos : 0 < (memL q).length) : mOf n0 n1 n2 n3 ≠ 0 := by
  intro e
  obtain ⟨x, hx⟩ := List.exists_mem_of_length_pos hpos
  have hx2 := memL_bd x hx
  have hc : cq q x.toNat = true := cq_mem.mpr (by rw [Int.toNat_of_nonneg hx2.1]; exact hx)
  have hb := mOf_bit h x.toNat
  rw [e, Nat.zero_testBit, hc, Bool.and_true] at hb
  exact of_decide_eq_false hb.symm ((Int.toNat_lt hx2.1).mpr hx2.2)
theorem tns_lt (e1 e2 e4 e8 : Bool) : ∀ t ∈ tnsE e1 e2 e4 e8, t < 16 := by
  cases e1 <;> cases e2 <;> cases e4 <;> cases e8 <;> decide
theorem tns_len (e1 e2 e4 e8 : Bool) : (tnsE e1 e2 e4 e8).length * 2 ^ (b1 e1 + b1 e2 + (b1 e4 + b1 e8)) = 16 := by
  cases e1 <;> cases e2 <;> cases e4 <;> cases e8 <;> decide
theorem es_len (e1 e2 e4 e8 : Bool) : (esE e1 e2 e4 e8).length = b1 e1 + b1 e2 + (b1 e4 + b1 e8) := by
  cases e1 <;> cases e2 <;> cases e4 <;> cases e8 <;> decide
theorem pow_div (e1 e2 e4 e8 : Bool) : 16 % 2 ^ (b1 e1 + b1 e2 + (b1 e4 + b1 e8)) = 0 := by
  cases e1 <;> cases e2 <;> cases e4 <;> cases e8 <;> decide
theorem metO_length {st : Int} {tn : List Int} : ∀ ms : List Int, (metO st ms tn).length = ms.length * tn.length
  | [] => by simp [metO]
  | p :: r => by
    have := metO_length (st := st) (tn := tn) r
    show (metI st p tn ++ metO st r tn).length = _
    rw [List.length_append, metI_len, this, List.length_cons, Nat.succ_mul, Nat.add_comm]
theorem mp_a : ∀ a < 16, ∀ r < 16, (r + 16 - a) % 16 < 16 ∧ (a + (r + 16 - a) % 16) % 16 = r := by decide +kernel
theorem mp_b : ∀ t < 16, ∀ s < 16, t ≤ s → (s - t + t) % 16 = s := by decide +kernel
theorem mp_c : ∀ t < 16, ∀ s < 16, (16 - t + s + t) % 16 = s := by decide +kernel
theorem mp_d {st : Int} (h0 : 0 ≤ st) (p t : Nat) : (st + (p : Int) + (t : Int)).toNat = st.toNat + p + t := by
  rw [Int.toNat_add (Int.add_nonneg h0 (Int.natCast_nonneg _)) (Int.natCast_nonneg _), Int.toNat_add h0 (Int.natCast_nonneg _), Int.toNat_natCast, Int.toNat_natCast]
theorem met_perm (h : Nb q n0 n1 n2 n3) {l : List Nat} (ht : ∀ t ∈ l, t < 16) (hc : covE (mOf n0 n1 n2 n3) l 0 = 65535) (hlen : (memL q).length * l.length = 16) {st : Int} (h0 : 0 ≤ st) (h1 : st < 16) :
    (metO st (memL q) (l.map fun (n : Nat) => (n : Int))).Perm (List.range 16) := by
  refine perm_of_sub List.nodup_range (fun r hr => ?_) (by rw [metO_length, List.length_map, hlen, List.length_range])
  have hr' := List.mem_range.mp hr
  obtain ⟨s, hs, hsr⟩ : ∃ s : Nat, s < 16 ∧ (st.toNat + s) % 16 = r := ⟨(r + 16 - st.toNat) % 16, mp_a _ ((Int.toNat_lt h0).mpr h1) r hr'⟩
  have hb : (covE (mOf n0 n1 n2 n3) l 0).testBit s = true := by
    rw [hc]
    have : ∀ s < 16, (65535).testBit s = true := by decide
    exact this s hs
  rw [covE_bit, Nat.zero_testBit, Bool.false_or, List.any_eq_true] at hb
  obtain ⟨t, htl, hbt⟩ := hb
  have ht16 := ht t htl
  have hp : ∃ p, p < 16 ∧ cq q p = true ∧ (p + t) % 16 = s := by
    rcases rot_bit hbt with ⟨hle, hx⟩ | hx
    · have := m_bit h hx
      exact ⟨s - t, this.1, this.2, mp_b t ht16 s hs hle⟩
    · have := m_bit h hx
      exact ⟨16 - t + s, this.1, this.2, mp_c t ht16 s hs⟩
  obtain ⟨p, hp16, hpc, hps⟩ := hp
  refine List.mem_flatMap.mpr ⟨(p : Int), cq_mem.mp hpc, ?_⟩
  refine List.mem_map.mpr ⟨(t : Int), List.mem_map.mpr ⟨t, htl, rfl⟩, ?_⟩
  rw [mp_d h0, ← hsr, ← hps, Nat.add_assoc, Nat.add_mod_mod]
theorem beq_pow {n k : Nat} : ((n : Int) == 2 ^ ((k : Nat) : Int).toNat) = Nat.beq n (Nat.pow 2 k) := by
  rw [Bool.eq_iff_iff, beq_iff_eq, Nat.beq_eq, Int.toNat_natCast]
  have e : ((2 : Int) ^ k) = ((2 ^ k : Nat) : Int) := by simp
  rw [e]
  exact Int.ofNat_inj
structure CkF (M : Nat) (ps : List Nat) (c : Ck) (b : Bool) : Prop where
  hb : b = Nat.beq c.pc (Nat.pow 2 (b1 c.e1 + b1 c.e2 + (b1 c.e4 + b1 c.e8)))
  i1 : c.e1 = true → c.k1 = true
  i2 : c.e2 = true → c.k2 = true
  i4 : c.e4 = true → c.k4 = true
  i8 : c.e8 = true → c.k8 = true
  hk : Nat.beq c.pc (Nat.pow 2 (b1 c.k1 + b1 c.k2 + (b1 c.k4 + b1 c.k8))) = b
  run : 16 % c.pc = 0 → runF ps M 44 [M] = b1 b
  cov : b = true → covE M (tnsE c.e1 c.e2 c.e4 c.e8) 0 = 65535
theorem cond_imp {a b : Bool} (h : cond a b true = true) : a = true → b = true := by
  intro e; rw [e] at h; exact h
theorem ckF_of {M : Nat} {ps : List Nat} {c : Ck} (h : ckOk M ps c = true) : CkF M ps c (Nat.beq c.pc (Nat.pow 2 (b1 c.e1 + b1 c.e2 + (b1 c.e4 + b1 c.e8)))) := by
  unfold ckOk at h
  simp only [Bool.and_eq_true] at h
  obtain ⟨⟨⟨a1, a2⟩, a4, a8⟩, hk, hr, hc⟩ := h
  refine ⟨rfl, cond_imp a1, cond_imp a2, cond_imp a4, cond_imp a8, ?_, fun hd => ?_, fun hb => ?_⟩
  · revert hk
    show cond (Nat.beq c.pc (Nat.pow 2 (b1 c.e1 + b1 c.e2 + (b1 c.e4 + b1 c.e8)))) _ _ = true → _
    cases Nat.beq c.pc (Nat.pow 2 (b1 c.e1 + b1 c.e2 + (b1 c.e4 + b1 c.e8))) with
    | true => exact fun h => h
    | false => exact fun h => by simpa using h
  · have h2 := cond_imp hr (by rw [Nat.beq_eq]; exact hd)
    exact Nat.eq_of_beq_eq_true h2
  · exact Nat.eq_of_beq_eq_true (cond_imp hc hb)
end
end Mine
/-! P48 -/
namespace Mine
section
theorem ck_0 : ck3 0 = true := by decide +kernel
theorem ck_1 : ck3 1 = true := by decide +kernel
theorem ck_2 : ck3 2 = true := by decide +kernel
theorem ck_3 : ck3 3 = true := by decide +kernel
theorem ck_4 : ck3 4 = true := by decide +kernel
theorem ck_5 : ck3 5 = true := by decide +kernel
theorem ck_6 : ck3 6 = true := by decide +kernel
theorem ck_7 : ck3 7 = true := by decide +kernel
theorem ck_8 : ck3 8 = true := by decide +kernel
theorem ck_9 : ck3 9 = true := by decide +kernel
theorem ck_10 : ck3 10 = true := by decide +kernel
theorem ck_11 : ck3 11 = true := by decide +kernel
theorem ck_12 : ck3 12 = true := by decide +kernel
theorem ck_13 : ck3 13 = true := by decide +kernel
theorem ck_14 : ck3 14 = true := by decide +kernel
theorem ck_15 : ck3 15 = true := by decide +kernel
theorem ck_all {n0 n1 n2 n3 : Nat} (h0 : n0 < 16) (h1 : n1 < 16) (h2 : n2 < 16) (h3 : n3 < 16) : ckM n3 n2 n1 n0 = true := by
  have h : allN ck3 16 = true := by simp only [allN, ck_0, ck_1, ck_2, ck_3, ck_4, ck_5, ck_6, ck_7, ck_8, ck_9, ck_10, ck_11, ck_12, ck_13, ck_14, ck_15, Bool.and_true, Bool.and_self]
  exact allN_get (allN_get (allN_get (allN_get h n3 h3) n2 h2) n1 h1) n0 h0
theorem four_le : ∀ a b c d : Bool, b1 a + b1 b + (b1 c + b1 d) ≤ 4 := by decide +kernel
theorem nat16 {t : Nat} (h : t < 16) : 0 ≤ (t : Int) ∧ (t : Int) < 16 := ⟨Int.natCast_nonneg _, Int.ofNat_lt.mpr h⟩
theorem lawF {q : List Int} {W : Nat} {Num : Int} {es : List Int} {rows : List Nat} (hW : W = 6 ∨ W = 7 ∨ W = 8) (hN : dval W (bitsQ q) = Num) (hq : 0 < q.length) (hb : ∀ x ∈ q, 0 ≤ x ∧ x < 16) (hv : (es, rows) = stepsF Num W [1, 2, 4, 8]) :
    ∃ ps M ans b, LawF (memL q) es (turnsOf rows) ps M ans b := by
  obtain ⟨n0, hn0⟩ : ∃ n, n = nib (cq q 0) (cq q 1) (cq q 2) (cq q 3) := ⟨_, rfl⟩
  obtain ⟨n1, hn1⟩ : ∃ n, n = nib (cq q 4) (cq q 5) (cq q 6) (cq q 7) := ⟨_, rfl⟩
  obtain ⟨n2, hn2⟩ : ∃ n, n = nib (cq q 8) (cq q 9) (cq q 10) (cq q 11) := ⟨_, rfl⟩
  obtain ⟨n3, hn3⟩ : ∃ n, n = nib (cq q 12) (cq q 13) (cq q 14) (cq q 15) := ⟨_, rfl⟩
  have h : Nb q n0 n1 n2 n3 := ⟨hn0, hn1, hn2, hn3⟩
  have hck := ck_all (n0 := n0) (n1 := n1) (n2 := n2) (n3 := n3) (by rw [hn0]; exact nib_lt ..) (by rw [hn1]; exact nib_lt ..) (by rw [hn2]; exact nib_lt ..) (by rw [hn3]; exact nib_lt ..)
  have hpos := memL_pos hq hb
  have hM0 := mOf_ne h hpos
  have hck2 : ckOk (mOf n0 n1 n2 n3) (psOf n0 n1 n2 n3) (KQ n0 n1 n2 n3) = true := by
    have h3 : cond (Nat.beq (mOf n0 n1 n2 n3) 0) true (ckOk (mOf n0 n1 n2 n3) (psOf n0 n1 n2 n3) (KQ n0 n1 n2 n3)) = true := hck
    have h4 : Nat.beq (mOf n0 n1 n2 n3) 0 = false := by
      cases e : Nat.beq (mOf n0 n1 n2 n3) 0 with
      | false => rfl
      | true => exact absurd (Nat.eq_of_beq_eq_true e) hM0
    rw [h4] at h3
    exact h3
  have C := ckF_of hck2
  have hst := steps_val (N := Num) (W := W) (e1 := (KQ n0 n1 n2 n3).e1) (e2 := (KQ n0 n1 n2 n3).e2) (e4 := (KQ n0 n1 n2 n3).e4) (e8 := (KQ n0 n1 n2 n3).e8)
    (by rw [← hN]; exact st_1 hW h) (by rw [← hN]; exact st_2 hW h) (by rw [← hN]; exact st_4 hW h) (by rw [← hN]; exact st_8 hW h)
  rw [hst] at hv
  have hes : es = esE (KQ n0 n1 n2 n3).e1 (KQ n0 n1 n2 n3).e2 (KQ n0 n1 n2 n3).e4 (KQ n0 n1 n2 n3).e8 := (Prod.mk.inj hv).1
  have hrows : rows = (tnsE (KQ n0 n1 n2 n3).e1 (KQ n0 n1 n2 n3).e2 (KQ n0 n1 n2 n3).e4 (KQ n0 n1 n2 n3).e8).map (· + 1) := (Prod.mk.inj hv).2
  have htn := tns_val (tnsE (KQ n0 n1 n2 n3).e1 (KQ n0 n1 n2 n3).e2 (KQ n0 n1 n2 n3).e4 (KQ n0 n1 n2 n3).e8)
  rw [← hrows] at htn
  have hpc := K_pc h
  generalize hb0 : Nat.beq (KQ n0 n1 n2 n3).pc (Nat.pow 2 (b1 (KQ n0 n1 n2 n3).e1 + b1 (KQ n0 n1 n2 n3).e2 + (b1 (KQ n0 n1 n2 n3).e4 + b1 (KQ n0 n1 n2 n3).e8))) = b at C
  have hbt : b = true → (memL q).length = 2 ^ (b1 (KQ n0 n1 n2 n3).e1 + b1 (KQ n0 n1 n2 n3).e2 + (b1 (KQ n0 n1 n2 n3).e4 + b1 (KQ n0 n1 n2 n3).e8)) := fun e => by
    rw [e] at hb0
    rw [← hpc]
    exact Nat.eq_of_beq_eq_true hb0
  have hlt := tns_len (KQ n0 n1 n2 n3).e1 (KQ n0 n1 n2 n3).e2 (KQ n0 n1 n2 n3).e4 (KQ n0 n1 n2 n3).e8
  have hpd := pow_div (KQ n0 n1 n2 n3).e1 (KQ n0 n1 n2 n3).e2 (KQ n0 n1 n2 n3).e4 (KQ n0 n1 n2 n3).e8
  have hel := es_len (KQ n0 n1 n2 n3).e1 (KQ n0 n1 n2 n3).e2 (KQ n0 n1 n2 n3).e4 (KQ n0 n1 n2 n3).e8
  have hany := es_any (KQ n0 n1 n2 n3).e1 (KQ n0 n1 n2 n3).e2 (KQ n0 n1 n2 n3).e4 (KQ n0 n1 n2 n3).e8
  have hfm : ((16 : Int).fmod ((memL q).length : Int)) = ((16 % (memL q).length : Nat) : Int) := by
    rw [Int.fmod_eq_emod_of_nonneg _ (Int.natCast_nonneg _)]
    rfl
  have hlen := memL_len (q := q)
  refine ⟨psOf n0 n1 n2 n3, mOf n0 n1 n2 n3, b1 b, b, ?_⟩
  exact {
    hlen := hlen
    hpos := hpos
    hbd := memL_bd
    hps := ps_ok h
    hsum := sum_ok h
    G := fun e => by
      rw [hfm] at e
      refine ⟨mOf_lt h, C.run (by rw [hpc]; exact Int.natCast_eq_zero.mp e), by cases b <;> decide⟩
    h16 := fun e => by
      cases b with
      | false => rfl
      | true =>
        rw [hfm, hbt rfl, hpd] at e
        exact absurd rfl e
    hb := by cases b <;> rfl
    hev := by rw [beq_pow, hes, hel, ← hpc]; exact hb0
    hki := by rw [beq_pow, kq_len h, ← hpc]; exact C.hk
    hin := fun s hs => by
      rw [hes] at hs
      unfold esE at hs
      have o : ∀ (e : Bool) (k x : Int), x ∈ oi e k → e = true ∧ x = k := by
        intro e k x hx
        cases e with
        | true => exact ⟨rfl, List.mem_singleton.mp hx⟩
        | false => cases hx
      rcases List.mem_append.mp hs with hs | hs
      · obtain ⟨e, rfl⟩ := o _ _ _ hs
        exact (kd1 h).mpr (C.i1 e)
      rcases List.mem_append.mp hs with hs | hs
      · obtain ⟨e, rfl⟩ := o _ _ _ hs
        exact (kd2 h).mpr (C.i2 e)
      rcases List.mem_append.mp hs with hs | hs
      · obtain ⟨e, rfl⟩ := o _ _ _ hs
        exact (kd4 h).mpr (C.i4 e)
      rcases List.mem_append.mp hs with hs | hs
      · obtain ⟨e, rfl⟩ := o _ _ _ hs
        exact (kd8 h).mpr (C.i8 e)
      · cases hs
    hw := by rw [its_q h, hes, hany]
    ht := by rw [htn, hes, hany]; exact its_t _ _ _ _
    tlen := by
      rw [htn, List.length_map]
      generalize 2 ^ (b1 (KQ n0 n1 n2 n3).e1 + b1 (KQ n0 n1 n2 n3).e2 + (b1 (KQ n0 n1 n2 n3).e4 + b1 (KQ n0 n1 n2 n3).e8)) = z at hlt
      have hz : 1 ≤ z := by
        cases z with
        | zero => simp at hlt
        | succ z => exact Nat.succ_le_succ (Nat.zero_le _)
      exact Nat.le_trans (Nat.le_mul_of_pos_right _ hz) (Nat.le_of_eq hlt)
    tbd := fun x hx => by
      rw [htn] at hx
      obtain ⟨t, ht, rfl⟩ := List.mem_map.mp hx
      exact nat16 (tns_lt _ _ _ _ t ht)
    elen := by
      rw [hes, hel]
      exact four_le ..
    met := fun e st h0 h1 => by
      rw [htn]
      refine met_perm h (tns_lt _ _ _ _) (C.cov e) ?_ h0 h1
      rw [hbt e, Nat.mul_comm]
      exact hlt
  }
end
end Mine
/-! P45 -/
namespace Mine
section
section
open PySem.Calls PySem.SeqAt
variable {prog : Program} {w : World} {A : Around} {E : Value → Shared → Prop} {s : Shared}
theorem eqAt_fi {x : UInt64} {n : Int} {t u : Tok} (hx : (Float64.cmpInt x n == some Ordering.eq) = true) : EqAt A s (.float x t) (.int n u) true := fun prog w E Q h => by
  unfold eqBool
  refine wpAny_holding ?_
  refine wpAny_ite_split (fun hab => absurd (eq_of_beq hab) nofun) (fun _ => ?_)
  refine wpAny_bind ?_
  show wpAny _ _ (compareOp .Eq (.float x t) (.int n u)) _ _ _
  refine eq_fi ?_
  rw [hx]
  exact wpAny_truthy_bool h
theorem kx_sortedD {h₀ : Heap} {L : Addr} {m : PySem.Str → Option Value} {news : List (Addr × Obj)} {l : Addr} {vs : List Value} {ns : List Nat} {Q : Value → Shared → Prop}
    (F : Fr h₀ L s.heap m) (N : News h₀ L s.heap news) (hl : s.heap.IsList l vs.toArray) (hS : FlsAre vs ns) (hr : ns.Perm (List.range 16))
    (h : ∀ (D : Addr) (h' : Heap) (vs' : List Value) (e : Nat), Fr h₀ L h' m → News h₀ L h' ((D, W.listOf vs'.toArray e) :: news) → (∀ p ∈ news, p.1 < D) → FlsAre vs' (List.range 16) → Q (.ref D) { s with heap := h' }) :
    wpAny (model prog w) A (call (.builtin "sorted") [.ref l]) Q E s :=
  kx_sorted16 F N hl hS hr fun h' vs' e F' N' hS' => h _ h' vs' e F' N' (fun p hp => Nat.lt_succ_of_lt (Heap.lt_size (N p hp).1)) hS'
theorem cmp16 : ∀ k < 16, (Float64.cmpInt (fl16 k) (k : Int) == some Ordering.eq) = true := by decide +kernel
theorem FlsAre.get {vs : List Value} {ns : List Nat} (H : FlsAre vs ns) : ∀ (i : Nat) (h : i < vs.length), ∃ n t, ns[i]? = some n ∧ n < 16 ∧ vs[i] = .float (fl16 n) t := by
  induction H with
  | nil => exact fun i h => absurd h (Nat.not_lt_zero _)
  | cons n t hn _ ih =>
    intro i h
    cases i with
    | zero => exact ⟨n, t, rfl, hn, rfl⟩
    | succ i => exact ih i (Nat.lt_of_succ_lt_succ h)
theorem eq_fls {l b : Addr} {vs ws : List Value} {Q : Value → Shared → Prop} (hl : s.heap.IsList l vs.toArray) (hb : s.heap.IsList b ws.toArray) (hS : FlsAre vs (List.range 16)) (hi : IntsAre ws (rangeKs 0 16)) (hu : A.units < cLine) (h : Q (.bool true) s) :
    wpAny (model prog w) A (compareOp .Eq (.ref l) (.ref b)) Q E s := by
  have l1 : vs.length = 16 := by rw [hS.len, List.length_range]
  have l2 : ws.length = 16 := by rw [hi.length, rangeKs_length]
  refine eq_listAt (e := fun _ => true) hl hb (by simp [l1, l2]) hu (fun j h1 h2 => ?_) (by rw [List.all_eq_true.mpr (fun _ _ => rfl)]; exact h)
  obtain ⟨n, t, e1, hn, e2⟩ := hS.get j (by simpa using h1)
  have hj : j < 16 := by simpa [l1] using h1
  have en : n = j := by
    rw [List.getElem?_range hj] at e1
    exact (Option.some.inj e1).symm
  have e3 : ws[j]? = some ws[j] := List.getElem?_eq_getElem (by lia)
  obtain ⟨k, u, e4, e5⟩ := IntsAre.at hi j _ e3
  have ek : k = (j : Int) := by
    have : (rangeKs 0 16)[j]? = some (0 + (j : Int)) := by simp [rangeKs, hj]
    rw [this] at e5
    have := Option.some.inj e5
    lia
  have x1 : vs.toArray[j] = .float (fl16 j) t := by simpa [en] using e2
  have x2 : ws.toArray[j] = .int (j : Int) u := by simpa [ek] using e4
  rw [x1, x2]
  exact eqAt_fi (cmp16 j hj)
end
theorem ints_r16 {ys : List Value} (h : CarriedAll ys (List.map PyData.int (rangeInts 0 1 ((16 : Int) - 0).toNat))) : IntsAre ys (rangeKs 0 16) := by
  have e : rangeInts 0 1 ((16 : Int) - 0).toNat = rangeKs 0 16 := by decide
  rw [e] at h
  exact IntsAre.ofCarried h
theorem not_in4 {z a b c d : PySem.Str} (h1 : z ≠ a) (h2 : z ≠ b) (h3 : z ≠ c) (h4 : z ≠ d) : ¬ ([a, b, c, d].contains z = true) := by
  simp [h1, h2, h3, h4]
end
end Mine
/-! P49 -/
namespace Mine
section
section
open PyProof.V PySem.Spec PySem.Calls
variable {prog : Program} {w : World} {A : Around} {E : Value → Shared → Prop} {s : Shared} {env : Env} {h₀ : Heap} {body : List Stmt} {Q : Flow → Shared → Prop}
/-- the letters of the loop that turns one name's value -/
noncomputable abbrev sentPs (key : PySem.Str) (V : Nat → Tok → Value) (c : Nat × Tok) : List (PySem.Str × Value) := [(key, V c.1 c.2)]
theorem sent_rest {x : PySem.Str} {pos : Pos} {I : Addr} {n : Nat} {m₀ : PySem.Str → Option Value} {led : List (Addr × Obj)} (key : PySem.Str) (V : Nat → Tok → Value) (stored : List PySem.Str) (hoff : ∀ p ∈ led, p.1 ≠ I)
    (turn : ∀ (i : Nat) (tv : Tok) t (u : PySem.Str → Option Value) h tk o, i < n → o.cls = .type "range_iterator" →
      Fr h₀ env.locals h (kstB (fun z => if stored.contains z then u z else m₀ z) [(key, V i tv)]) → News h₀ env.locals h ((I, o) :: led) →
      wpAny (model prog w) A (assign (.Name x pos) env (.int (0 + (i : Int)) t)) (fun _ s₂ => wpAny (model prog w) A (execs body env) (RngPost h₀ env.locals { s with heap := h, toks := tk } I o (LstS (fun _ => led) (sentPs key V) stored m₀ (fun i c => c.1 = i) (i + 1)) Q) E s₂) E { s with heap := h, toks := tk })
    (done : ∀ (tv : Tok) (u : PySem.Str → Option Value) h tk, Fr h₀ env.locals h (kstB (fun z => if stored.contains z then u z else m₀ z) [(key, V n tv)]) → News h₀ env.locals h led → Q .next { s with heap := h, toks := tk }) :
    ∀ (k i : Nat) m nx, i + k = n → LstS (fun _ => led) (sentPs key V) stored m₀ (fun i c => c.1 = i) i m nx → ItemsRest prog w A E h₀ env (.Name x pos) body Q s [(I, "range_iterator")] [] (tokItems 0 i k) m nx
  | 0, i, m, nx, e, hS => by
    obtain ⟨⟨j, tv⟩, hnx, h1, h2, hj⟩ := hS
    have hnx : nx = led := hnx
    subst nx
    have hj : j = n := hj.trans e
    subst hj
    exact ItemsRest.zero fun h tk F N => done tv m h tk (ksw_fr h1 h2 F) N
  | k + 1, i, m, nx, e, hS => by
    obtain ⟨⟨j, tv⟩, hnx, h1, h2, hj⟩ := hS
    have hnx : nx = led := hnx
    subst nx
    have hj : j = i := hj
    subst hj
    refine ItemsRest.tok fun t h tk F => ?_
    intro o hc N
    refine wpAny_mono (turn j tv t m h tk o (e ▸ Nat.lt_add_of_pos_right (Nat.succ_pos k)) hc (ksw_fr h1 h2 F) N) (fun _ s₂ q2 => wpAny_mono q2 (fun f s₃ q3 => ?_) fun _ _ e => e) fun _ _ e => e
    have fin : RngEnd h₀ env.locals { s with heap := h, toks := tk } I o (LstS (fun _ => led) (sentPs key V) stored m₀ (fun i c => c.1 = i) (j + 1)) s₃ →
        UnrEndW h₀ env.locals { s with heap := h, toks := tk } [(I, o)] (fun m' n' => SubL [] n' ∧ ItemsRest prog w A E h₀ env (.Name x pos) body Q s [(I, "range_iterator")] [] (tokItems 0 (j + 1) k) m' n') s₃ := by
      rintro ⟨h', tk', m', news', rfl, F', N', ho', hS⟩
      refine ⟨h', tk', m', news', rfl, F', N', fun p hp q hq => ?_, trivial, sent_rest key V stored hoff turn done k (j + 1) m' news' (by rw [← e, Nat.succ_add]; rfl) hS⟩
      rw [List.mem_singleton.mp hq]
      exact ho' p hp
    cases f with
    | ret v => exact q3
    | brk => exact q3
    | next => exact fin q3
    | cont => exact fin q3
/-- for go in range(n): one name's value turns -/
theorem sent_loop {x : PySem.Str} {pos : Pos} {r : Addr} {b₀ : Int} {t₀ u₀ v₀ : Tok} {n : Nat} {m₀ : PySem.Str → Option Value} {led : List (Addr × Obj)} (key : PySem.Str) (V : Nat → Tok → Value) (stored : List PySem.Str) (tv₀ : Tok)
    (hh : A.handled = none) (hr : IsRange s.heap r 0 b₀ 1 t₀ u₀ v₀) (hsmall : Builtin.Range.small 0 b₀ 1 = true) (hn : Builtin.Range.rangeSize 0 b₀ 1 = (n : Int)) (F : Fr h₀ env.locals s.heap m₀) (N : News h₀ env.locals s.heap led) (hk : m₀ key = some (V 0 tv₀))
    (turn : ∀ (I : Addr) (_ : ∀ p ∈ led, p.1 < I) (_ : ∀ p ∈ led, p.1 ≠ I) (i : Nat) (tv : Tok) t (u : PySem.Str → Option Value) h tk o, i < n → o.cls = .type "range_iterator" →
      Fr h₀ env.locals h (kstB (fun z => if stored.contains z then u z else m₀ z) [(key, V i tv)]) → News h₀ env.locals h ((I, o) :: led) →
      wpAny (model prog w) A (assign (.Name x pos) env (.int (0 + (i : Int)) t)) (fun _ s₂ => wpAny (model prog w) A (execs body env) (RngPost h₀ env.locals { s with heap := h, toks := tk } I o (LstS (fun _ => led) (sentPs key V) stored m₀ (fun i c => c.1 = i) (i + 1)) Q) E s₂) E { s with heap := h, toks := tk })
    (done : ∀ (tv : Tok) (u : PySem.Str → Option Value) h tk, Fr h₀ env.locals h (kstB (fun z => if stored.contains z then u z else m₀ z) [(key, V n tv)]) → News h₀ env.locals h led → Q .next { s with heap := h, toks := tk }) :
    wpAny (model prog w) A (pyIter (.ref r)) (fun it s₂ => TurnsAt prog w A h₀ env (.Name x pos) body Q E it s₂) E s := by
  refine iter_rangeTurns hh hr hsmall hn F N fun I hI => ?_
  have hoff : ∀ p ∈ led, p.1 ≠ I := fun p hp => Nat.ne_of_lt (hI p hp)
  exact sent_rest key V stored hoff (turn I hI hoff) done n 0 m₀ led (Nat.zero_add n) ⟨(0, tv₀), rfl, fun p hp => by rw [List.mem_singleton.mp hp]; exact hk, fun _ _ _ => rfl, rfl⟩
end
/-- sealed: the step s at place j + 1 -/
structure SymS (j s : Nat) : Prop where
  ix : [1, 2, 4, 8][j + 1]? = some s
  cs : s = 1 ∨ s = 2 ∨ s = 4 ∨ s = 8
  le : s ≤ 8
structure PowAt (b : Int) (t1 t2 t4 t8 : Tok) (s : Nat) (t : Tok) : Prop where
  v : valueAt (powD b t1 t2 t4 t8) (s : Int) = some (.int (b ^ s) t)
theorem lit4s {t1 t2 t4 t8 : Tok} {i : Nat} {v : Value} (h : [Value.int 1 t1, Value.int 2 t2, Value.int 4 t4, Value.int 8 t8][i]? = some v) :
    (i = 0 ∧ v = .int 1 t1) ∨ ∃ (j s : Nat) (t : Tok), i = j + 1 ∧ v = .int (s : Int) t ∧ SymS j s := by
  rcases lit4 h with ⟨rfl, rfl⟩ | ⟨rfl, rfl⟩ | ⟨rfl, rfl⟩ | ⟨rfl, rfl⟩
  · exact .inl ⟨rfl, rfl⟩
  · exact .inr ⟨0, 2, _, rfl, rfl, rfl, by decide, by decide⟩
  · exact .inr ⟨1, 4, _, rfl, rfl, rfl, by decide, by decide⟩
  · exact .inr ⟨2, 8, _, rfl, rfl, rfl, by decide, by decide⟩
theorem pow_at {b : Int} {t1 t2 t4 t8 : Tok} {j s : Nat} (hs : SymS j s) : ∃ t, PowAt b t1 t2 t4 t8 s t := by
  rcases hs.cs with rfl | rfl | rfl | rfl
  · exact ⟨t1, ⟨congrArg (fun z => some (Value.int z t1)) (pw1 b)⟩⟩
  · exact ⟨t2, ⟨congrArg (fun z => some (Value.int z t2)) (pw2 b)⟩⟩
  · exact ⟨t4, ⟨congrArg (fun z => some (Value.int z t4)) (pw4 b)⟩⟩
  · exact ⟨t8, ⟨congrArg (fun z => some (Value.int z t8)) (pw8 b)⟩⟩
theorem three_no : ∀ n < 3, n = 0 ∨ n = 1 ∨ n = 2 := by decide +kernel
theorem four_no : ∀ n < 4, n = 0 ∨ n = 1 ∨ n = 2 ∨ n = 3 := by decide +kernel
theorem fmod3 (x : Int) : x.fmod 3 = 0 ∨ x.fmod 3 = 1 ∨ x.fmod 3 = 2 := by
  obtain ⟨n, hn⟩ := Int.eq_ofNat_of_zero_le (Int.fmod_nonneg_of_pos x (show (0 : Int) < 3 by decide))
  have h := Int.fmod_lt_of_pos x (show (0 : Int) < 3 by decide)
  rw [hn] at h ⊢
  rcases three_no n (Int.ofNat_lt.mp h) with rfl | rfl | rfl
  · exact .inl rfl
  · exact .inr (.inl rfl)
  · exact .inr (.inr rfl)
theorem fmod4 (x : Int) : x.fmod 4 = 0 ∨ x.fmod 4 = 1 ∨ x.fmod 4 = 2 ∨ x.fmod 4 = 3 := by
  obtain ⟨n, hn⟩ := Int.eq_ofNat_of_zero_le (Int.fmod_nonneg_of_pos x (show (0 : Int) < 4 by decide))
  have h := Int.fmod_lt_of_pos x (show (0 : Int) < 4 by decide)
  rw [hn] at h ⊢
  rcases four_no n (Int.ofNat_lt.mp h) with rfl | rfl | rfl | rfl
  · exact .inl rfl
  · exact .inr (.inl rfl)
  · exact .inr (.inr (.inl rfl))
  · exact .inr (.inr (.inr rfl))
theorem not_in1 {z a : PySem.Str} (h : z ≠ a) : ¬ ([a].contains z = true) := by simp [h]
theorem mem_at {α : Type} {l : List α} {x : α} {n : Nat} (h : l[n]? = some x) : x ∈ l := List.mem_of_getElem? h
theorem fr_hide7 {h₀ : Heap} {L : Addr} {h : Heap} {m : PySem.Str → Option Value} (F : Fr h₀ L h m) {x1 x2 x3 x4 x5 x6 x7 : PySem.Str} {v1 v2 v3 v4 v5 v6 v7 : Value} (h1 : m x1 = some v1) (h2 : m x2 = some v2) (h3 : m x3 = some v3) (h4 : m x4 = some v4) (h5 : m x5 = some v5) (h6 : m x6 = some v6) (h7 : m x7 = some v7) :
    ∃ m0, Fr h₀ L h m0 ∧ m0 x1 = some v1 ∧ m0 x2 = some v2 ∧ m0 x3 = some v3 ∧ m0 x4 = some v4 ∧ m0 x5 = some v5 ∧ m0 x6 = some v6 ∧ m0 x7 = some v7 := ⟨m, F, h1, h2, h3, h4, h5, h6, h7⟩
theorem rows_zero (rows : List Nat) : rows = rows.map (· + 0) := (List.map_id' rows).symm
theorem quo_i {rows : List Nat} {i : Nat} (h : RowsB 16 rows) (hi : i ≤ 20) : Quo (pageR (rows.map (· + i))) (pageR (rows.map (· + (i + 1)))) := by
  have q := quo_page (rowsB_mapj (j := i) h) (Nat.le_trans (Nat.add_le_add_left hi 16) (by decide))
  rw [List.map_map] at q
  exact q
theorem page_addS {prog : Program} {w : World} {A : Around} {E : Value → Shared → Prop} {s : Shared} {t u : Tok} {Q : Value → Shared → Prop} {j : Nat} {a : List Nat} (ha : RowsB 16 a) (hj : j ≤ 20)
    (h : ∀ t' k, Q (.str (pageR (a ++ a.map (· + j))) t') { s with toks := k }) : wpAny (model prog w) A (binaryOp .Add (.str (pageR a) t) (.str (pageR (a.map (· + j))) u)) Q E s := by
  have h1 := rowsB_len ha
  have h2 := rowsB_len (rowsB_mapj (j := j) ha)
  refine KXadd.add (Nat.le_refl _) (Nat.le_refl _) (by lia) fun t' k _ => ?_
  rw [page_cat]
  exact h t' k
theorem range_n (s : Nat) : Builtin.Range.rangeSize 0 (s : Int) 1 = (s : Int) := (rangeSize_nat 0 s).trans (by rw [Int.sub_zero, Int.toNat_natCast])
theorem small_n {s : Nat} (h : s ≤ 8) : Builtin.Range.small 0 (s : Int) 1 = true := small_one (by decide) (by decide) (by lia) (by lia)
end
end Mine
/-! F_lawQ -/
namespace Mine
section
theorem page_eq : PySem.Str.ofString ".E\r\n" = pageR [1] := by decide +kernel
theorem page_start (t u : Tok) (h : t = u := by rfl) : some (Value.str (PySem.Str.ofString ".E\r\n") t) = some (Value.str (pageR [1]) u) := by rw [page_eq, h]
theorem frac_fin (x : Int) : Float64.isInf (Float64.ofFrac (decide (x.fmod 4 + 1 < 0) != decide ((4 : Int) < 0)) (x.fmod 4 + 1).natAbs (Int.natAbs 4)) = false := by
  rcases fmod4 x with h | h | h | h
  all_goals rw [h]; decide +kernel
theorem if1 {c : Bool} (h : c = true) : (if c = true then (1 : Int) else 0) = 1 := if_pos h
theorem if0 {c : Bool} (h : c = false) : (if c = true then (1 : Int) else 0) = 0 := if_neg (by rw [h]; decide)
local macro_rules | `(tactic| walk_at "exec For Name Call cons nil") => `(tactic| (k_here; (rename Fr _ _ _ _ => lF'); (with_unfolding_all refine' For_turns lF' ?_; k_whole)))
theorem wid_nat (x : Int) : ∃ W : Nat, 6 + x.fmod 3 = (W : Int) ∧ (W = 6 ∨ W = 7 ∨ W = 8) := by
  rcases fmod3 x with h | h | h <;> rw [h]
  · exact ⟨6, rfl, .inl rfl⟩
  · exact ⟨7, rfl, .inr (.inl rfl)⟩
  · exact ⟨8, rfl, .inr (.inr rfl)⟩
theorem bit_len (q : List Int) : ((rangeKs 0 ((16 : Int) - 0).toNat).map fun k => if List.any q (fun x => x == k) then (1 : Int) else 0).length ≤ 64 := by
  rw [List.length_map, rangeKs_length]
  decide
theorem bit_bd {q : List Int} {W : Nat} (h : W = 6 ∨ W = 7 ∨ W = 8) : ∀ x ∈ (rangeKs 0 ((16 : Int) - 0).toNat).map (fun k => if List.any q (fun x => x == k) then (1 : Int) else 0), 0 ≤ x ∧ x < 2 ^ W := by
  intro x hx
  obtain ⟨k, _, rfl⟩ := List.mem_map.mp hx
  rcases h with rfl | rfl | rfl <;> (split <;> decide)
theorem wid_bd (x : Int) : 0 < (1 : Int) * 2 ^ (6 + x.fmod 3).toNat ∧ (1 : Int) * 2 ^ (6 + x.fmod 3).toNat ≤ 256 := by
  rcases fmod3 x with h | h | h <;> rw [h] <;> decide
theorem news_tail {h₀ : Heap} {L : Addr} {h : Heap} {p : Addr × Obj} {l : List (Addr × Obj)} (N : News h₀ L h (p :: l)) : News h₀ L h l := fun q hq => N q (.tail _ hq)
local macro_rules | `(tactic| k_ne) => `(tactic| k_extra "k_ne5")
local macro_rules | `(tactic| k_ne) => `(tactic| k_extra "k_ne4")
local macro_rules | `(tactic| k_ne) => `(tactic| k_extra "k_ne3")
local macro_rules | `(tactic| k_ne) => `(tactic| k_extra "k_ne2")
local macro_rules | `(tactic| k_ne) => `(tactic| k_extra "k_ne1")
local macro_rules | `(tactic| walk_at "exec For Name Name cons nil") => `(tactic| (k_here; (rename Fr _ _ _ _ => lF'); (with_unfolding_all refine' For_turns lF' ?_; k_whole)))
local macro_rules | `(tactic| walk_at "exec For Name Subscript cons nil") => `(tactic| (k_here; (rename Fr _ _ _ _ => lF'); (with_unfolding_all refine' For_turns lF' ?_; k_whole)))
local macro_rules | `(tactic| walk_at "exec For Name List cons nil") => `(tactic| (k_here; (rename Fr _ _ _ _ => lF'); (with_unfolding_all refine' For_turns lF' ?_; k_whole)))
local macro_rules | `(tactic| k_mem) => `(tactic| first | exact mem_at (n := 0) (by with_unfolding_all rfl) | exact mem_at (n := 1) (by with_unfolding_all rfl) | exact mem_at (n := 2) (by with_unfolding_all rfl) | exact mem_at (n := 3) (by with_unfolding_all rfl) | exact mem_at (n := 4) (by with_unfolding_all rfl) | exact mem_at (n := 5) (by with_unfolding_all rfl) | exact mem_at (n := 6) (by with_unfolding_all rfl) | exact mem_at (n := 7) (by with_unfolding_all rfl) | exact mem_at (n := 8) (by with_unfolding_all rfl) | exact mem_at (n := 9) (by with_unfolding_all rfl) | exact mem_at (n := 10) (by with_unfolding_all rfl) | exact mem_at (n := 11) (by with_unfolding_all rfl) | exact mem_at (n := 12) (by with_unfolding_all rfl) | exact mem_at (n := 13) (by with_unfolding_all rfl) | exact mem_at (n := 14) (by with_unfolding_all rfl) | exact mem_at (n := 15) (by with_unfolding_all rfl))
theorem law_walk : Challenge.rw_sn0051_01.Holds := by
  refine hd ?_
  w_strict (k_go0; (all_goals try k_fold))
  rename_i w s0 s1 mg mb G Y fa ofun pm cd doc ho hcd hg X V T BT TE TW scr hs hlay hL0 hr0 hl2 wa wb sc svs wc hLs ra w1 r0 hIs hr1 hc1 hc2 hDf hp0 tk0 co1 co2 lf rt X0 XX TT KK FF NN l0
  k_with_none
  k_with "pyIter ref" => (k_here; (with_reducible show wpAny _ _ (pyIter (Value.ref _)) (fun it s₂ => TurnsAt _ _ _ _ _ _ _ _ _ it s₂) _ _); k_extra "lst")
  k_with "CompSrc" => k_extra "csl"
  k_with "call type:list" => (k_here; (with_reducible show wpAny _ _ (call (Value.type "list") [Value.ref _]) _ _ _); k_extra "list")
  k_with "subscriptTail Call" => (k_here; (with_reducible show wpAny _ _ (subscriptTail _ (PySem.Expr.Slice _ _ none _) (Value.ref _) (Value.ref _)) _ _ _); k_extra "cut")
  k_with "call builtin:len" => (k_here; (with_reducible show wpAny _ _ (call (Value.builtin _) [Value.ref _]) _ _ _); k_extra "len")
  k_with "compareOp NotEq bool bool" => (k_here; k_extra "neq")
  k_with "compareOp IsNot bool bool" => (k_here; k_extra "isnot")
  k_with "binaryOp Pow int int" => (k_here; k_extra "pow")
  k_with "KCiEl" => (exfalso; k_extra "cabs")
  k_with "call builtin:sorted" => (k_here; k_extra "sorted")
  k_with "compareOp Eq ref ref" => (k_here; k_extra "eql")
  k_with "CompSrcT" => k_extra "clt"
  k_with "compareOp NotEq ref ref" => (k_here; k_extra "nel")
  k_with "call builtin:str.split" => k_extra "split"
  k_with "binaryOp Add str str" => (k_here; (with_reducible show wpAny _ _ (binaryOp Operator.Add (Value.str (pageR _) _) (Value.str (pageR _) _)) _ _ _); k_extra "padd")
  k_with "eval Name" => ((with_reducible rename Fr _ _ _ _ => kF); k_dflt (refine' nameX_L kF ?qhv ?_; (case qhv => first | exact gNu | exact gPo | exact gEv | exact gPa | exact gSt | exact gSh | exact gVa); k_whole))
  k_with "KCfEl" => first | (refine kcf_el (if1 (by assumption)) (by with_unfolding_all rfl) (by with_unfolding_all rfl)) | (refine kcf_el (if0 (by assumption)) (by with_unfolding_all rfl) (by with_unfolding_all rfl))
  k_with "k_ne1" => (refine neN ?_; (try dsimp only); first | with_reducible assumption | exact And.left (by with_reducible assumption) | exact pL1 (by with_reducible assumption) | exact pL2 (by with_reducible assumption) | exact pL3 (by with_reducible assumption) | exact pL4 (by with_reducible assumption) | exact pL5 (by with_reducible assumption) | exact pL6 (by with_reducible assumption) | exact pL7 (by with_reducible assumption) | exact pL8 (by with_reducible assumption) | exact pL9 (by with_reducible assumption) | exact pL10 (by with_reducible assumption) | exact pL11 (by with_reducible assumption) | exact pL12 (by with_reducible assumption) | exact pL13 (by with_reducible assumption) | exact And.right (by with_reducible assumption) | exact pR2 (by with_reducible assumption) | exact pR3 (by with_reducible assumption) | exact pR4 (by with_reducible assumption) | exact pR5 (by with_reducible assumption) | exact pR6 (by with_reducible assumption) | exact pR7 (by with_reducible assumption) | exact pR8 (by with_reducible assumption) | exact pR9 (by with_reducible assumption) | exact pR10 (by with_reducible assumption) | exact pR11 (by with_reducible assumption) | exact pR12 (by with_reducible assumption) | exact pR13 (by with_reducible assumption))
  k_with "k_ne2" => (refine neN ?_; (try dsimp only); refine Nat.ne_of_lt ?_; first | with_reducible assumption | exact And.left (by with_reducible assumption) | exact pL1 (by with_reducible assumption) | exact pL2 (by with_reducible assumption) | exact pL3 (by with_reducible assumption) | exact pL4 (by with_reducible assumption) | exact pL5 (by with_reducible assumption) | exact pL6 (by with_reducible assumption) | exact pL7 (by with_reducible assumption) | exact pL8 (by with_reducible assumption) | exact pL9 (by with_reducible assumption) | exact pL10 (by with_reducible assumption) | exact pL11 (by with_reducible assumption) | exact pL12 (by with_reducible assumption) | exact pL13 (by with_reducible assumption) | exact And.right (by with_reducible assumption) | exact pR2 (by with_reducible assumption) | exact pR3 (by with_reducible assumption) | exact pR4 (by with_reducible assumption) | exact pR5 (by with_reducible assumption) | exact pR6 (by with_reducible assumption) | exact pR7 (by with_reducible assumption) | exact pR8 (by with_reducible assumption) | exact pR9 (by with_reducible assumption) | exact pR10 (by with_reducible assumption) | exact pR11 (by with_reducible assumption) | exact pR12 (by with_reducible assumption) | exact pR13 (by with_reducible assumption))
  k_with "k_ne3" => (refine neN ?_; (try dsimp only); refine Nat.ne_of_gt ?_; first | with_reducible assumption | exact And.left (by with_reducible assumption) | exact pL1 (by with_reducible assumption) | exact pL2 (by with_reducible assumption) | exact pL3 (by with_reducible assumption) | exact pL4 (by with_reducible assumption) | exact pL5 (by with_reducible assumption) | exact pL6 (by with_reducible assumption) | exact pL7 (by with_reducible assumption) | exact pL8 (by with_reducible assumption) | exact pL9 (by with_reducible assumption) | exact pL10 (by with_reducible assumption) | exact pL11 (by with_reducible assumption) | exact pL12 (by with_reducible assumption) | exact pL13 (by with_reducible assumption) | exact And.right (by with_reducible assumption) | exact pR2 (by with_reducible assumption) | exact pR3 (by with_reducible assumption) | exact pR4 (by with_reducible assumption) | exact pR5 (by with_reducible assumption) | exact pR6 (by with_reducible assumption) | exact pR7 (by with_reducible assumption) | exact pR8 (by with_reducible assumption) | exact pR9 (by with_reducible assumption) | exact pR10 (by with_reducible assumption) | exact pR11 (by with_reducible assumption) | exact pR12 (by with_reducible assumption) | exact pR13 (by with_reducible assumption))
  k_with "k_ne4" => (refine neN ?_; (try dsimp only); refine Ne.symm ?_; first | with_reducible assumption | exact And.left (by with_reducible assumption) | exact pL1 (by with_reducible assumption) | exact pL2 (by with_reducible assumption) | exact pL3 (by with_reducible assumption) | exact pL4 (by with_reducible assumption) | exact pL5 (by with_reducible assumption) | exact pL6 (by with_reducible assumption) | exact pL7 (by with_reducible assumption) | exact pL8 (by with_reducible assumption) | exact pL9 (by with_reducible assumption) | exact pL10 (by with_reducible assumption) | exact pL11 (by with_reducible assumption) | exact pL12 (by with_reducible assumption) | exact pL13 (by with_reducible assumption) | exact And.right (by with_reducible assumption) | exact pR2 (by with_reducible assumption) | exact pR3 (by with_reducible assumption) | exact pR4 (by with_reducible assumption) | exact pR5 (by with_reducible assumption) | exact pR6 (by with_reducible assumption) | exact pR7 (by with_reducible assumption) | exact pR8 (by with_reducible assumption) | exact pR9 (by with_reducible assumption) | exact pR10 (by with_reducible assumption) | exact pR11 (by with_reducible assumption) | exact pR12 (by with_reducible assumption) | exact pR13 (by with_reducible assumption))
  k_with "k_ne5" => (refine neN ?_; (try dsimp only); omega)
  k_with "call builtin:list.append" => (k_here; (with_reducible show wpAny _ _ (call (Value.builtin _) [Value.ref _, _]) _ _ _); (k_dflt (refine' append_K ?x2qk1 ?x2qk2 ?x2qk3 ?_ ?x2qz; (case x2qk1 => k_asm); (case x2qk2 => k_asm); (case x2qk3 => k_upd); (case x2qz => first | exact app_room4 (by with_reducible assumption) (by with_reducible assumption) | exact turnp_room (by with_reducible assumption) (by with_reducible assumption) | exact meti_room (by with_reducible assumption) (by with_reducible assumption) (by with_reducible assumption) | size_fits); k_whole)); intro h' F' N'; (try k_sweep))
  k_with "CompEnd" => first | kcf_end | (with_unfolding_all exact LCg.CompEnd.intro (by assumption) (by assumption) _ (by kcf_all) (by first | assumption | (simp only [LCg.Off3, and_true]; done) | (simp only [LCg.Off3, and_true]; assumption)) (by first | lcg_src | assumption) (kci_no rfl rfl))
  k_with "k_all" => first | assumption | exact off1_ne (by with_reducible assumption) | (refine allNe_of (by with_reducible assumption) ?_; omega) | (refine allNe_lt (by with_reducible assumption) ?_; omega) | (exact List.forall_mem_append.mpr ⟨by k_all, by k_all⟩)
  k_with "lst" => (first | ((with_reducible rename IsRange _ _ _ _ _ _ _ _ => rgX); (k_dflt ((rename News _ _ _ _ => NL); (rename Fr _ _ _ _ => FL); (with_unfolding_all refine' sent_loop (PySem.Str.ofString "sent") (fun i t => Value.str (pageR (rows9.map (· + i))) t) [PySem.Str.ofString "go"] tok9 (by rfl) rgX (by first | exact small_n hS9.le | rfl) (by first | exact range_n s9 | exact (show _ = ((1 : Nat) : Int) from rfl)) FL NL ?qhk ?_ ?_); (case qhk => (show _ = some (Value.str (pageR (rows9.map (· + 0))) tok9); rw [← rows_zero rows9]; with_unfolding_all rfl)); (clear FL NL); (all_goals (first | (rintro Is hIs hOffs is tvs ts us hs tks os his hIcs FTs NTs; (clear hIs); (have hi20 : is ≤ 20 := by first | exact Nat.le_trans (Nat.le_of_lt his) (Nat.le_trans hS9.le (by decide)) | exact Nat.le_trans (Nat.le_of_lt his) (by decide))) | (rintro tvs us hs tks FTs NTs))); (all_goals (have kMark := kstMark)); (all_goals (dsimp only [kstB] at FTs))))) | ((with_reducible show wpAny _ _ (pyIter (Value.ref D2)) _ _ _); (k_dflt ((rename News _ _ _ _ => NL); (rename Fr _ _ _ _ => FL); (with_unfolding_all refine meto_loop (vs := us2) [PySem.Str.ofString "place", PySem.Str.ofString "turn", PySem.Str.ofString "r", PySem.Str.ofString "g", PySem.Str.ofString "b"] ((hs1.getD (Int.toNat 3) 0).fmod 16) (memL q2) (turnsOf rows9) (by rfl) (by rfl) (by rfl) FL NL meto_start ?_ ?_); (clear FL NL); (all_goals (first | (rintro Ia hIa ⟨usa, nsa, nua⟩ ia va ua ha tka oa hva hTa hIca hOffa FTa NTa; (obtain ⟨pa, ta, hpa, rfl⟩ := int_item I2 hva); (clear hva); (have hpb := hLF.hbd _ (List.mem_of_getElem? hpa)); (k_lt hIa)) | (rintro ⟨usb, nsb, nub⟩ ub h_b tkb hTb FTb NTb; (have hFl := meto_done I2 hTb)))); (all_goals (have kMark := kstMark)); (all_goals (first | (dsimp only [moLed] at NTa hOffa) | (dsimp only [moLed] at NTb))); (all_goals (try (simp only [List.forall_mem_cons, List.not_mem_nil, false_implies, implies_true, and_true] at hOffa)))))) | ((rename (MetO _ _ _ _ _) => hTa); (with_reducible show wpAny _ _ (pyIter (Value.ref _)) _ _ _); (k_dflt ((rename News _ _ _ _ => NL); (rename Fr _ _ _ _ => FL); (with_unfolding_all refine meti_loop (vs := usz) [PySem.Str.ofString "turn", PySem.Str.ofString "r", PySem.Str.ofString "g", PySem.Str.ofString "b"] ((hs1.getD (Int.toNat 3) 0).fmod 16) pa (turnsOf rows9) (metO ((hs1.getD (Int.toNat 3) 0).fmod 16) ((memL q2).take ia) (turnsOf rows9)) (by rfl) (by rfl) (by rfl) FL NL (meti_start hTa) ?_ ?_); (clear FL NL); (all_goals (first | (rintro Ic hIc ⟨usc, nsc, nuc⟩ ic vc uc h_c tkc oc hvc hTc hIcc hOffc FTc NTc; (obtain ⟨tc, tkd, htc, rfl⟩ := int_item hTI hvc); (clear hvc); (have htb := hLF.tbd _ (List.mem_of_getElem? htc)); (k_lt hIc); (have hHue := hue_law (hs1.getD (Int.toNat 3) 0) ((hs1.getD (Int.toNat 3) 0).fdiv 16) ((hs1.getD (Int.toNat 3) 0).fdiv 64) hpb htb); (have hInf := hue_inf' (hs1.getD (Int.toNat 3) 0) hpb htb); (unfold frF at hHue hInf)) | (rintro ⟨use, nse, nue⟩ ue h_e tke hTe FTe NTe))); (all_goals (first | (dsimp only [miLed] at NTc hOffc) | (dsimp only [miLed] at NTe))); (all_goals (try (simp only [List.forall_mem_cons, List.not_mem_nil, false_implies, implies_true, and_true] at hOffc)))))) | ((with_reducible show wpAny _ _ (pyIter (Value.ref D8)) _ _ _); (k_dflt ((rename News _ _ _ _ => NL); (rename Fr _ _ _ _ => FL); (have hlen9 := hRB9.len); (with_unfolding_all refine turns_loop (vs := ws8) [PySem.Str.ofString "row", PySem.Str.ofString "bare"] rows9 (by rfl) (by rfl) (by rfl) FL NL turnp_start ?_ ?_); (clear FL NL); (all_goals (first | (rintro Iz hIz ⟨usz, tsz, nuz⟩ iz vz uz hz tkz oz hvz hTz hIcz hOffz FTz NTz; (obtain ⟨jz, tjz, hjz, hrz, rfl⟩ := row_item hs8 hRB9 hvz); (have hxz : (rowE (jz + 1)).length ≤ 64 := by rw [row_len]; omega); (clear hvz)) | (rintro ⟨usz, tsz, nuz⟩ uz hz tkz hTz FTz NTz; (have hTI := turnp_done hs8 hTz); (obtain ⟨ps9, M9, ans9, b9, hLF⟩ := lawF hWb (by with_unfolding_all exact hNum) L2 b2 hVl9); (have hlm9 := hLF.hlen); (have hlt9 := hLF.tlen); (have NLz := news_lay NTz); (clear NTz)))); (all_goals (have kMark := kstMark)); (all_goals (first | (dsimp only [ttLed] at NTz) | (dsimp only [ttLed] at NLz))); (all_goals (try (dsimp only [ttLed] at hOffz hIz))); (all_goals (try (simp only [List.forall_mem_cons, List.not_mem_nil, false_implies, implies_true, and_true] at hOffz))); (all_goals (try (k_lt hIz)))))) | (k_dflt ((rename_i lEv hE l1E hP lLoop hL FL NL l1L); (have K3' := K3); (rw [hWd, Int.toNat_natCast, Int.one_mul] at K3'); (clear K3); (have hNb := num_bd hWb L2 b2); (generalize hNum : dval Wd _ = Num at FL); (have hNb' : 0 < Num ∧ Num < 2 ^ (Wd * 16) := by rw [← hNum]; with_unfolding_all exact hNb); (clear hNb); (obtain ⟨m0, FLn, gNu, gPo, gEv, gPa, gSt, gSh, gVa⟩ := fr_hide7 FL (x1 := PySem.Str.ofString "number") (x2 := PySem.Str.ofString "powers") (x3 := PySem.Str.ofString "even") (x4 := PySem.Str.ofString "page") (x5 := PySem.Str.ofString "start") (x6 := PySem.Str.ofString "share") (x7 := PySem.Str.ofString "value") (by with_unfolding_all rfl) (by with_unfolding_all rfl) (by with_unfolding_all rfl) (by with_unfolding_all rfl) (by with_unfolding_all rfl) (by with_unfolding_all rfl) (by with_unfolding_all rfl)); (clear FL); (have FL := FLn); (clear FLn); (with_unfolding_all refine steps_loop (fun c => [(PySem.Str.ofString "page", Value.str (pageR c.2.2.2.2.1) c.2.2.2.2.2)]) [PySem.Str.ofString "step", PySem.Str.ofString "sent", PySem.Str.ofString "go"] (StepP Num Wd) [] [1] _ (by rfl) (by rfl) (by rfl) FL NL (by (intro p hp); (cases List.mem_singleton.mp hp); (exact gPa.trans (page_start _ _))) stepp_start ?_ ?_); (clear FL NL); (all_goals (first | (rintro I9 hI9 ⟨seg9, us9, es9, nu9, rows9, tok9⟩ i9 v9 u9 h9 tk9 o9 hv9 ⟨hSg9, hIv9, hVl9⟩ hIc9 hOff9 FT9 NT9) | (rintro ⟨seg9, us9, es9, nu9, rows9, tok9⟩ u9 h9 tk9 hP9 FT9 NT9; (have hSg9 := hP9.sg); (have hIv9 := hP9.iv); (have hVl9 := hP9.vl); (clear hP9)))) ; (all_goals (try ((rcases lit4s hv9 with ⟨rfl, rfl⟩ | ⟨j9, s9, t9, rfl, rfl, hS9⟩)))); (all_goals (try ((clear hv9)))); (all_goals (try ((rename SymS _ _ => hS9); obtain ⟨tv9, hpv9⟩ := pow_at (b := (2 : Int) ^ Wd) (t1 := p1) (t2 := p2) (t4 := p4) (t8 := p8) hS9))); (all_goals (try ((dsimp only at hSg9 hIv9 hVl9)))); (all_goals (try ((have hRB9 := stepp_rows hVl9)))); (all_goals (try ((first | (obtain ⟨c1, oc1, vs1, t1, rfl, hd1, hq1, hl1, hm1⟩ := segok_succ hSg9) | (cases segok_zero hSg9))))); (all_goals (try ((have kMark := kstMark)))); (all_goals (try ((dsimp only [kstB] at FT9)))); (all_goals (try ((dsimp only [stLed] at NT9 hOff9 hI9)))); (all_goals (try ((simp only [List.nil_append, List.cons_append, List.append_nil] at NT9 hOff9 hI9)))); (all_goals (try ((simp only [List.forall_mem_cons, List.not_mem_nil, false_implies, implies_true, and_true] at hOff9)))); (all_goals (try ((k_lt hI9)))); (all_goals (try ((try (have hce9 := seg_ne NT9 hd1))))); (all_goals (try ((try dsimp only at hce9)))); (all_goals (try ((try (have hcI9 : @Ne Nat c1 I9 := hOff9.2.1))))); (all_goals (try ((have hI8 : @LT.lt Nat _ 55 I9 ∧ @LT.lt Nat _ 62 I9 ∧ @LT.lt Nat _ lEv I9 ∧ @LT.lt Nat _ lLoop I9 := ⟨hI9.2.1, hI9.2.2.2.1, hI9.2.2.1, hI9.1⟩)))); (all_goals (try (dsimp only [stLed] at NT9))); (all_goals (try (simp only [List.nil_append, List.cons_append] at NT9))))))
  k_with "subscriptTail" => (k_here; (first | ((with_reducible show wpAny _ _ (subscriptTail _ _ (Value.ref D3) (Value.int (s9 : Int) _)) _ _ _); (k_dflt (refine kda_item (knd := PySem.intKind _ _) (by k_asm) (by k_mem) K3' (intKind_is _ _ _ _) hpv9.v ?_))) | ((with_reducible show wpAny _ _ (subscriptTail _ _ (Value.ref D3) (Value.int 1 _)) _ _ _); (k_dflt (refine kda_item (knd := PySem.intKind _ _) (by k_asm) (by k_mem) K3' (intKind_is _ _ _ _) (by rfl) ?_)))))
  k_with "padd" => ((with_reducible show wpAny _ _ (binaryOp Operator.Add (Value.str (pageR rows9) _) (Value.str (pageR _) _)) _ _ _); refine' page_addS hRB9 ?qj ?_; (case qj => first | exact Nat.le_trans hS9.le (by decide) | exact Nat.le_of_ble_eq_true rfl); intro t8 k8)
  k_with "split" => ((rename News _ _ _ _ => kN); k_dflt (refine' KSpl.split1 (x := pageR rows9) ?qF kN nl_ne ?_ (page_room hRB9 (by decide)); (case qF => k_asm); intro D7 l7 h7 k7 hl7 hs7 F7 N7 lt7; (rw [hl7, rows_split hVl9] at hs7); (k_lt lt7); (clear hl7); (generalize strValues l7 = vs7 at hs7 N7)); (try dsimp only); (try k_fold))
  k_with "cut" => ((rename News _ _ _ _ => kN); k_dflt (refine' kmt_slice ?qF ?qN ?ql ?qi ?_ ?qs ?qz; (case qF => k_asm); (case qN => k_asm); (case ql => kmk_list); (case qi => with_reducible assumption); (case qs => with_unfolding_all rfl); (case qz => exact strs_room hs7 hRB9.len); intro D8 ws8 h8 F8 N8 lt8 hs8; (k_lt lt8)); (try dsimp only); (try k_fold))
  k_with "len" => (first | ((with_reducible show wpAny _ _ (call (Value.builtin _) [Value.ref D2]) _ _ _); k_dflt (refine' kst_len ?qN ?qm I2.length ?qf ?_; (case qN => k_asm); (case qm => k_memK); (case qf => exact fit_of hLF.hlen (by decide)))) | ((with_reducible show wpAny _ _ (call (Value.builtin _) [Value.ref lEv]) _ _ _); k_dflt (refine' kst_len ?qN ?qm hIv9.length ?qf ?_; (case qN => k_asm); (case qm => k_memK); (case qf => exact fit_of hLF.elen (by decide)))) | ((with_reducible show wpAny _ _ (call (Value.builtin _) [Value.ref lK]) _ _ _); k_dflt (refine' kst_len ?qN ?qm hIK.length ?qf ?_; (case qN => k_asm); (case qm => k_memK); (case qf => exact fit_of (Nat.le_trans hKl (Nat.mul_le_mul_left 16 hLF.hlen)) (by decide)))))
  k_with "clt" => (k_dflt (refine LCt.CompSrcT.ledger (by rfl) (by k_asm) (by k_asm) (by k_mem) (es_room hIv9 hLF.elen) ?_; intro g'; (refine' kci_list (fun l _ => l) hIv9 (fun k' t' I' oI' C' oC' D' m' ys' l' h' tk' E' hk' hI' hC' hx' F' N' off' ne' => ?_) ?_ ?_); (all_goals (try (simp only [LCg.Off3, and_true, and_assoc] at off'; have offB := And.right (And.right (And.right (And.right (And.right (And.right (And.right (And.right (And.right (And.right (And.right (And.right (And.right (off')))))))))))))))); (all_goals (try ((show KPfMark → _); intro hMark'))); kcf_last))
  k_with "nel" => ((rename IntsAre _ (List.foldl _ _ _) => hI0); ((rw [foldl_const] at hI0); (cases hI0); (walk_at "compareOp NotEq ref ref")))
  k_with "cabs" => exact lawF_in hLF (by with_reducible assumption) (by with_reducible assumption)
  k_with "sorted" => (k_dflt (refine' kx_sortedD ?qF ?qN ?ql hFl (hLF.met (by with_reducible assumption) _ (Int.fmod_nonneg_of_pos _ (by decide)) (Int.fmod_lt_of_pos _ (by decide))) ?_; (case qF => k_asm); (case qN => k_asm); (case ql => kmk_list); intro D4 h4 vs4 e4 F4 N4 l4 hS4; (k_lt l4)))
  k_with "eql" => (k_dflt (refine' eq_fls ?ql ?qb hS4 ?qi ?qu ?_; (case ql => kmk_list); (case qb => kmk_list); (case qi => exact ints_r16 (by with_reducible assumption)); (case qu => first | ke_room | ktr_units)))
  k_with "neq" => (first | (refine ne_same hLF.hev ?_) | (refine ne_same hLF.hki ?_))
  k_with "isnot" => (first | (refine isnot_w hLF.hw ?_) | (refine isnot_w hLF.ht ?_) | fail)
  k_with "pow" => (first | (refine pow_int_small (Int.natCast_nonneg _) (cast_le hLF.elen (by decide)) (by decide) ?_) | (refine pow_int_small (Int.natCast_nonneg _) (cast_le (Nat.le_trans hKl (Nat.mul_le_mul_left 16 hLF.hlen)) (by decide)) (by decide) ?_))
  k_with "csl" => (k_dflt (refine LCg.CompSrc.range (by rfl) (by k_asm) (by k_asm) (by assumption) (by decide) (by first | exact rangeSize_nat _ _ | rfl) (by first | exact Nat.le_of_ble_eq_true rfl | size_fits) ?_; intro g'; (refine' kcf_range (fun k => if List.any (memL q2) (fun x => x == k) then 1 else 0) (fun k' t' I' oI' C' oC' D' m' ys' h' tk' E' hlo' hhi' hC' hx' F' N' off' ne' hMark' => ?_) ?_); (all_goals (try (simp only [LCg.Off3, and_true, and_assoc] at off'; have offB := And.right (And.right (And.right (And.right (And.right (And.right (And.right (And.right (And.right (And.right (And.right (And.right (And.right (off')))))))))))))))); kcf_last))
  k_with "list" => (with_unfolding_all refine' kx_listpow ?qh ?qF ?qN ?qp K3 ?ql ?_; (case qh => rfl); (case qF => k_asm); (case qN => k_asm); (case qp => k_mem); (case ql => omega); intro B4 c4 h4 tk4 u1 u2 u4 u8 F4 N4 A4; (k_lt A4))
  k_with "call ref" => (first | ((with_reducible show wpAny _ _ (call (Value.ref 136) _) _ _ _); ((rename News _ _ _ _ => kN); (with_unfolding_all show wpAny _ (ktrTop _ _ _ _ _ _ _ _ _ _) _ _ _ _); with_unfolding_all refine' lay_all ?qB ?qF ?qX ?qN ?qT ?qk I2 ?qN0 hLF.hlen hLF.hpos hLF.hbd hLF.hps hLF.hsum hLF.G hLF.h16 ?qd ?qu ?_; (case qN0 => exact kN); (case qN => exact news_tail kN); (case qB => k_asm); (case qF => k_asm); (case qX => k_asm); (case qT => k_asm); (case qk => exact rfl); (case qd => ktr_room); (case qu => ktr_units); (rw [hLF.hb]); intro h6 tk6 F6 N6)) | ((with_reducible show wpAny _ _ (call (Value.ref 88) _) _ _ _); ((rename News _ _ _ _ => kN); (with_unfolding_all show wpAny _ (ktrTop _ _ _ _ _ _ _ _ _ _) _ _ _ _); with_unfolding_all refine' hsv_ok ?qB ?qF ?qX ?qN ?qT ?qk hHue.c1 hHue.c2 hHue.c3 hHue.c4 rfl ?qd ?qu ?_; (case qN => exact kN); (case qB => k_asm); (case qF => k_asm); (case qX => k_asm); (case qT => k_asm); (case qk => exact rfl); (case qd => ktr_room); (case qu => ktr_units); intro D5 t51 t52 t53 h5 tk5 F5 N5 l5; (k_lt l5))) | ((with_reducible show wpAny _ _ (call (Value.ref 81) _) _ _ _); ((rename News _ _ _ _ => kN); (with_unfolding_all show wpAny _ (ktrTop _ _ _ _ _ _ _ _ _ _) _ _ _ _); with_unfolding_all refine' rgb_ok ?qB ?qF ?qX ?qN ?qT ?qk hHue.d1 hHue.d2 hHue.d3 ?qd ?qu ?_; (case qN => exact kN); (case qB => k_asm); (case qF => k_asm); (case qX => k_asm); (case qT => k_asm); (case qk => exact rfl); (case qd => ktr_room); (case qu => ktr_units); intro D6 t61 t62 t63 y2 y3 h6 tk6 F6 N6 l6; (k_lt l6))) | ((with_reducible show wpAny _ _ (call (Value.ref 148) [Value.ref D2]) _ _ _); ((rename News _ _ _ _ => kN0); (have kN := news_w1 kN0); (with_unfolding_all show wpAny _ (ktrTop _ _ _ _ _ _ _ _ _ _) _ _ _ _); with_unfolding_all refine' wor_ok ?qB ?qF ?qX ?qN ?qT ?qk I2 ?qN0 (Nat.le_trans hLF.hlen (by decide)) ?qd ?qu ?_; (case qN0 => exact kN); (case qN => exact news_tail kN); (case qB => k_asm); (case qF => k_asm); (case qX => k_asm); (case qT => k_asm); (case qk => exact rfl); (case qd => ktr_room); (case qu => ktr_units); intro t6 h6 tk6 F6 N6)) | ((with_reducible show wpAny _ _ (call (Value.ref 148) _) _ _ _); ((rename News _ _ _ _ => kN0); (have kN := news_w2 kN0); (with_unfolding_all show wpAny _ (ktrTop _ _ _ _ _ _ _ _ _ _) _ _ _ _); with_unfolding_all refine' wor_ok ?qB ?qF ?qX ?qN ?qT ?qk hTI ?qN0 (Nat.le_trans hLF.tlen (by decide)) ?qd ?qu ?_; (case qN0 => exact kN); (case qN => exact news_tail kN); (case qB => k_asm); (case qF => k_asm); (case qX => k_asm); (case qT => k_asm); (case qk => exact rfl); (case qd => ktr_room); (case qu => ktr_units); intro t6 h6 tk6 F6 N6)) | ((with_reducible show wpAny _ _ (call (Value.ref 155) _) _ _ _); ((rename News _ _ _ _ => kN); (with_unfolding_all show wpAny _ (ktrTop _ _ _ _ _ _ _ _ _ _) _ _ _ _); with_unfolding_all refine' its_ok ?qB ?qF ?qX ?qN ?qT ?qk (wordOf_len _) (wordOf_nd _) ?qd ?qu ?_; (case qN => exact kN); (case qB => k_asm); (case qF => k_asm); (case qX => k_asm); (case qT => k_asm); (case qk => exact rfl); (case qd => ktr_room); (case qu => ktr_units); intro h6 tk6 F6 N6)) | ((with_reducible show wpAny _ _ (call (Value.ref 143) _) _ _ _); ((rename News _ _ _ _ => kN); (with_unfolding_all show wpAny _ (ktrTop _ _ _ _ _ _ _ _ _ _) _ _ _ _); with_unfolding_all refine' kin_ok ?qB ?qF ?qX ?qN ?qT ?qk I2 ?qN0 hLF.hlen ?qd ?qu ?_; (case qN0 => exact kN); (case qN => exact news_tail kN); (case qB => k_asm); (case qF => k_asm); (case qX => k_asm); (case qT => k_asm); (case qk => exact rfl); (case qd => ktr_room); (case qu => ktr_units); intro lK usK nuK h6 tk6 hIK F6 N6 ltK hKl; (simp only [AllLt, and_true] at ltK))) | ((with_reducible show wpAny _ _ (call (Value.ref 102) _) _ _ _); (rename News _ _ _ _ => kN); (with_unfolding_all show wpAny _ (ktrTop _ _ _ _ _ _ _ _ _ _) _ _ _ _); with_unfolding_all refine' strip_ok ?qB ?qF ?qX ?qN ?qT ?qk hjz ?ql ?qd ?qu ?_; (case qN => exact kN); (case qB => k_asm); (case qF => k_asm); (case qX => k_asm); (case qT => k_asm); (case qk => exact rfl); (case qd => ktr_room); (case qu => ktr_units); (case ql => (rw [row_len]; omega)); intro t6 h6 tk6 F6 N6) | ((with_reducible show wpAny _ _ (call (Value.ref 74) [Value.int _ _, Value.int (2 ^ Wd + 1) _]) _ _ _); ((rename News _ _ _ _ => kN); (have kN0 := news_dmp0 kN); (with_unfolding_all show wpAny _ (ktrTop _ _ _ _ _ _ _ _ _ _) _ _ _ _); (have hpre := dmp_pre1 hWb hNb'.1 hNb'.2); with_unfolding_all refine' dmp_new ?qB ?qF ?qX ?qN ?qT ?qk ?qne5 ?qne6 ?qc1 ?qc2 ?q62 ?qu2 ?qv2 hNb'.1 hpre.hy hpre.hW hpre.hc0 hpre.hc1 hpre.hxc ?qd ?qu ?_; (case qN => exact kN0); (case qB => k_asm); (case qF => k_asm); (case qX => k_asm); (case qT => k_asm); (case qk => exact rfl); (case qd => ktr_room); (case qu => ktr_units); (case qne5 => ((simp only [List.forall_mem_cons, List.not_mem_nil, false_implies, implies_true, and_true]); (refine ⟨?_, ?_, ?_, ?_, ?_, ?_, ?_, ?_, ?_, ?_⟩) <;> k_ne)); (case qne6 => ((simp only [List.forall_mem_cons, List.not_mem_nil, false_implies, implies_true, and_true]); (refine ⟨?_, ?_, ?_, ?_, ?_, ?_, ?_, ?_, ?_, ?_⟩) <;> k_ne)); (case qc1 => assumption); (case qc2 => assumption); (case q62 => exact hl5.2.1); (case qu2 => assumption); (case qv2 => assumption); intro c6 oc6 vs6 t6 d6 q6 u6 v6 h6 tk6 F6 N6 hd6 hv6 hl6 hm6; (k_lt hl6); (k_lt hm6))) | ((with_reducible show wpAny _ _ (call (Value.ref 74) [Value.int _ _, Value.int ((2 ^ Wd) ^ s9 + 1) _]) _ _ _); (rename News _ _ _ _ => kN); (have kN0 := news_dmp1 kN); ((with_unfolding_all show wpAny _ (ktrTop _ _ _ _ _ _ _ _ _ _) _ _ _ _); (have hpre := dmp_pre hWb hS9.cs hNb'.1 hNb'.2); with_unfolding_all refine' dmp_old ?qB ?qF ?qX ?qN ?qT ?qk hl1 (neN (Nat.ne_of_gt hm1)) hd1 hq1 ?qne5 ?qne6 ?qc1 ?qc2 ?q62 ?q55 hd5 hq5 hNb'.1 hpre.hy hpre.hW hpre.hc0 hpre.hc1 hpre.hxc ?qd ?qu ?_; (case qN => exact kN0); (case qB => k_asm); (case qF => k_asm); (case qX => k_asm); (case qT => k_asm); (case qk => exact rfl); (case qd => ktr_room); (case qu => ktr_units); (case qne5 => ((simp only [List.forall_mem_cons, List.not_mem_nil, false_implies, implies_true, and_true]); (refine ⟨?_, ?_, ?_, ?_, ?_, ?_, ?_, ?_, ?_, ?_⟩) <;> k_ne)); (case qne6 => ((simp only [List.forall_mem_cons, List.not_mem_nil, false_implies, implies_true, and_true]); (refine ⟨?_, ?_, ?_, ?_, ?_, ?_, ?_, ?_, ?_, ?_⟩) <;> k_ne)); (case qc1 => assumption); (case qc2 => assumption); (case q62 => exact hl5.2.1); (case q55 => k_ne); intro d6 q6 u6 v6 h6 tk6 F6 N6 hm6; (k_lt hm6))) | ((with_reducible show wpAny _ _ (call (Value.ref 119) _) _ _ _); (rename News _ _ _ _ => kN); (with_unfolding_all show wpAny _ (ktrTop _ _ _ _ _ _ _ _ _ _) _ _ _ _); with_unfolding_all refine' quo_ok ?qB ?qF ?qX ?qN ?qT ?qk (quo_i hRB9 hi20) ?qd ?qu ?_; (case qN => exact kN); (case qB => k_asm); (case qF => k_asm); (case qX => k_asm); (case qT => k_asm); (case qk => exact rfl); (case qd => ktr_room); (case qu => ktr_units); intro t7 h7 tk7 F7 N7) | ((with_reducible show wpAny _ _ (call (Value.ref 126) _) _ _ _); (rename News _ _ _ _ => kN); (with_unfolding_all show wpAny _ (ktrTop _ _ _ _ _ _ _ _ _ _) _ _ _ _); with_unfolding_all refine' hea_ok ?qB ?qF ?qX ?qN ?qT ?qk ?qhl ?qhi ?qhlen ?qhI ?qh4 ?qhb ?qN0 ?qhD ?qd ?qu ?_; (case qB => k_asm); (case qF => k_asm); (case qX => k_asm); (case qT => k_asm); (case qk => exact rfl); (case qd => ktr_room); (case qu => ktr_units); (case qN => exact news_tail kN); (case qN0 => exact kN); (case qhl => assumption); (case qhi => assumption); (case qhlen => omega); (case qhI => exact .cons _ _ (.cons _ _ (.cons _ _ (.cons _ _ .nil)))); (case qh4 => rfl); (case qhb => decide); (case qhD => (simp only [AllLt, and_true]; omega)); intro us1 hs1 nu1 h1 tk1 I1 L1 B1 F1 N1) | ((with_reducible show wpAny _ _ (call (Value.ref 131) _) _ _ _); (rename News _ _ _ _ => kN); (with_unfolding_all show wpAny _ (ktrTop _ _ _ _ _ _ _ _ _ _) _ _ _ _); with_unfolding_all refine' mem_ok ?qB ?qF ?qX ?qN ?qT ?qk ?qh1 ?qh2 ?qh3 ?qd ?qu ?_; (case qB => k_asm); (case qF => k_asm); (case qX => k_asm); (case qT => k_asm); (case qk => exact rfl); (case qd => ktr_room); (case qu => ktr_units); (case qN => exact kN); (case qh1 => exact getD_bd _ (by decide) B1); (case qh2 => exact getD_bd _ (by decide) B1); (case qh3 => exact getD_bd _ (by decide) B1); intro D2 us2 q2 nu2 h2 tk2 I2 L2 b2 F2 N2 O2; (simp only [LCg.Off1, and_true] at O2)) | ((with_reducible show wpAny _ _ (call (Value.ref 39) _) _ _ _); (rename News _ _ _ _ => kN); (with_unfolding_all show wpAny _ (ktrTop _ _ _ _ _ _ _ _ _ _) _ _ _ _); with_unfolding_all refine' pow_ok ?qB ?qF ?qX ?qN ?qT ?qk ?qb0 ?qb1 ?qd ?qu ?_; (case qB => k_asm); (case qF => k_asm); (case qX => k_asm); (case qT => k_asm); (case qk => exact rfl); (case qd => ktr_room); (case qu => ktr_units); (case qN => exact kN); (case qb0 => exact (wid_bd _).1); (case qb1 => exact (wid_bd _).2); intro D3 o3 h3 tk3 d3 p1 p2 p4 p8 F3 N3 A3 K3; (simp only [AllLt, and_true] at A3)) | ((with_reducible show wpAny _ _ (call (Value.ref 67) _) _ _ _); (rename News _ _ _ _ => kN); (obtain ⟨Wd, hWd, hWb⟩ := wid_nat ((hs1.getD (Int.toNat 3) 0).fdiv 256)); (rw [hWd]); (with_unfolding_all show wpAny _ (ktrTop _ _ _ _ _ _ _ _ _ _) _ _ _ _); with_unfolding_all refine' d2i_new ?qB ?qF ?qX ?qN ?qT ?qk ?qi ?qN0 ?qne ?ql62 ?qcd ?qlen ?qW ?qb ?qd ?qu ?_; (case qN0 => exact news_pull8 kN); (case qN => exact news_tail (news_tail (news_pull8 kN))); (case qB => k_asm); (case qF => k_asm); (case qX => k_asm); (case qT => k_asm); (case qk => exact rfl); (case qd => ktr_room); (case qu => ktr_units); (case qi => assumption); (case qne => ((simp only [List.forall_mem_cons, List.not_mem_nil, false_implies, implies_true, and_true]); (refine ⟨?_, ?_, ?_, ?_, ?_, ?_, ?_, ?_⟩) <;> k_ne)); (case ql62 => k_ne); (case qcd => assumption); (case qlen => exact bit_len _); (case qW => omega); (case qb => exact bit_bd hWb); intro c5 o5 ud5 td5 tn5 h5 tk5 F5 N5 hd5 hq5 hl5; (k_lt hl5)) | fail)
  k_with "fin" => first | (exfalso; rename Float64.isInf _ = true => hbad; rw [frac_fin] at hbad; cases hbad) | (first | ((with_reducible show RngPost _ _ _ _ _ (LstS _ (sentPs _ _) _ _ _ _) _ _ _); ((rename News _ _ _ _ => kN); with_unfolding_all refine' lst_end ((is + 1, _) : Nat × Tok) (by k_asm) ?qnn hOffs ?qpa ?qst rfl; (case qnn => exact kst_newsOf kN (by kst_inAny)); (case qpa => (intro p hp; cases List.mem_singleton.mp hp; with_unfolding_all rfl)); (case qst => (intro z z1 z3; (have z2 : z ≠ PySem.Str.ofString "sent" := z1 _ (List.mem_singleton.mpr rfl)); (have z4 : z ≠ PySem.Str.ofString "go" := by (intro e; rw [e] at z3; exact absurd z3 (by decide))); (have z7 : ¬ ([PySem.Str.ofString "go"].contains z = true) := by (rw [z3]; decide)); simp only [if_neg z2, if_neg z4, if_neg z7])))) | ((rename ((turnsOf rows9)[ic]? = some tc) => htc9); ((rename News _ _ _ _ => kN); (try simp only [List.push_toArray] at kN); with_unfolding_all refine' lst_end ((usc ++ [Value.float _ _], nsc ++ [_], nuc + 1) : StM) (by k_asm) ?qnn ?qof ?qpa ?qst (meti_next hTc htc9 rfl ?qxx); (case qnn => (dsimp only [miLed]; exact kst_newsOf kN (by kst_inAny))); (case qof => (simp only [miLed, List.forall_mem_cons, List.not_mem_nil, false_implies, implies_true, and_true]; (and_intros <;> k_ne))); (case qpa => exact fun _ h => nomatch h); (case qst => (intro z z1 z3; (have z10 : z ≠ PySem.Str.ofString "turn" := by (intro e; rw [e] at z3; exact absurd z3 (by decide))); (have z11 : z ≠ PySem.Str.ofString "r" := by (intro e; rw [e] at z3; exact absurd z3 (by decide))); (have z12 : z ≠ PySem.Str.ofString "g" := by (intro e; rw [e] at z3; exact absurd z3 (by decide))); (have z13 : z ≠ PySem.Str.ofString "b" := by (intro e; rw [e] at z3; exact absurd z3 (by decide))); (have z7 : ¬ ([PySem.Str.ofString "turn", PySem.Str.ofString "r", PySem.Str.ofString "g", PySem.Str.ofString "b"].contains z = true) := by (rw [z3]; decide)); simp only [if_neg z10, if_neg z11, if_neg z12, if_neg z13, if_neg z7])); (case qxx => exact hHue.val))) | ((rename (MetI _ _ _ _ _ _) => hTe9); (rename ((memL q2)[ia]? = some pa) => hpa9); ((rename News _ _ _ _ => kN); with_unfolding_all refine' lst_end ((use, nse, nue) : StM) (by k_asm) ?qnn ?qof ?qpa ?qst (meto_next hTe9 hTI.length hpa9); (case qnn => (dsimp only [moLed]; exact kst_newsOf kN (by kst_inAny))); (case qof => (simp only [moLed, List.forall_mem_cons, List.not_mem_nil, false_implies, implies_true, and_true]; (and_intros <;> k_ne))); (case qpa => exact fun _ h => nomatch h); (case qst => (intro z z1 z3; (have z10 : z ≠ PySem.Str.ofString "place" := by (intro e; rw [e] at z3; exact absurd z3 (by decide))); (have z11 : z ≠ PySem.Str.ofString "turn" := by (intro e; rw [e] at z3; exact absurd z3 (by decide))); (have z12 : z ≠ PySem.Str.ofString "r" := by (intro e; rw [e] at z3; exact absurd z3 (by decide))); (have z13 : z ≠ PySem.Str.ofString "g" := by (intro e; rw [e] at z3; exact absurd z3 (by decide))); (have z14 : z ≠ PySem.Str.ofString "b" := by (intro e; rw [e] at z3; exact absurd z3 (by decide))); (have z7 : ¬ ([PySem.Str.ofString "place", PySem.Str.ofString "turn", PySem.Str.ofString "r", PySem.Str.ofString "g", PySem.Str.ofString "b"].contains z = true) := by (rw [z3]; decide)); (have z8 := not_in4 z11 z12 z13 z14); simp only [if_neg z10, if_neg z11, if_neg z12, if_neg z13, if_neg z14, if_neg z7, if_neg z8])))) | ((rename (rows9[iz]? = some (jz + 1)) => hrz9); ((rename News _ _ _ _ => kN); (try simp only [List.push_toArray] at kN); with_unfolding_all refine' lst_end ((usz ++ [Value.int _ _], tsz ++ [_], nuz + 1) : StT) (by k_asm) ?qnn ?qof ?qpa ?qst (turnp_next hTz hrz9 ?qxx); (case qnn => (dsimp only [ttLed]; exact kst_newsOf kN (by kst_inAny))); (case qof => (simp only [ttLed, List.forall_mem_cons, List.not_mem_nil, false_implies, implies_true, and_true]; (and_intros <;> k_ne))); (case qpa => exact fun _ h => nomatch h); (case qst => (intro z z1 z3; (have z4 : z ≠ PySem.Str.ofString "row" := by (intro e; rw [e] at z3; exact absurd z3 (by decide))); (have z5 : z ≠ PySem.Str.ofString "bare" := by (intro e; rw [e] at z3; exact absurd z3 (by decide))); (have z7 : ¬ ([PySem.Str.ofString "row", PySem.Str.ofString "bare"].contains z = true) := by (rw [z3]; decide)); simp only [if_neg z4, if_neg z5, if_neg z7])); (case qxx => (rw [row_len]; omega)))) | ((rename (DmpPre Num (2 ^ Wd + 1)) => hpre9); (rename (Num % (2 ^ Wd + 1) = 0) => hz9); ((rename News _ _ _ _ => kN); (try simp only [List.push_toArray] at kN); with_unfolding_all refine' steps_end ([(c6, oc6), (55, tabObj #[rawInt 74, rawInt 4, .ref c6])], us9 ++ [Value.int 1 _], es9 ++ [1], nu9 + 1, rows9, tok9) (by k_asm) ?qnn ?qof ?qpa ?qst (stepP_yes (s := 1) rfl (pw1 _) hz9 (.s 0 c6 oc6 vs6 t6 hd6 hv6 (by omega) (by omega)) hIv9 hVl9); (case qnn => (dsimp only [stLed]; simp only [List.nil_append, List.cons_append]; exact kst_newsOf kN (by kst_inAny))); (case qof => (simp only [stLed, List.nil_append, List.cons_append, List.forall_mem_cons, List.not_mem_nil, false_implies, implies_true, and_true]; (and_intros <;> k_ne))); (case qpa => (intro p hp; cases List.mem_singleton.mp hp; with_unfolding_all rfl)); (case qst => (intro z z1 z3; (have z2 : z ≠ PySem.Str.ofString "page" := z1 _ (List.mem_singleton.mpr rfl)); (have z4 : z ≠ PySem.Str.ofString "step" := by (intro e; rw [e] at z3; exact absurd z3 (by decide))); (have z5 : z ≠ PySem.Str.ofString "sent" := by (intro e; rw [e] at z3; exact absurd z3 (by decide))); (have z6 : z ≠ PySem.Str.ofString "go" := by (intro e; rw [e] at z3; exact absurd z3 (by decide))); (have z7 : ¬ ([PySem.Str.ofString "step", PySem.Str.ofString "sent", PySem.Str.ofString "go"].contains z = true) := by (rw [z3]; decide)); simp only [if_neg z2, if_neg z4, if_neg z5, if_neg z6, if_neg z7])))) | ((rename (DmpPre Num (2 ^ Wd + 1)) => hpre9); (rename (¬ Num % (2 ^ Wd + 1) = 0) => hz9); ((rename News _ _ _ _ => kN); (try simp only [List.push_toArray] at kN); with_unfolding_all refine' steps_end ([(c6, oc6), (55, tabObj #[rawInt 74, rawInt 4, .ref c6])], us9, es9, nu9, rows9 ++ rows9.map (· + 1), _) (by k_asm) ?qnn ?qof ?qpa ?qst (stepP_no (s := 1) rfl (pw1 _) hz9 (.s 0 c6 oc6 vs6 t6 hd6 hv6 (by omega) (by omega)) hIv9 hVl9); (case qnn => (dsimp only [stLed]; simp only [List.nil_append, List.cons_append]; exact kst_newsOf kN (by kst_inAny))); (case qof => (simp only [stLed, List.nil_append, List.cons_append, List.forall_mem_cons, List.not_mem_nil, false_implies, implies_true, and_true]; (and_intros <;> k_ne))); (case qpa => (intro p hp; cases List.mem_singleton.mp hp; with_unfolding_all rfl)); (case qst => (intro z z1 z3; (have z2 : z ≠ PySem.Str.ofString "page" := z1 _ (List.mem_singleton.mpr rfl)); (have z4 : z ≠ PySem.Str.ofString "step" := by (intro e; rw [e] at z3; exact absurd z3 (by decide))); (have z5 : z ≠ PySem.Str.ofString "sent" := by (intro e; rw [e] at z3; exact absurd z3 (by decide))); (have z6 : z ≠ PySem.Str.ofString "go" := by (intro e; rw [e] at z3; exact absurd z3 (by decide))); (have z7 : ¬ ([PySem.Str.ofString "step", PySem.Str.ofString "sent", PySem.Str.ofString "go"].contains z = true) := by (rw [z3]; decide)); (have z8 := not_in1 z6); simp only [if_neg z2, if_neg z4, if_neg z5, if_neg z6, if_neg z7, if_neg z8])))) | ((rename (DmpPre Num ((2 ^ Wd) ^ s9 + 1)) => hpre9); (rename (Num % ((2 ^ Wd) ^ s9 + 1) = 0) => hz9); ((rename News _ _ _ _ => kN); (try simp only [List.push_toArray] at kN); with_unfolding_all refine' steps_end ([(c1, oc1), (55, tabObj #[rawInt 74, rawInt 4, .ref c1])], us9 ++ [Value.int (s9 : Int) _], es9 ++ [(s9 : Int)], nu9 + 1, rows9, tok9) (by k_asm) ?qnn ?qof ?qpa ?qst (stepP_yes (s := s9) hS9.ix rfl hz9 (.s (j9 + 1) c1 oc1 vs1 t1 hd1 hq1 hl1 hm1) hIv9 hVl9); (case qnn => (dsimp only [stLed]; simp only [List.nil_append, List.cons_append]; exact kst_newsOf kN (by kst_inAny))); (case qof => (simp only [stLed, List.nil_append, List.cons_append, List.forall_mem_cons, List.not_mem_nil, false_implies, implies_true, and_true]; (and_intros <;> k_ne))); (case qpa => (intro p hp; cases List.mem_singleton.mp hp; with_unfolding_all rfl)); (case qst => (intro z z1 z3; (have z2 : z ≠ PySem.Str.ofString "page" := z1 _ (List.mem_singleton.mpr rfl)); (have z4 : z ≠ PySem.Str.ofString "step" := by (intro e; rw [e] at z3; exact absurd z3 (by decide))); (have z5 : z ≠ PySem.Str.ofString "sent" := by (intro e; rw [e] at z3; exact absurd z3 (by decide))); (have z6 : z ≠ PySem.Str.ofString "go" := by (intro e; rw [e] at z3; exact absurd z3 (by decide))); (have z7 : ¬ ([PySem.Str.ofString "step", PySem.Str.ofString "sent", PySem.Str.ofString "go"].contains z = true) := by (rw [z3]; decide)); simp only [if_neg z2, if_neg z4, if_neg z5, if_neg z6, if_neg z7])))) | ((rename (DmpPre Num ((2 ^ Wd) ^ s9 + 1)) => hpre9); (rename (¬ Num % ((2 ^ Wd) ^ s9 + 1) = 0) => hz9); ((rename News _ _ _ _ => kN); (try simp only [List.push_toArray] at kN); with_unfolding_all refine' steps_end ([(c1, oc1), (55, tabObj #[rawInt 74, rawInt 4, .ref c1])], us9, es9, nu9, rows9 ++ rows9.map (· + s9), _) (by k_asm) ?qnn ?qof ?qpa ?qst (stepP_no (s := s9) hS9.ix rfl hz9 (.s (j9 + 1) c1 oc1 vs1 t1 hd1 hq1 hl1 hm1) hIv9 hVl9); (case qnn => (dsimp only [stLed]; simp only [List.nil_append, List.cons_append]; exact kst_newsOf kN (by kst_inAny))); (case qof => (simp only [stLed, List.nil_append, List.cons_append, List.forall_mem_cons, List.not_mem_nil, false_implies, implies_true, and_true]; (and_intros <;> k_ne))); (case qpa => (intro p hp; cases List.mem_singleton.mp hp; with_unfolding_all rfl)); (case qst => (intro z z1 z3; (have z2 : z ≠ PySem.Str.ofString "page" := z1 _ (List.mem_singleton.mpr rfl)); (have z4 : z ≠ PySem.Str.ofString "step" := by (intro e; rw [e] at z3; exact absurd z3 (by decide))); (have z5 : z ≠ PySem.Str.ofString "sent" := by (intro e; rw [e] at z3; exact absurd z3 (by decide))); (have z6 : z ≠ PySem.Str.ofString "go" := by (intro e; rw [e] at z3; exact absurd z3 (by decide))); (have z7 : ¬ ([PySem.Str.ofString "step", PySem.Str.ofString "sent", PySem.Str.ofString "go"].contains z = true) := by (rw [z3]; decide)); (have z8 := not_in1 z6); simp only [if_neg z2, if_neg z4, if_neg z5, if_neg z6, if_neg z7, if_neg z8])))))
  k_with "execs cons" => ((try k_gentoks); (try k_made); (with_reducible refine wpAny_execs_cons ?_); (try dsimp only); (k_dflt (as_aux_lemma => (k_steps; all_goals (k_extra "fin")))))
  k_steps
  all_goals k_extra "fin"
end
end Mine
theorem PySem.Challenge.cw_sn0051_01_holds : PySem.Challenge.rw_sn0051_01.Holds := by
  exact Mine.law_walk
