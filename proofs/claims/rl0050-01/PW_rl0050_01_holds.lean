import PyProof.Rows.All
import Wide.All
import OpenK.AllK
import Wide.FinOn
import PySem.Challenge.RW_rl0050_01
set_option Elab.async false
set_option linter.unusedVariables false
section
open PySem PySem.W PyProof.Rows
namespace Mine
set_option maxRecDepth 100000 in
set_option maxHeartbeats 8000000 in
open_top hd for PySem.Challenge.rw_rl0050_01
end Mine
#check @Mine.hd
#print axioms Mine.hd
end
local macro_rules | `(tactic| walk_at $s:str) => `(tactic| k_extra $s)
section
open PySem PySem.W PyProof.Rows
namespace Mine
def fLt (a b : UInt64) : Bool := Float64.cmp a b == some .lt
def fEq (a b : UInt64) : Bool := Float64.cmp a b == some .eq
def max3 (r g b : UInt64) : UInt64 := let m := if fLt r g then g else r; if fLt m b then b else m
def min3 (r g b : UInt64) : UInt64 := let m := if fLt g r then g else r; if fLt b m then b else m
def f0 : UInt64 := 0
def f1 : UInt64 := 4607182418800017408
def f2 : UInt64 := 4611686018427387904
def f4 : UInt64 := 4616189618054758400
def f6 : UInt64 := 4618441417868443648
/-- what rgb_to_hsv wants of three floats: no grey, no division by nought -/
def okRgb (r g b : UInt64) : Bool :=
  !(fEq (min3 r g b) (max3 r g b)) && !(Float64.isZero (Float64.sub (max3 r g b) (min3 r g b))) && !(Float64.isZero (max3 r g b))
def hueOf (r g b : UInt64) : UInt64 :=
  let mx := max3 r g b
  let rg := Float64.sub mx (min3 r g b)
  let rc := Float64.div (Float64.sub mx r) rg
  let gc := Float64.div (Float64.sub mx g) rg
  let bc := Float64.div (Float64.sub mx b) rg
  let h := if fEq r mx then Float64.sub bc gc else if fEq g mx then Float64.sub (Float64.add f2 rc) bc else Float64.sub (Float64.add f4 gc) rc
  (Float64.divmod (Float64.div h f6) f1).2
def satOf (r g b : UInt64) : UInt64 := Float64.div (Float64.sub (max3 r g b) (min3 r g b)) (max3 r g b)
abbrev intOf (x : UInt64) : Int := PySem.Flt.toInt Float64.truncOf x
def fracOf (h : UInt64) : UInt64 := Float64.sub (Float64.mul h f6) (Float64.ofInt (intOf (Float64.mul h f6)))
def pOf (s v : UInt64) : UInt64 := Float64.mul v (Float64.sub f1 s)
def qOf (h s v : UInt64) : UInt64 := Float64.mul v (Float64.sub f1 (Float64.mul s (fracOf h)))
def tOf (h s v : UInt64) : UInt64 := Float64.mul v (Float64.sub f1 (Float64.mul s (Float64.sub f1 (fracOf h))))
def rgbOf (h s v : UInt64) : UInt64 × UInt64 × UInt64 :=
  let i := Int.fmod (intOf (Float64.mul h f6)) 6
  if i = 0 then (v, tOf h s v, pOf s v) else if i = 1 then (qOf h s v, v, pOf s v) else if i = 2 then (pOf s v, v, tOf h s v)
  else if i = 3 then (pOf s v, qOf h s v, v) else if i = 4 then (tOf h s v, pOf s v, v) else (v, pOf s v, qOf h s v)
def okHsv (h s : UInt64) : Bool := Float64.isFinite (Float64.mul h f6) && !(fEq s f0) && decide (0 ≤ intOf (Float64.mul h f6)) && decide (intOf (Float64.mul h f6) < 100)
/-- the wheel's part, the quarter -/
def partOf (size : Nat) : UInt64 := Float64.ofFrac false 1 size
def quarter : UInt64 := Float64.ofFrac false 1 4
def mark (size p : Nat) : UInt64 := Float64.mul (Float64.ofInt p) (partOf size)
def qu (k : Nat) : UInt64 := Float64.mul (Float64.ofInt k) quarter
def col (size p sh lv : Nat) : UInt64 × UInt64 × UInt64 := rgbOf (mark size p) (qu sh) (qu lv)
def okCol (size p sh lv : Nat) : Bool :=
  let c := col size p sh lv
  okHsv (mark size p) (qu sh) && okRgb c.1 c.2.1 c.2.2 && (hueOf c.1 c.2.1 c.2.2 == mark size p) && (satOf c.1 c.2.1 c.2.2 == qu sh) && (max3 c.1 c.2.1 c.2.2 == qu lv)
end Mine
end
section
open PySem PySem.W PyProof.Rows
namespace Mine
/-- the hue at P 32nds of the wheel -/
def mkH (P : Nat) : UInt64 := Float64.mul (Float64.ofInt P) (partOf 32)
def colr (P sh lv : Nat) : UInt64 × UInt64 × UInt64 := rgbOf (mkH P) (qu sh) (qu lv)
def all2 (n : Nat) (f : Nat → Bool) : Bool := Nat.rec true (fun i r => and (f i) r) n
theorem all2_of {f : Nat → Bool} : ∀ {n : Nat}, all2 n f = true → ∀ i, i < n → f i = true
  | 0, _, i, h => absurd h (Nat.not_lt_zero _)
  | n + 1, e, i, h => by
    have e' : and (f n) (all2 n f) = true := e
    rw [Bool.and_eq_true] at e'
    rcases Nat.lt_succ_iff_lt_or_eq.mp h with h | rfl
    · exact all2_of e'.2 i h
    · exact e'.1
def eqU (a b : UInt64) : Bool := Nat.beq a.toNat b.toNat
theorem eqU_iff {a b : UInt64} (h : eqU a b = true) : a = b := UInt64.toNat_inj.mp (Nat.eq_of_beq_eq_true h)
set_option maxRecDepth 100000
def ltOk (P Q : Nat) : Bool := match Float64.cmp (mkH P) (mkH Q), Nat.blt P Q with
  | some .lt, true => true
  | some .lt, false => false
  | _, true => false
  | _, false => true
theorem lt_all : all2 32 (fun P => all2 32 fun Q => ltOk P Q) = true := by decide +kernel
theorem all2_succ {f : Nat → Bool} {n : Nat} (h1 : f n = true) (h2 : all2 n f = true) : all2 (n + 1) f = true := by
  show and (f n) (all2 n f) = true
  rw [h1, h2]
  rfl
def hTab : List Nat := [0, 4584664420663164928, 4589168020290535424, 4591419820104220672, 4593671619917905920, 4594797519824748544, 4595923419731591168, 4597049319638433792, 4598175219545276416, 4598738169498697728, 4599301119452119040, 4599864069405540352, 4600427019358961664, 4600989969312382976, 4601552919265804288, 4602115869219225600, 4602678819172646912, 4602960294149357568, 4603241769126068224, 4603523244102778880, 4603804719079489536, 4604086194056200192, 4604367669032910848, 4604649144009621504, 4604930618986332160, 4605212093963042816, 4605493568939753472, 4605775043916464128, 4606056518893174784, 4606337993869885440, 4606619468846596096, 4606900943823306752, 4607182418800017408, 4607323156288372736, 4607463893776728064, 4607604631265083392, 4607745368753438720, 4607886106241794048, 4608026843730149376, 4608167581218504704, 4608308318706860032, 4608449056195215360, 4608589793683570688, 4608730531171926016, 4608871268660281344, 4609012006148636672, 4609152743636992000, 4609293481125347328, 4609434218613702656, 4609574956102057984, 4609715693590413312, 4609856431078768640, 4609997168567123968, 4610137906055479296, 4610278643543834624, 4610419381032189952, 4610560118520545280, 4610700856008900608, 4610841593497255936, 4610982330985611264, 4611123068473966592, 4611263805962321920, 4611404543450677248, 4611545280939032576, 4611686018427387904]
/-- the hue at P 32nds, told -/
def hT (P : Nat) : UInt64 := UInt64.ofNat (hTab.getD P 0)
theorem h_tab : all2 65 (fun P => eqU (mkH P) (hT P)) = true := by decide +kernel
theorem mk_hT {P : Nat} (h : P < 65) : mkH P = hT P := eqU_iff (all2_of h_tab P h)
def addOk (P : Nat) : Bool := all2 33 fun Q => eqU (Float64.add (hT P) (hT Q)) (hT (P + Q))
theorem addK0 : addOk 0 = true := by decide +kernel
theorem addK1 : addOk 1 = true := by decide +kernel
theorem addK2 : addOk 2 = true := by decide +kernel
theorem addK3 : addOk 3 = true := by decide +kernel
theorem addK4 : addOk 4 = true := by decide +kernel
theorem addK5 : addOk 5 = true := by decide +kernel
theorem addK6 : addOk 6 = true := by decide +kernel
theorem addK7 : addOk 7 = true := by decide +kernel
theorem addK8 : addOk 8 = true := by decide +kernel
theorem addK9 : addOk 9 = true := by decide +kernel
theorem addK10 : addOk 10 = true := by decide +kernel
theorem addK11 : addOk 11 = true := by decide +kernel
theorem addK12 : addOk 12 = true := by decide +kernel
theorem addK13 : addOk 13 = true := by decide +kernel
theorem addK14 : addOk 14 = true := by decide +kernel
theorem addK15 : addOk 15 = true := by decide +kernel
theorem addK16 : addOk 16 = true := by decide +kernel
theorem addK17 : addOk 17 = true := by decide +kernel
theorem addK18 : addOk 18 = true := by decide +kernel
theorem addK19 : addOk 19 = true := by decide +kernel
theorem addK20 : addOk 20 = true := by decide +kernel
theorem addK21 : addOk 21 = true := by decide +kernel
theorem addK22 : addOk 22 = true := by decide +kernel
theorem addK23 : addOk 23 = true := by decide +kernel
theorem addK24 : addOk 24 = true := by decide +kernel
theorem addK25 : addOk 25 = true := by decide +kernel
theorem addK26 : addOk 26 = true := by decide +kernel
theorem addK27 : addOk 27 = true := by decide +kernel
theorem addK28 : addOk 28 = true := by decide +kernel
theorem addK29 : addOk 29 = true := by decide +kernel
theorem addK30 : addOk 30 = true := by decide +kernel
theorem addK31 : addOk 31 = true := by decide +kernel
theorem addT_all : all2 32 addOk = true := all2_succ addK31 (all2_succ addK30 (all2_succ addK29 (all2_succ addK28 (all2_succ addK27 (all2_succ addK26 (all2_succ addK25 (all2_succ addK24 (all2_succ addK23 (all2_succ addK22 (all2_succ addK21 (all2_succ addK20 (all2_succ addK19 (all2_succ addK18 (all2_succ addK17 (all2_succ addK16 (all2_succ addK15 (all2_succ addK14 (all2_succ addK13 (all2_succ addK12 (all2_succ addK11 (all2_succ addK10 (all2_succ addK9 (all2_succ addK8 (all2_succ addK7 (all2_succ addK6 (all2_succ addK5 (all2_succ addK4 (all2_succ addK3 (all2_succ addK2 (all2_succ addK1 (all2_succ addK0 (rfl))))))))))))))))))))))))))))))))
def eq3 (a b : UInt64 × UInt64 × UInt64) : Bool := eqU a.1 b.1 && eqU a.2.1 b.2.1 && eqU a.2.2 b.2.2
def turnOk (P : Nat) : Bool := all2 4 fun a => all2 4 fun b => eq3 (colr (P + 32) (a + 1) (b + 1)) (colr P (a + 1) (b + 1))
theorem turnK0 : turnOk 0 = true := by decide +kernel
theorem turnK1 : turnOk 1 = true := by decide +kernel
theorem turnK2 : turnOk 2 = true := by decide +kernel
theorem turnK3 : turnOk 3 = true := by decide +kernel
theorem turnK4 : turnOk 4 = true := by decide +kernel
theorem turnK5 : turnOk 5 = true := by decide +kernel
theorem turnK6 : turnOk 6 = true := by decide +kernel
theorem turnK7 : turnOk 7 = true := by decide +kernel
theorem turnK8 : turnOk 8 = true := by decide +kernel
theorem turnK9 : turnOk 9 = true := by decide +kernel
theorem turnK10 : turnOk 10 = true := by decide +kernel
theorem turnK11 : turnOk 11 = true := by decide +kernel
theorem turnK12 : turnOk 12 = true := by decide +kernel
theorem turnK13 : turnOk 13 = true := by decide +kernel
theorem turnK14 : turnOk 14 = true := by decide +kernel
theorem turnK15 : turnOk 15 = true := by decide +kernel
theorem turnK16 : turnOk 16 = true := by decide +kernel
theorem turnK17 : turnOk 17 = true := by decide +kernel
theorem turnK18 : turnOk 18 = true := by decide +kernel
theorem turnK19 : turnOk 19 = true := by decide +kernel
theorem turnK20 : turnOk 20 = true := by decide +kernel
theorem turnK21 : turnOk 21 = true := by decide +kernel
theorem turnK22 : turnOk 22 = true := by decide +kernel
theorem turnK23 : turnOk 23 = true := by decide +kernel
theorem turnK24 : turnOk 24 = true := by decide +kernel
theorem turnK25 : turnOk 25 = true := by decide +kernel
theorem turnK26 : turnOk 26 = true := by decide +kernel
theorem turnK27 : turnOk 27 = true := by decide +kernel
theorem turnK28 : turnOk 28 = true := by decide +kernel
theorem turnK29 : turnOk 29 = true := by decide +kernel
theorem turnK30 : turnOk 30 = true := by decide +kernel
theorem turnK31 : turnOk 31 = true := by decide +kernel
theorem turn_all : all2 32 turnOk = true := all2_succ turnK31 (all2_succ turnK30 (all2_succ turnK29 (all2_succ turnK28 (all2_succ turnK27 (all2_succ turnK26 (all2_succ turnK25 (all2_succ turnK24 (all2_succ turnK23 (all2_succ turnK22 (all2_succ turnK21 (all2_succ turnK20 (all2_succ turnK19 (all2_succ turnK18 (all2_succ turnK17 (all2_succ turnK16 (all2_succ turnK15 (all2_succ turnK14 (all2_succ turnK13 (all2_succ turnK12 (all2_succ turnK11 (all2_succ turnK10 (all2_succ turnK9 (all2_succ turnK8 (all2_succ turnK7 (all2_succ turnK6 (all2_succ turnK5 (all2_succ turnK4 (all2_succ turnK3 (all2_succ turnK2 (all2_succ turnK1 (all2_succ turnK0 (rfl))))))))))))))))))))))))))))))))
def colOk (P a b : Nat) : Bool := match colr P (a + 1) (b + 1) with
  | (x, y, z) => okRgb x y z && eqU (hueOf x y z) (mkH P) && eqU (satOf x y z) (qu (a + 1)) && eqU (max3 x y z) (qu (b + 1))
def colsOk (P : Nat) : Bool := all2 4 fun a => all2 4 fun b => colOk P a b
theorem colK0 : colsOk 0 = true := by decide +kernel
theorem colK1 : colsOk 1 = true := by decide +kernel
theorem colK2 : colsOk 2 = true := by decide +kernel
theorem colK3 : colsOk 3 = true := by decide +kernel
theorem colK4 : colsOk 4 = true := by decide +kernel
theorem colK5 : colsOk 5 = true := by decide +kernel
theorem colK6 : colsOk 6 = true := by decide +kernel
theorem colK7 : colsOk 7 = true := by decide +kernel
theorem colK8 : colsOk 8 = true := by decide +kernel
theorem colK9 : colsOk 9 = true := by decide +kernel
theorem colK10 : colsOk 10 = true := by decide +kernel
theorem colK11 : colsOk 11 = true := by decide +kernel
theorem colK12 : colsOk 12 = true := by decide +kernel
theorem colK13 : colsOk 13 = true := by decide +kernel
theorem colK14 : colsOk 14 = true := by decide +kernel
theorem colK15 : colsOk 15 = true := by decide +kernel
theorem colK16 : colsOk 16 = true := by decide +kernel
theorem colK17 : colsOk 17 = true := by decide +kernel
theorem colK18 : colsOk 18 = true := by decide +kernel
theorem colK19 : colsOk 19 = true := by decide +kernel
theorem colK20 : colsOk 20 = true := by decide +kernel
theorem colK21 : colsOk 21 = true := by decide +kernel
theorem colK22 : colsOk 22 = true := by decide +kernel
theorem colK23 : colsOk 23 = true := by decide +kernel
theorem colK24 : colsOk 24 = true := by decide +kernel
theorem colK25 : colsOk 25 = true := by decide +kernel
theorem colK26 : colsOk 26 = true := by decide +kernel
theorem colK27 : colsOk 27 = true := by decide +kernel
theorem colK28 : colsOk 28 = true := by decide +kernel
theorem colK29 : colsOk 29 = true := by decide +kernel
theorem colK30 : colsOk 30 = true := by decide +kernel
theorem colK31 : colsOk 31 = true := by decide +kernel
theorem col_all : all2 32 colsOk = true := all2_succ colK31 (all2_succ colK30 (all2_succ colK29 (all2_succ colK28 (all2_succ colK27 (all2_succ colK26 (all2_succ colK25 (all2_succ colK24 (all2_succ colK23 (all2_succ colK22 (all2_succ colK21 (all2_succ colK20 (all2_succ colK19 (all2_succ colK18 (all2_succ colK17 (all2_succ colK16 (all2_succ colK15 (all2_succ colK14 (all2_succ colK13 (all2_succ colK12 (all2_succ colK11 (all2_succ colK10 (all2_succ colK9 (all2_succ colK8 (all2_succ colK7 (all2_succ colK6 (all2_succ colK5 (all2_succ colK4 (all2_succ colK3 (all2_succ colK2 (all2_succ colK1 (all2_succ colK0 (rfl))))))))))))))))))))))))))))))))
theorem hsv_all : all2 64 (fun P => all2 4 fun a => okHsv (mkH P) (qu (a + 1))) = true := by decide +kernel
theorem back_all : all2 32 (fun P => eqU (Float64.sub (Float64.ofInt 1) (mkH P)) (mkH (32 - P))) = true := by decide +kernel
theorem half_all : all2 17 (fun p => eqU (Float64.mul (Float64.ofInt p) (partOf 16)) (mkH (2 * p))) = true := by decide +kernel
theorem eq3_iff {a b : UInt64 × UInt64 × UInt64} (h : eq3 a b = true) : a = b := by
  obtain ⟨a1, a2, a3⟩ := a
  obtain ⟨b1, b2, b3⟩ := b
  unfold eq3 at h
  rw [Bool.and_eq_true, Bool.and_eq_true] at h
  have e1 : a1 = b1 := eqU_iff h.1.1
  have e2 : a2 = b2 := eqU_iff h.1.2
  have e3 : a3 = b3 := eqU_iff h.2
  rw [e1, e2, e3]
theorem mk_lt {P Q : Nat} (hP : P < 32) (hQ : Q < 32) : (Float64.cmp (mkH P) (mkH Q) == some .lt) = decide (P < Q) := by
  have h := all2_of (all2_of lt_all P hP) Q hQ
  have hb : Nat.blt P Q = decide (P < Q) := by
    rw [Bool.eq_iff_iff, PySem.W.Z.blt_iff, decide_eq_true_eq]
  rw [← hb]
  simp only [ltOk] at h
  cases e : Float64.cmp (mkH P) (mkH Q) with
  | none => rw [e] at h; cases e2 : Nat.blt P Q <;> simp_all
  | some o => rw [e] at h; cases o <;> cases e2 : Nat.blt P Q <;> simp_all
theorem mk_add {P Q : Nat} (hP : P < 32) (hQ : Q ≤ 32) : Float64.add (mkH P) (mkH Q) = mkH (P + Q) := by
  rw [mk_hT (by omega : P < 65), mk_hT (by omega : Q < 65), mk_hT (by omega : P + Q < 65)]
  exact eqU_iff (all2_of (all2_of addT_all P hP) Q (Nat.lt_succ_of_le hQ))
theorem mk_turn {P sh lv : Nat} (hP : P < 32) (h1 : 1 ≤ sh) (h2 : sh ≤ 4) (h3 : 1 ≤ lv) (h4 : lv ≤ 4) : colr (P + 32) sh lv = colr P sh lv := by
  have h := eq3_iff (all2_of (all2_of (all2_of turn_all P hP) (sh - 1) (by omega)) (lv - 1) (by omega))
  rwa [show sh - 1 + 1 = sh by omega, show lv - 1 + 1 = lv by omega] at h
theorem col_at {P sh lv : Nat} (hP : P < 32) (h1 : 1 ≤ sh) (h2 : sh ≤ 4) (h3 : 1 ≤ lv) (h4 : lv ≤ 4) : colOk P (sh - 1) (lv - 1) = true := by
  exact all2_of (all2_of (all2_of col_all P hP) (sh - 1) (by omega)) (lv - 1) (by omega)
theorem col_facts {P sh lv : Nat} {x y z : UInt64} (hP : P < 32) (h1 : 1 ≤ sh) (h2 : sh ≤ 4) (h3 : 1 ≤ lv) (h4 : lv ≤ 4) (e : colr P sh lv = (x, y, z)) :
    okRgb x y z = true ∧ hueOf x y z = mkH P ∧ satOf x y z = qu sh ∧ max3 x y z = qu lv := by
  have h := col_at hP h1 h2 h3 h4
  unfold colOk at h
  rw [show sh - 1 + 1 = sh by omega, show lv - 1 + 1 = lv by omega, e] at h
  simp only [Bool.and_eq_true] at h
  exact ⟨h.1.1.1, eqU_iff h.1.1.2, eqU_iff h.1.2, eqU_iff h.2⟩
theorem hsv_ok {P sh : Nat} (hP : P < 64) (h1 : 1 ≤ sh) (h2 : sh ≤ 4) : okHsv (mkH P) (qu sh) = true := by
  have h := all2_of (all2_of hsv_all P hP) (sh - 1) (by omega)
  rwa [show sh - 1 + 1 = sh by omega] at h
theorem mk_back {P : Nat} (hP : P < 32) : Float64.sub (Float64.ofInt 1) (mkH P) = mkH (32 - P) := eqU_iff (all2_of back_all P hP)
theorem mk_half {p : Nat} (hp : p ≤ 16) : Float64.mul (Float64.ofInt p) (partOf 16) = mkH (2 * p) := eqU_iff (all2_of half_all p (Nat.lt_succ_of_le hp))
end Mine
end
section
open PySem PySem.W PyProof.Rows
namespace Mine
def curr (F i : Nat) : Nat := F / 2 ^ i * 2 ^ i
def bitsTo (fl i : Nat) : List Nat := (List.range i).filter fun p => fl.testBit p
theorem curr_zero (fl : Nat) : curr fl 0 = fl := by simp [curr]
theorem curr_end {fl : Nat} (h : fl < 2 ^ 32) : curr fl 32 = 0 := by simp [curr, Nat.div_eq_of_lt h]
theorem testBit_mod (fl i : Nat) : fl.testBit i = decide (fl / 2 ^ i % 2 = 1) := by
  rw [Nat.testBit_eq_decide_div_mod_eq]
theorem curr_step (fl i : Nat) : curr fl i = curr fl (i + 1) + fl / 2 ^ i % 2 * 2 ^ i := by
  unfold curr
  have h1 : fl / 2 ^ (i + 1) = fl / 2 ^ i / 2 := by rw [Nat.pow_succ, Nat.div_div_eq_div_mul]
  rw [h1, Nat.pow_succ]
  generalize fl / 2 ^ i = q
  have h2 := Nat.div_add_mod q 2
  calc q * 2 ^ i = (2 * (q / 2) + q % 2) * 2 ^ i := by rw [h2]
    _ = q / 2 * (2 ^ i * 2) + q % 2 * 2 ^ i := by rw [Nat.add_mul, Nat.mul_comm 2 (q / 2), Nat.mul_assoc, Nat.mul_comm 2 (2 ^ i)]
theorem curr_and (fl i : Nat) : curr fl i &&& 2 ^ i = fl / 2 ^ i % 2 * 2 ^ i := by
  have hc : (curr fl i).testBit i = decide (fl / 2 ^ i % 2 = 1) := by
    rw [testBit_mod]
    unfold curr
    rw [Nat.mul_div_cancel _ (Nat.pow_pos (by decide))]
  apply Nat.eq_of_testBit_eq
  intro j
  rw [Nat.testBit_and, Nat.testBit_two_pow]
  by_cases hj : i = j
  · subst hj
    rw [hc]
    rcases Nat.mod_two_eq_zero_or_one (fl / 2 ^ i) with h | h <;> simp [h]
  · rcases Nat.mod_two_eq_zero_or_one (fl / 2 ^ i) with h | h <;> simp [h, hj, Nat.testBit_two_pow]
theorem bitAnd_nat (a b : Nat) : Builtin.bitAnd (a : Int) (b : Int) = ((a &&& b : Nat) : Int) := by
  unfold Builtin.bitAnd
  simp
theorem and_curr (fl i : Nat) : Builtin.bitAnd (curr fl i : Nat) ((2 ^ i : Nat) : Int) = ((fl / 2 ^ i % 2 * 2 ^ i : Nat) : Int) := by rw [bitAnd_nat, curr_and]
theorem xor_curr {fl i : Nat} (h : fl.testBit i = true) : Builtin.bitXor (curr fl i : Nat) ((2 ^ i : Nat) : Int) = ((curr fl (i + 1) : Nat) : Int) := by
  rw [bitXor_and, and_curr]
  have h1 : fl / 2 ^ i % 2 = 1 := by rw [testBit_mod] at h; exact of_decide_eq_true h
  have h2 := curr_step fl i
  rw [h1, Nat.one_mul] at *
  omega
theorem bit_of_and {fl i : Nat} (h : Builtin.bitAnd (curr fl i : Nat) ((2 ^ i : Nat) : Int) ≠ 0) : fl.testBit i = true := by
  rw [and_curr] at h
  rw [testBit_mod]
  rcases Nat.mod_two_eq_zero_or_one (fl / 2 ^ i) with h1 | h1
  · exact absurd (by rw [h1]; simp) h
  · exact decide_eq_true h1
theorem nobit_of_and {fl i : Nat} (h : Builtin.bitAnd (curr fl i : Nat) ((2 ^ i : Nat) : Int) = 0) : fl.testBit i = false := by
  rw [and_curr] at h
  rw [testBit_mod]
  rcases Nat.mod_two_eq_zero_or_one (fl / 2 ^ i) with h1 | h1
  · simp [h1]
  · exfalso
    rw [h1, Nat.one_mul] at h
    have : 0 < 2 ^ i := Nat.pow_pos (by decide)
    omega
theorem curr_same {fl i : Nat} (h : fl.testBit i = false) : curr fl (i + 1) = curr fl i := by
  have h1 : fl / 2 ^ i % 2 = 0 := by
    rw [testBit_mod] at h
    have := of_decide_eq_false h
    have := Nat.mod_two_eq_zero_or_one (fl / 2 ^ i)
    omega
  have h2 := curr_step fl i
  rw [h1] at h2
  omega
theorem bitsTo_yes {fl i : Nat} (h : fl.testBit i = true) : bitsTo fl (i + 1) = bitsTo fl i ++ [i] := by
  unfold bitsTo; rw [List.range_succ, List.filter_append]; simp [h]
theorem bitsTo_no {fl i : Nat} (h : fl.testBit i = false) : bitsTo fl (i + 1) = bitsTo fl i := by
  unfold bitsTo; rw [List.range_succ, List.filter_append]; simp [h]
theorem bitsTo_all {fl i : Nat} (h : curr fl (i + 1) = 0) (hi : i < 32) : bitsTo fl (i + 1) = bitsTo fl 32 := by
  have hz : fl / 2 ^ (i + 1) = 0 := by
    unfold curr at h
    rcases Nat.mul_eq_zero.mp h with h | h
    · exact h
    · exact absurd h (Nat.ne_of_gt (Nat.pow_pos (by decide)))
  have hlt : fl < 2 ^ (i + 1) := by
    rcases Nat.div_eq_zero_iff.mp hz with h | h
    · exact absurd h (Nat.ne_of_gt (Nat.pow_pos (by decide)))
    · exact h
  have step : ∀ d, bitsTo fl (i + 1 + d) = bitsTo fl (i + 1) := by
    intro d
    induction d with
    | zero => rfl
    | succ d ih =>
      rw [← Nat.add_assoc, bitsTo_no, ih]
      exact Nat.testBit_lt_two_pow (Nat.lt_of_lt_of_le hlt (Nat.pow_le_pow_right (by decide) (by omega)))
  have := step (31 - i)
  rw [show i + 1 + (31 - i) = 32 by omega] at this
  exact this.symm
/-- the words of the flags -/
def wordTab : List String := ["OPTIMIZED", "NEWLOCALS", "VARARGS", "VARKEYWORDS", "NESTED", "GENERATOR", "NOFREE", "COROUTINE", "ITERABLE_COROUTINE", "ASYNC_GENERATOR",
  "0x400", "0x800", "0x1000", "0x2000", "0x4000", "0x8000", "0x10000", "0x20000", "0x40000", "0x80000", "0x100000", "0x200000", "0x400000", "0x800000", "0x1000000", "0x2000000", "0x4000000", "0x8000000", "0x10000000", "0x20000000", "0x40000000", "0x80000000"]
def wordOf (i : Nat) : Str := Str.ofString (wordTab.getD i "")
end Mine
end
section
open PySem PySem.W PyProof.Rows PySem.Flt
namespace Mine
section
variable {prog : Program} {w : World} {A : Around} {E : Value → Shared → Prop} {s : Shared} {Q : Value → Shared → Prop}
theorem max_three_num {a b c : Value} (hh : A.handled = none) (ha : NumV a) (hb : NumV b) (hc : NumV c)
    (h : ∀ h' tk, (∀ d o, s.heap.get? d = some o → h'.get? d = some o) → Q (if ltV a b then (if ltV b c then c else b) else (if ltV a c then c else a)) { s with heap := h', toks := tk }) :
    wpAny (model prog w) A (call (.builtin "max") [a, b, c]) Q E s := by
  have hT : (s.heap.push { cls := .type "tuple", data := .seq #[a, b, c] }).IsTuple s.heap.objs.size #[a, b, c] := ⟨_, Heap.get?_push_size _ rfl, rfl, 0, rfl⟩
  refine call_max_three (wpAny_pyIter_tuple hT ?_)
  have hsz : (s.heap.push { cls := .type "tuple", data := .seq #[a, b, c] }).objs.size = s.heap.objs.size + 1 := Heap.size_push ..
  refine ⟨_, [_, s.heap.objs.size], [_], _, _, _, _, rfl, Walks.tuple (A := A.in1) hh _ s.heap.objs.size (by rw [hsz]; exact Nat.ne_of_lt (Nat.lt_succ_self _)) #[a, b, c],
    ⟨⟨_, Heap.get?_push_size _ rfl, rfl, rfl⟩, hT.push _⟩, fun d hd => ?_, by simp, cmpOf_gt #[a, b, c] (by simp [ha, hb, hc]), fun v h' tk hP hk => ?_⟩
  · show d < ((s.heap.push _).push _).objs.size
    rw [Heap.size_push, hsz]
    rcases List.mem_cons.mp hd with rfl | hd
    · rw [hsz]; exact Nat.lt_succ_self _
    · rcases List.mem_cons.mp hd with rfl | hd
      · exact Nat.lt_succ_of_lt (Nat.lt_succ_self _)
      · cases hd
  · have hold : ∀ d o, s.heap.get? d = some o → h'.get? d = some o := fun d o e => by
      refine hk d o (fun hm => ?_) (Heap.get?_push_of_some _ (Heap.get?_push_of_some _ e))
      rcases List.mem_cons.mp hm with e1 | hm
      · have := Heap.lt_size e; rw [e1, hsz] at this; exact Nat.lt_irrefl _ (Nat.lt_of_succ_lt this)
      · cases hm
    have := h h' tk hold
    have hv : v = if ltV a b then (if ltV b c then c else b) else (if ltV a c then c else a) := by
      cases h1 : ltV a b <;> cases h2 : ltV b c <;> cases h3 : ltV a c <;> simp [argBest, h1, h2, h3] at hP <;> simp [hP]
    rw [hv]; exact this
theorem min_three_num {a b c : Value} (hh : A.handled = none) (ha : NumV a) (hb : NumV b) (hc : NumV c)
    (h : ∀ h' tk, (∀ d o, s.heap.get? d = some o → h'.get? d = some o) → Q (if ltV b a then (if ltV c b then c else b) else (if ltV c a then c else a)) { s with heap := h', toks := tk }) :
    wpAny (model prog w) A (call (.builtin "min") [a, b, c]) Q E s := by
  have hT : (s.heap.push { cls := .type "tuple", data := .seq #[a, b, c] }).IsTuple s.heap.objs.size #[a, b, c] := ⟨_, Heap.get?_push_size _ rfl, rfl, 0, rfl⟩
  refine call_min_three (wpAny_pyIter_tuple hT ?_)
  have hsz : (s.heap.push { cls := .type "tuple", data := .seq #[a, b, c] }).objs.size = s.heap.objs.size + 1 := Heap.size_push ..
  refine ⟨_, [_, s.heap.objs.size], [_], _, _, _, _, rfl, Walks.tuple (A := A.in1) hh _ s.heap.objs.size (by rw [hsz]; exact Nat.ne_of_lt (Nat.lt_succ_self _)) #[a, b, c],
    ⟨⟨_, Heap.get?_push_size _ rfl, rfl, rfl⟩, hT.push _⟩, fun d hd => ?_, by simp, cmpOf_lt #[a, b, c] (by simp [ha, hb, hc]), fun v h' tk hP hk => ?_⟩
  · show d < ((s.heap.push _).push _).objs.size
    rw [Heap.size_push, hsz]
    rcases List.mem_cons.mp hd with rfl | hd
    · rw [hsz]; exact Nat.lt_succ_self _
    · rcases List.mem_cons.mp hd with rfl | hd
      · exact Nat.lt_succ_of_lt (Nat.lt_succ_self _)
      · cases hd
  · have hold : ∀ d o, s.heap.get? d = some o → h'.get? d = some o := fun d o e => by
      refine hk d o (fun hm => ?_) (Heap.get?_push_of_some _ (Heap.get?_push_of_some _ e))
      rcases List.mem_cons.mp hm with e1 | hm
      · have := Heap.lt_size e; rw [e1, hsz] at this; exact Nat.lt_irrefl _ (Nat.lt_of_succ_lt this)
      · cases hm
    have := h h' tk hold
    have hv : v = if ltV b a then (if ltV c b then c else b) else (if ltV c a then c else a) := by
      cases h1 : ltV b a <;> cases h2 : ltV c b <;> cases h3 : ltV c a <;> simp [argBest, h1, h2, h3] at hP <;> simp [hP]
    rw [hv]; exact this
variable {h₀ : Heap} {L : Addr} {m : Str → Option Value} {news : List (Addr × Obj)}
theorem max_three_fff {a b c : UInt64} {t u x : Tok} (hh : A.handled = none) (F : Fr h₀ L s.heap m) (N : News h₀ L s.heap news)
    (h : ∀ h' tk v, Fr h₀ L h' m → News h₀ L h' news → Q (.float (max3 a b c) v) { s with heap := h', toks := tk }) :
    wpAny (model prog w) A (call (.builtin "max") [.float a t, .float b u, .float c x]) Q E s := by
  refine max_three_num hh (.float a t) (.float b u) (.float c x) fun h' tk kp => ?_
  have e : ∃ v, (if ltV (.float a t) (.float b u) then (if ltV (.float b u) (.float c x) then Value.float c x else .float b u) else (if ltV (.float a t) (.float c x) then .float c x else .float a t)) = Value.float (max3 a b c) v := by
    simp only [ltV, max3, fLt]
    by_cases h1 : (Float64.cmp a b == some .lt) = true <;> by_cases h2 : (Float64.cmp b c == some .lt) = true <;> by_cases h3 : (Float64.cmp a c == some .lt) = true <;> simp only [h1, h2, h3, reduceIte, Bool.false_eq_true] <;> exact ⟨_, rfl⟩
  obtain ⟨v, e⟩ := e
  rw [e]
  exact h h' tk v (F.grownK kp) (N.grown kp)
theorem min_three_fff {a b c : UInt64} {t u x : Tok} (hh : A.handled = none) (F : Fr h₀ L s.heap m) (N : News h₀ L s.heap news)
    (h : ∀ h' tk v, Fr h₀ L h' m → News h₀ L h' news → Q (.float (min3 a b c) v) { s with heap := h', toks := tk }) :
    wpAny (model prog w) A (call (.builtin "min") [.float a t, .float b u, .float c x]) Q E s := by
  refine min_three_num hh (.float a t) (.float b u) (.float c x) fun h' tk kp => ?_
  have e : ∃ v, (if ltV (.float b u) (.float a t) then (if ltV (.float c x) (.float b u) then Value.float c x else .float b u) else (if ltV (.float c x) (.float a t) then .float c x else .float a t)) = Value.float (min3 a b c) v := by
    simp only [ltV, min3, fLt]
    by_cases h1 : (Float64.cmp b a == some .lt) = true <;> by_cases h2 : (Float64.cmp c b == some .lt) = true <;> by_cases h3 : (Float64.cmp c a == some .lt) = true <;> simp only [h1, h2, h3, reduceIte, Bool.false_eq_true] <;> exact ⟨_, rfl⟩
  obtain ⟨v, e⟩ := e
  rw [e]
  exact h h' tk v (F.grownK kp) (N.grown kp)
end
theorem news_tail {h₀ h : Heap} {L : Addr} {x : Addr × Obj} {news : List (Addr × Obj)} (N : News h₀ L h (x :: news)) : News h₀ L h news := fun p hp => N p (.tail _ hp)
theorem news_skip {h₀ h : Heap} {L : Addr} {x y : Addr × Obj} {news : List (Addr × Obj)} (N : News h₀ L h (x :: y :: news)) : News h₀ L h (x :: news) := fun p hp => by
  rcases List.mem_cons.mp hp with rfl | hp
  · exact N _ (.head _)
  · exact N p (.tail _ (.tail _ hp))
end Mine
end
section
open PySem PySem.W PyProof.Rows PySem.Flt
namespace Mine
section
variable {prog : Program} {w : World} {A : Around} {E : Value → Shared → Prop} {s : Shared} {Q : Value → Shared → Prop} {a b : UInt64} {t u : Tok}
theorem div_ok (hA : A.handled = none) (hz : Float64.isZero b = false) (h : Q (.float (Float64.div a b) s.toks) { s with toks := s.toks + 1 }) : wpAny (model prog w) A (binaryOp .Div (.float a t) (.float b u)) Q E s :=
  truediv_float_or hA (fun e => by rw [hz] at e; cases e) (fun _ => h)
theorem mod_ok (hA : A.handled = none) (hz : Float64.isZero b = false) (h : Q (.float (Float64.divmod a b).2 s.toks) { s with toks := s.toks + 1 }) : wpAny (model prog w) A (binaryOp .Mod (.float a t) (.float b u)) Q E s :=
  mod_ff hA (fun e => by rw [hz] at e; cases e) (fun _ => h)
end
section
variable {r g b : UInt64}
theorem hue_r (h : (Float64.cmp r (max3 r g b) == some .eq) = true) : hueOf r g b = (Float64.divmod (Float64.div (Float64.sub (Float64.div (Float64.sub (max3 r g b) b) (Float64.sub (max3 r g b) (min3 r g b))) (Float64.div (Float64.sub (max3 r g b) g) (Float64.sub (max3 r g b) (min3 r g b)))) f6) f1).2 := by
  simp only [hueOf, fEq, h, reduceIte]
theorem hue_g (h0 : (Float64.cmp r (max3 r g b) == some .eq) = false) (h : (Float64.cmp g (max3 r g b) == some .eq) = true) : hueOf r g b = (Float64.divmod (Float64.div (Float64.sub (Float64.add f2 (Float64.div (Float64.sub (max3 r g b) r) (Float64.sub (max3 r g b) (min3 r g b)))) (Float64.div (Float64.sub (max3 r g b) b) (Float64.sub (max3 r g b) (min3 r g b)))) f6) f1).2 := by
  simp only [hueOf, fEq, h0, h, reduceIte, Bool.false_eq_true]
theorem hue_b (h0 : (Float64.cmp r (max3 r g b) == some .eq) = false) (h : (Float64.cmp g (max3 r g b) == some .eq) = false) : hueOf r g b = (Float64.divmod (Float64.div (Float64.sub (Float64.add f4 (Float64.div (Float64.sub (max3 r g b) g) (Float64.sub (max3 r g b) (min3 r g b)))) (Float64.div (Float64.sub (max3 r g b) r) (Float64.sub (max3 r g b) (min3 r g b)))) f6) f1).2 := by
  simp only [hueOf, fEq, h0, h, reduceIte, Bool.false_eq_true]
end
/-- what rgb_to_hsv tells of three floats -/
structure HsvIs (r g b H S V : UInt64) : Prop where
  hue : hueOf r g b = H
  sat : satOf r g b = S
  val : max3 r g b = V
/-- what hsv_to_rgb tells -/
structure RgbIs (h s v R G B : UInt64) : Prop where
  out : rgbOf h s v = (R, G, B)
structure OkRgb (r g b : UInt64) : Prop where
  out : okRgb r g b = true
structure OkHsv (h s : UInt64) : Prop where
  out : okHsv h s = true
abbrev tup3 (a b c : UInt64) (ta tb tc : Tok) (n : Nat) : Obj := { cls := .type "tuple", data := .seq #[.float a ta, .float b tb, .float c tc] n }
set_option maxRecDepth 100000 in
set_option maxHeartbeats 4000000 in
theorem rgb_ctr {prog : Program} {w : World} {p : Program} {loose : List Str} {mean : ExcName → Option Value} {mg mb : Str → Option Value}
    {r g b : UInt64} {tr tg tb : Tok} {news : List (Addr × Obj)} (ok : OkRgb r g b) {H S V : UInt64} (his : HsvIs r g b H S V)
    {dp un : Nat} {gd : Option (List Code)} {cn : Str} {cs : Scope} {a : Addr} {ccd : Value} {cl : List (Str × Addr)} {outer : List Env} {A₀ : Around} {base h₀ : Heap} {L : Addr} {m : Str → Option Value} {s : Shared} {Q E : Value → Shared → Prop}
    (B : Below A₀ base outer h₀) (F : Fr h₀ L s.heap m) (X : (hd.heap_39 w.params).In h₀) (N : News h₀ L s.heap news) (T : Top p loose mean mg mb h₀) (hk : cs.kind = .function)
    (hdp : dp + 1 < recursionLimit) (hun : un + 8 < cLine)
    (hret : ∀ D t1 t2 t3 c h' tk', t1 ≠ 0 → Fr h₀ L h' m → News h₀ L h' ((D, tup3 H S V t1 t2 t3 c) :: news) → (∀ q ∈ news, q.1 < D) → Q (.ref D) { s with heap := h', toks := tk' }) :
    wpAny (model prog w) (ktrTop dp un gd cn cs L a ccd cl outer) (call (.ref 48) [.float r tr, .float g tg, .float b tb]) Q E s := by
  have hfill : PySem.Challenge.rw_rl0050_01 = PySem.Challenge.rw_rl0050_01 ∧ hd.heap_39 = hd.heap_39 := by
    k_fill
    exact ⟨rfl, rfl⟩
  clear hfill
  w_top off
  k_with_none
  k_with "call builtin:max" => ((with_reducible show wpAny _ _ (call _ [Value.float _ _, Value.float _ _, Value.float _ _]) _ _ _); (rename News _ _ _ _ => N'); (rename Fr _ _ _ _ => F'); refine max_three_fff rfl F' N' ?_; clear N'; intro _ _ _ _ _)
  k_with "call builtin:min" => ((with_reducible show wpAny _ _ (call _ [Value.float _ _, Value.float _ _, Value.float _ _]) _ _ _); (rename News _ _ _ _ => N'); (rename Fr _ _ _ _ => F'); refine min_three_fff rfl F' N' ?_; clear N'; intro _ _ _ _ _)
  k_with "binaryOp Div float float" => first | (refine div_ok rfl (by assumption) ?_) | (refine div_ok rfl (by decide +kernel) ?_)
  k_with "binaryOp Mod float float" => (refine mod_ok rfl (by decide +kernel) ?_)
  obtain ⟨⟨h1, h2⟩, h3⟩ : (fEq (min3 r g b) (max3 r g b) = false ∧ Float64.isZero (Float64.sub (max3 r g b) (min3 r g b)) = false) ∧ Float64.isZero (max3 r g b) = false := by
    simpa [okRgb] using ok.out
  obtain ⟨rfl, rfl, rfl⟩ := his
  clear ok
  refine wpAny_call ?_
  k_dflt ktr_enter
  k_steps
  all_goals first
    | (exfalso; rename (_ == some Ordering.eq) = true => e9; unfold fEq at h1; rw [h1] at e9; cases e9)
    | (refine' hret _ _ _ _ _ _ _ ?e0 ?e1 ?e2 ?e3; (case e1 => assumption); (case e3 => assumption); (case e2 => (rw [hue_r (by assumption)]; assumption)); (case e0 => exact Nat.succ_ne_zero _))
    | (refine' hret _ _ _ _ _ _ _ ?e0 ?e1 ?e2 ?e3; (case e1 => assumption); (case e3 => assumption); (case e2 => (rw [hue_g (by assumption) (by assumption)]; assumption)); (case e0 => exact Nat.succ_ne_zero _))
    | (refine' hret _ _ _ _ _ _ _ ?e0 ?e1 ?e2 ?e3; (case e1 => assumption); (case e3 => assumption); (case e2 => (rw [hue_b (by assumption) (by assumption)]; assumption)); (case e0 => exact Nat.succ_ne_zero _))
    | (refine' hret _ _ _ _ _ _ _ ?e0 ?e1 ?e2 ?e3; (case e1 => assumption); (case e3 => assumption); (case e2 => (rw [hue_b (by assumption) (by assumption)]; assumption)); (case e0 => exact Nat.succ_ne_zero _))
end Mine
end
section
open PySem PySem.W PyProof.Rows PySem.Flt
namespace Mine
section
variable {prog : Program} {w : World} {A : Around} {E : Value → Shared → Prop} {s : Shared} {Q : Value → Shared → Prop} {x : UInt64} {t u : Tok}
theorem int_ok (hA : A.handled = none) (hz : Float64.isFinite x = true) (h : Q (.int (intOf x) s.toks) { s with toks := s.toks + 1 }) : wpAny (model prog w) A (call (.type "int") [.float x t]) Q E s := by
  rcases three x with ⟨hd, c⟩ | ⟨_, hd, c⟩ | ⟨sg, m, e, hd, c⟩
  · unfold Float64.isFinite at hz; rw [hd] at hz; cases hz
  · unfold Float64.isFinite at hz; rw [hd] at hz; cases hz
  · have h' := h
    unfold intOf at h'
    rw [toInt_fin hd] at h'
    exact call_int_float hd h'
end
theorem lt1023 : (200 : Nat) ≤ 2 ^ 1023 := by decide +kernel
section
variable {h s v : UInt64}
theorem rgb_0 (e : Int.fmod (intOf (Float64.mul h 4618441417868443648)) 6 = 0) : rgbOf h s v = (v, tOf h s v, pOf s v) := by
  unfold rgbOf; simp only [f6, e, reduceIte]
theorem rgb_1 (e : Int.fmod (intOf (Float64.mul h 4618441417868443648)) 6 = 1) : rgbOf h s v = (qOf h s v, v, pOf s v) := by
  unfold rgbOf; simp only [f6, e]; rfl
theorem rgb_2 (e : Int.fmod (intOf (Float64.mul h 4618441417868443648)) 6 = 2) : rgbOf h s v = (pOf s v, v, tOf h s v) := by
  unfold rgbOf; simp only [f6, e]; rfl
theorem rgb_3 (e : Int.fmod (intOf (Float64.mul h 4618441417868443648)) 6 = 3) : rgbOf h s v = (pOf s v, qOf h s v, v) := by
  unfold rgbOf; simp only [f6, e]; rfl
theorem rgb_4 (e : Int.fmod (intOf (Float64.mul h 4618441417868443648)) 6 = 4) : rgbOf h s v = (tOf h s v, pOf s v, v) := by
  unfold rgbOf; simp only [f6, e]; rfl
theorem rgb_5 (e : Int.fmod (intOf (Float64.mul h 4618441417868443648)) 6 = 5) : rgbOf h s v = (v, pOf s v, qOf h s v) := by
  unfold rgbOf; simp only [f6, e]; rfl
end
set_option maxRecDepth 100000 in
set_option maxHeartbeats 4000000 in
theorem hsv_ctr {prog : Program} {w : World} {p : Program} {loose : List Str} {mean : ExcName → Option Value} {mg mb : Str → Option Value}
    {h s' v : UInt64} {th ts tv : Tok} {news : List (Addr × Obj)} (ok : OkHsv h s') {R G B' : UInt64} (ris : RgbIs h s' v R G B')
    {dp un : Nat} {gd : Option (List Code)} {cn : Str} {cs : Scope} {a : Addr} {ccd : Value} {cl : List (Str × Addr)} {outer : List Env} {A₀ : Around} {base h₀ : Heap} {L : Addr} {m : Str → Option Value} {s : Shared} {Q E : Value → Shared → Prop}
    (B : Below A₀ base outer h₀) (F : Fr h₀ L s.heap m) (X : (hd.heap_39 w.params).In h₀) (N : News h₀ L s.heap news) (T : Top p loose mean mg mb h₀) (hk : cs.kind = .function)
    (hdp : dp + 1 < recursionLimit) (hun : un + 8 < cLine)
    (hret : ∀ D t1 t2 t3 c h' tk', Fr h₀ L h' m → News h₀ L h' ((D, tup3 R G B' t1 t2 t3 c) :: news) → (∀ q ∈ news, q.1 < D) → Q (.ref D) { s with heap := h', toks := tk' }) :
    wpAny (model prog w) (ktrTop dp un gd cn cs L a ccd cl outer) (call (.ref 55) [.float h th, .float s' ts, .float v tv]) Q E s := by
  have hfill : PySem.Challenge.rw_rl0050_01 = PySem.Challenge.rw_rl0050_01 ∧ hd.heap_39 = hd.heap_39 := by
    k_fill
    exact ⟨rfl, rfl⟩
  clear hfill
  w_top off
  k_with_none
  k_with "call type:int" => ((with_reducible show wpAny _ _ (call _ [Value.float _ _]) _ _ _); (refine int_ok rfl (by assumption) ?_); (try dsimp only))
  k_with "binaryOp Sub float int" => ((refine sub_fi_fits (by (have hq := @lt1023); omega) ?_); (try dsimp only))
  obtain ⟨⟨⟨h1, h2⟩, h3⟩, h4⟩ : ((Float64.isFinite (Float64.mul h 4618441417868443648) = true ∧ fEq s' f0 = false) ∧ 0 ≤ intOf (Float64.mul h 4618441417868443648)) ∧ intOf (Float64.mul h 4618441417868443648) < 100 := by
    have ok' := ok.out
    unfold okHsv at ok'
    rw [Bool.and_eq_true, Bool.and_eq_true, Bool.and_eq_true] at ok'
    obtain ⟨⟨⟨a1, a2⟩, a3⟩, a4⟩ := ok'
    exact ⟨⟨⟨a1, by simpa using a2⟩, of_decide_eq_true a3⟩, of_decide_eq_true a4⟩
  obtain rfl : (rgbOf h s' v).1 = R := congrArg (·.1) ris.out
  obtain rfl : (rgbOf h s' v).2.1 = G := congrArg (·.2.1) ris.out
  obtain rfl : (rgbOf h s' v).2.2 = B' := congrArg (·.2.2) ris.out
  clear ok ris
  refine wpAny_call ?_
  k_dflt ktr_enter
  k_steps
  all_goals first
    | (exfalso; rename (_ == some Ordering.eq) = true => e9; unfold fEq f0 at h2; rw [h2] at e9; cases e9)
    | (refine' hret _ _ _ _ _ _ _ ?e1 ?e2 ?e3; (case e1 => assumption); (case e3 => assumption); (case e2 => ((try simp only [decide_eq_true_eq, decide_eq_false_iff_not] at *); rw [rgb_0 (by assumption)]; assumption)))
    | (refine' hret _ _ _ _ _ _ _ ?e1 ?e2 ?e3; (case e1 => assumption); (case e3 => assumption); (case e2 => ((try simp only [decide_eq_true_eq, decide_eq_false_iff_not] at *); rw [rgb_1 (by assumption)]; assumption)))
    | (refine' hret _ _ _ _ _ _ _ ?e1 ?e2 ?e3; (case e1 => assumption); (case e3 => assumption); (case e2 => ((try simp only [decide_eq_true_eq, decide_eq_false_iff_not] at *); rw [rgb_2 (by assumption)]; assumption)))
    | (refine' hret _ _ _ _ _ _ _ ?e1 ?e2 ?e3; (case e1 => assumption); (case e3 => assumption); (case e2 => ((try simp only [decide_eq_true_eq, decide_eq_false_iff_not] at *); rw [rgb_3 (by assumption)]; assumption)))
    | (refine' hret _ _ _ _ _ _ _ ?e1 ?e2 ?e3; (case e1 => assumption); (case e3 => assumption); (case e2 => ((try simp only [decide_eq_true_eq, decide_eq_false_iff_not] at *); rw [rgb_4 (by assumption)]; assumption)))
    | (refine' hret _ _ _ _ _ _ _ ?e1 ?e2 ?e3; (case e1 => assumption); (case e3 => assumption); (case e2 => ((try simp only [decide_eq_true_eq, decide_eq_false_iff_not] at *); rw [rgb_5 (by assumption)]; assumption)))
    | (exfalso; have q1 := Int.fmod_lt_of_pos (intOf (Float64.mul h 4618441417868443648)) (by decide : (0 : Int) < 6); have q2 := Int.fmod_nonneg_of_pos (intOf (Float64.mul h 4618441417868443648)) (by decide : (0 : Int) < 6); omega)
end Mine
end
section
open PySem PySem.W PyProof.Rows PySem.Flt
namespace Mine
set_option maxRecDepth 100000 in
set_option maxHeartbeats 4000000 in
theorem hue_ctr {prog : Program} {w : World} {p : Program} {loose : List Str} {mean : ExcName → Option Value} {mg mb : Str → Option Value}
    {r g b : UInt64} {tr tg tb : Tok} {c : Addr} {n : Nat} {news : List (Addr × Obj)} (hc : (c, tup3 r g b tr tg tb n) ∈ news) (ok : OkRgb r g b)
    {dp un : Nat} {gd : Option (List Code)} {cn : Str} {cs : Scope} {a : Addr} {ccd : Value} {cl : List (Str × Addr)} {outer : List Env} {A₀ : Around} {base h₀ : Heap} {L : Addr} {m : Str → Option Value} {s : Shared} {Q E : Value → Shared → Prop}
    (B : Below A₀ base outer h₀) (F : Fr h₀ L s.heap m) (X : (hd.heap_39 w.params).In h₀) (N : News h₀ L s.heap news) (T : Top p loose mean mg mb h₀) (hk : cs.kind = .function)
    (hdp : dp + 2 < recursionLimit) (hun : un + 16 < cLine)
    {H S V : UInt64} (his : HsvIs r g b H S V) (hret : ∀ t h' tk', t ≠ 0 → Fr h₀ L h' m → News h₀ L h' news → Q (.float H t) { s with heap := h', toks := tk' }) :
    wpAny (model prog w) (ktrTop dp un gd cn cs L a ccd cl outer) (call (.ref 75) [.ref c]) Q E s := by
  have hfill : PySem.Challenge.rw_rl0050_01 = PySem.Challenge.rw_rl0050_01 ∧ hd.heap_39 = hd.heap_39 := by
    k_fill
    exact ⟨rfl, rfl⟩
  clear hfill
  w_top off
  k_with_none
  k_with "call ref" => (k_here; (with_reducible show wpAny _ _ (call (Value.ref 48) [Value.float _ _, Value.float _ _, Value.float _ _] _) _ _ _); k_dflt (refine' rgb_ctr ?ok ?his ?B ?F ?X ?N ?T ?hk ?hdp ?hun ?_; (case ok => assumption); (case his => assumption); (case B => k_asm); (case F => k_asm); (case X => k_asm); (case N => k_asm); (case T => k_asm); (case hk => first | exact rfl | assumption); (case hdp => ktr_room); (case hun => ktr_units)); intro D' t1' t2' t3' c' h' tk' tn1' F' N' l1; (try dsimp only); (try k_fold); (try k_lt l1); (try k_sweep))
  k_with "call ref" => (k_here; (with_reducible show wpAny _ _ (call (Value.ref 55) [Value.float _ _, Value.float _ _, Value.float _ _] _) _ _ _); k_dflt (refine' hsv_ctr ?ok ?his ?B ?F ?X ?N ?T ?hk ?hdp ?hun ?_; (case ok => assumption); (case his => assumption); (case B => k_asm); (case F => k_asm); (case X => k_asm); (case N => k_asm); (case T => k_asm); (case hk => first | exact rfl | assumption); (case hdp => ktr_room); (case hun => ktr_units)); intro D' t1' t2' t3' c' h' tk' F' N' l1; (try dsimp only); (try k_fold); (try k_lt l1); (try k_sweep))
  refine wpAny_call ?_
  k_dflt ktr_enter
  k_steps
  all_goals (
    refine' hret _ _ _ ?e0 ?e1 ?e2; (case e0 => assumption); (case e1 => assumption); (case e2 => exact news_tail (by assumption)))
set_option maxRecDepth 100000 in
set_option maxHeartbeats 4000000 in
theorem turned_ctr {prog : Program} {w : World} {p : Program} {loose : List Str} {mean : ExcName → Option Value} {mg mb : Str → Option Value}
    {r g b way : UInt64} {tr tg tb tw : Tok} {c : Addr} {n : Nat} {news : List (Addr × Obj)} (hc : (c, tup3 r g b tr tg tb n) ∈ news) (ok : OkRgb r g b) {H S V R' G' B' : UInt64} (his : HsvIs r g b H S V) (ok2 : OkHsv (Float64.add H way) S) (ris : RgbIs (Float64.add H way) S V R' G' B')
    {dp un : Nat} {gd : Option (List Code)} {cn : Str} {cs : Scope} {a : Addr} {ccd : Value} {cl : List (Str × Addr)} {outer : List Env} {A₀ : Around} {base h₀ : Heap} {L : Addr} {m : Str → Option Value} {s : Shared} {Q E : Value → Shared → Prop}
    (B : Below A₀ base outer h₀) (F : Fr h₀ L s.heap m) (X : (hd.heap_39 w.params).In h₀) (N : News h₀ L s.heap news) (T : Top p loose mean mg mb h₀) (hk : cs.kind = .function)
    (hdp : dp + 2 < recursionLimit) (hun : un + 16 < cLine)
    (hret : ∀ D t1 t2 t3 c h' tk', Fr h₀ L h' m → News h₀ L h' ((D, tup3 R' G' B' t1 t2 t3 c) :: news) → (∀ q ∈ news, q.1 < D) → Q (.ref D) { s with heap := h', toks := tk' }) :
    wpAny (model prog w) (ktrTop dp un gd cn cs L a ccd cl outer) (call (.ref 82) [.ref c, .float way tw]) Q E s := by
  have hfill : PySem.Challenge.rw_rl0050_01 = PySem.Challenge.rw_rl0050_01 ∧ hd.heap_39 = hd.heap_39 := by
    k_fill
    exact ⟨rfl, rfl⟩
  clear hfill
  w_top off
  k_with_none
  k_with "call ref" => (k_here; (with_reducible show wpAny _ _ (call (Value.ref 48) [Value.float _ _, Value.float _ _, Value.float _ _] _) _ _ _); k_dflt (refine' rgb_ctr ?ok ?his ?B ?F ?X ?N ?T ?hk ?hdp ?hun ?_; (case ok => assumption); (case his => assumption); (case B => k_asm); (case F => k_asm); (case X => k_asm); (case N => k_asm); (case T => k_asm); (case hk => first | exact rfl | assumption); (case hdp => ktr_room); (case hun => ktr_units)); intro D' t1' t2' t3' c' h' tk' tn1' F' N' l1; (try dsimp only); (try k_fold); (try k_lt l1); (try k_sweep))
  k_with "call ref" => (k_here; (with_reducible show wpAny _ _ (call (Value.ref 55) [Value.float _ _, Value.float _ _, Value.float _ _] _) _ _ _); k_dflt (refine' hsv_ctr ?ok ?his ?B ?F ?X ?N ?T ?hk ?hdp ?hun ?_; (case ok => assumption); (case his => assumption); (case B => k_asm); (case F => k_asm); (case X => k_asm); (case N => k_asm); (case T => k_asm); (case hk => first | exact rfl | assumption); (case hdp => ktr_room); (case hun => ktr_units)); intro D' t1' t2' t3' c' h' tk' F' N' l1; (try dsimp only); (try k_fold); (try k_lt l1); (try k_sweep))
  refine wpAny_call ?_
  k_dflt ktr_enter
  k_steps
  all_goals first
   | (refine' hret _ _ _ _ _ _ _ ?e1 ?e2 ?e3; (case e1 => assumption); (case e2 => exact news_skip (by assumption)); (case e3 => (rename _ ∧ AllLt _ _ => l9; exact ktn_ltOf l9.2)))
end Mine
end
section
open PySem PySem.W PyProof.Rows PySem.Flt
namespace Mine
/-- a hue at P 32nds of the wheel -/
structure IsMk (P : Nat) (H : UInt64) : Prop where
  lt : P < 32
  eq : mkH P = H
/-- a colour of that hue -/
structure IsCol (P : Nat) (r g b : UInt64) : Prop where
  lt : P < 32
  ex : ∃ sh lv, 1 ≤ sh ∧ sh ≤ 4 ∧ 1 ≤ lv ∧ lv ≤ 4 ∧ colr P sh lv = (r, g, b)
def ColAt (news : List (Addr × Obj)) (a : Addr) (P : Nat) : Prop :=
  ∃ r g b tr tg tb n, (a, tup3 r g b tr tg tb n) ∈ news ∧ IsCol P r g b
theorem IsCol.facts {P : Nat} {r g b : UInt64} (h : IsCol P r g b) : ∃ S V, OkRgb r g b ∧ HsvIs r g b (mkH P) S V := by
  obtain ⟨hP, sh, lv, h1, h2, h3, h4, e⟩ := h
  obtain ⟨a, b, c, d⟩ := col_facts hP h1 h2 h3 h4 e
  exact ⟨_, _, ⟨a⟩, ⟨b, c, d⟩⟩
theorem IsMk.ltB {P Q : Nat} {H J : UInt64} (h : IsMk P H) (j : IsMk Q J) : (Float64.cmp H J == some .lt) = decide (P < Q) := by
  rw [← h.eq, ← j.eq]; exact mk_lt h.lt j.lt
theorem hue_col {prog : Program} {w : World} {p : Program} {loose : List Str} {mean : ExcName → Option Value} {mg mb : Str → Option Value}
    {c : Addr} {P : Nat} {news : List (Addr × Obj)} (hc : ColAt news c P)
    {dp un : Nat} {gd : Option (List Code)} {cn : Str} {cs : Scope} {a : Addr} {ccd : Value} {cl : List (Str × Addr)} {outer : List Env} {A₀ : Around} {base h₀ : Heap} {L : Addr} {m : Str → Option Value} {s : Shared} {Q E : Value → Shared → Prop}
    (B : Below A₀ base outer h₀) (F : Fr h₀ L s.heap m) (X : (hd.heap_39 w.params).In h₀) (N : News h₀ L s.heap news) (T : Top p loose mean mg mb h₀) (hk : cs.kind = .function)
    (hdp : dp + 2 < recursionLimit) (hun : un + 16 < cLine)
    (hret : ∀ H t h' tk', IsMk P H → t ≠ 0 → Fr h₀ L h' m → News h₀ L h' news → Q (.float H t) { s with heap := h', toks := tk' }) :
    wpAny (model prog w) (ktrTop dp un gd cn cs L a ccd cl outer) (call (.ref 75) [.ref c]) Q E s := by
  obtain ⟨r, g, b, tr, tg, tb, n, hm, hcol⟩ := hc
  obtain ⟨S, V, ok, his⟩ := hcol.facts
  exact hue_ctr hm ok B F X N T hk hdp hun his fun t h' tk' tn F' N' => hret _ t h' tk' ⟨hcol.lt, rfl⟩ tn F' N'
section
variable {prog : Program} {w : World} {A : Around} {E : Value → Shared → Prop} {s : Shared} {Q : Value → Shared → Prop} {h₀ : Heap} {L : Addr} {news : List (Addr × Obj)}
/-- an item of a list of the ledger -/
theorem item_led {α : Type} {f : α → Value} {cs : List α} {row : Addr} {n : Nat} {value slice : PySem.Expr} {i : Int} {u : Tok} (N : News h₀ L s.heap news) (hm : (row, listOf (cs.map f).toArray n) ∈ news)
    (h0 : 0 ≤ i) (h1 : i < (cs.length : Int)) (hfit : cs.length < 2 ^ 62) (h : ∀ c, cs[i.toNat]? = some c → Q (f c) s)
    (hs : subscripted slice false (.ref row) (.int i u) = operate [.ref row, .int i u] (getItem (.ref row) (.int i u)) := by with_unfolding_all rfl) :
    wpAny (model prog w) A (subscriptTail value slice (.ref row) (.int i u)) Q E s := by
  have hl : s.heap.IsList row (cs.map f).toArray := ⟨_, (N _ hm).1, rfl, n, rfl⟩
  have hlt : i.toNat < cs.length := by omega
  have hc : cs[i.toNat]? = some cs[i.toNat] := by simp [hlt]
  exact tail_any hl.typeIs slot_list_getitem.lookup (wpAny_getItem_list hl h0 (by omega) (by simp [hlt]) (h _ hc)) hs
end
structure BisR (cols : List (Addr × Nat)) (x : Nat) (lo hi : Int) : Prop where
  lo0 : 0 ≤ lo
  le : lo ≤ hi
  top : hi ≤ (cols.length : Int)
  left : ∀ (i : Nat) q, (i : Int) < lo → cols[i]? = some q → q.2 ≤ x
  right : ∀ (i : Nat) q, hi ≤ (i : Int) → cols[i]? = some q → x < q.2
def SortedC (cols : List (Addr × Nat)) : Prop := ∀ (i j : Nat) q r, i ≤ j → cols[i]? = some q → cols[j]? = some r → q.2 ≤ r.2
theorem BisR.start {cols : List (Addr × Nat)} {x : Nat} : BisR cols x 0 (cols.length : Int) :=
  ⟨Int.le_refl _, by omega, Int.le_refl _, fun i q h => by omega, fun i q h e => by
    have : i < cols.length := (List.getElem?_eq_some_iff.mp e).1
    omega⟩
theorem BisR.down {cols : List (Addr × Nat)} {x : Nat} {lo hi mid : Int} {q : Addr × Nat} (h : BisR cols x lo hi) (hs : SortedC cols) (h1 : lo ≤ mid) (h2 : mid < hi) (e : cols[mid.toNat]? = some q) (hlt : x < q.2) : BisR cols x lo mid :=
  ⟨h.lo0, h1, by have := h.top; omega, h.left, fun i r hi' er => Nat.lt_of_lt_of_le hlt (hs _ _ _ _ (by have := h.lo0; omega) e er)⟩
theorem BisR.up {cols : List (Addr × Nat)} {x : Nat} {lo hi mid : Int} {q : Addr × Nat} (h : BisR cols x lo hi) (hs : SortedC cols) (h1 : lo ≤ mid) (h2 : mid < hi) (e : cols[mid.toNat]? = some q) (hlt : ¬ x < q.2) : BisR cols x (mid + 1) hi :=
  ⟨by have := h.lo0; omega, by omega, h.top, fun i r hi' er => Nat.le_trans (hs _ _ _ _ (by have := h.lo0; omega) er e) (Nat.le_of_not_lt hlt), h.right⟩
theorem mid_bounds {lo hi : Int} (h : lo < hi) : lo ≤ (lo + hi).fdiv 2 ∧ (lo + hi).fdiv 2 < hi := by
  rw [Int.fdiv_eq_ediv_of_nonneg _ (by decide)]
  omega
theorem BisR.stepD {cols : List (Addr × Nat)} {x : Nat} {lo hi : Int} {q : Addr × Nat} {X H : UInt64} (h : BisR cols x lo hi) (hs : SortedC cols) (hlt : lo < hi) (e : cols[((lo + hi).fdiv 2).toNat]? = some q) (hx : IsMk x X) (hH : IsMk q.2 H) (hc : (Float64.cmp X H == some .lt) = true) : BisR cols x lo ((lo + hi).fdiv 2) := by
  rw [IsMk.ltB hx hH] at hc
  exact h.down hs (mid_bounds hlt).1 (mid_bounds hlt).2 e (of_decide_eq_true hc)
theorem BisR.stepU {cols : List (Addr × Nat)} {x : Nat} {lo hi : Int} {q : Addr × Nat} {X H : UInt64} (h : BisR cols x lo hi) (hs : SortedC cols) (hlt : lo < hi) (e : cols[((lo + hi).fdiv 2).toNat]? = some q) (hx : IsMk x X) (hH : IsMk q.2 H) (hc : (Float64.cmp X H == some .lt) = false) : BisR cols x ((lo + hi).fdiv 2 + 1) hi := by
  rw [IsMk.ltB hx hH] at hc
  exact h.up hs (mid_bounds hlt).1 (mid_bounds hlt).2 e (of_decide_eq_false hc)
set_option maxRecDepth 100000 in
set_option maxHeartbeats 4000000 in
theorem bisectR_ctr {prog : Program} {w : World} {p : Program} {loose : List Str} {mean : ExcName → Option Value} {mg mb : Str → Option Value}
    {row : Addr} {n : Nat} {cols : List (Addr × Nat)} {news : List (Addr × Obj)} {x : Nat} {X' : UInt64} {tX t0 : Tok}
    (hrow : (row, listOf (cols.map fun c => Value.ref c.1).toArray n) ∈ news) (hcols : ∀ c ∈ cols, ColAt news c.1 c.2) (hsort : SortedC cols) (hfit : cols.length < 2 ^ 62) (hx : IsMk x X')
    {dp un : Nat} {gd : Option (List Code)} {cn : Str} {cs : Scope} {a : Addr} {ccd : Value} {cl : List (Str × Addr)} {outer : List Env} {A₀ : Around} {base h₀ : Heap} {L : Addr} {m : Str → Option Value} {s : Shared} {Q E : Value → Shared → Prop}
    (B : Below A₀ base outer h₀) (F : Fr h₀ L s.heap m) (X : (hd.heap_39 w.params).In h₀) (N : News h₀ L s.heap news) (T : Top p loose mean mg mb h₀) (hk : cs.kind = .function)
    (hdp : dp + 3 < recursionLimit) (hun : un + 24 < cLine)
    (hret : ∀ j t h' tk', BisR cols x j j → Fr h₀ L h' m → News h₀ L h' news → Q (.int j t) { s with heap := h', toks := tk' }) :
    wpAny (model prog w) (ktrTop dp un gd cn cs L a ccd cl outer) (call (.ref 32) [.ref row, .float X' tX, .int 0 t0, .none] [(Str.ofString "key", .ref 75)]) Q E s := by
  have hfill : PySem.Challenge.rw_rl0050_01 = PySem.Challenge.rw_rl0050_01 ∧ hd.heap_39 = hd.heap_39 := by
    k_fill
    exact ⟨rfl, rfl⟩
  clear hfill
  w_top off
  k_with_none
  k_with "call ref" => (k_here; (with_reducible show wpAny _ _ (call (Value.ref 75) [Value.ref _] _) _ _ _); k_dflt (refine' hue_col ?ok ?B ?F ?X ?N ?T ?hk ?hdp ?hun ?_; (case B => k_asm); (case F => k_asm); (case X => k_asm); (case N => k_asm); (case T => k_asm); (case hk => first | exact rfl | assumption); (case hdp => ktr_room); (case hun => ktr_units); (case ok => exact hcols _ (List.mem_of_getElem? (by assumption)))); intro H' t1' h' tk' iM' tn' F' N'; (try dsimp only); (try k_fold); (try k_sweep))
  k_with "call builtin:len" => (k_here; (with_reducible show wpAny _ _ (call (Value.builtin "len") [Value.ref _] _) _ _ _); k_dflt (refine' kst_len ?k1 hrow ?k3 ?k4 ?_; (case k1 => k_asm); (case k3 => exact List.length_map ..); (case k4 => omega)); k_whole)
  k_with "subscriptTail" => (k_here; (with_reducible show wpAny _ _ (subscriptTail _ _ (Value.ref row) (Value.int _ _)) _ _ _); k_dflt (refine' item_led ?k1 hrow ?k3 ?k4 hfit ?_; (case k1 => k_asm); (case k3 => (have hm9 := mid_bounds (show lo' < hi' by assumption); omega)); (case k4 => (have hm9 := mid_bounds (show lo' < hi' by assumption); omega))); intro c' hc'; (try dsimp only))
  k_with "exec While Compare cons nil" => (k_here; (rename Fr _ _ _ _ => lF'); (rename News _ _ _ _ => lN'); (with_unfolding_all refine' ksw_while (σ := Int × Tok × Int × Tok) (fun _ => news) (fun c => [(Str.ofString "lo", Value.int c.1 c.2.1), (Str.ofString "hi", Value.int c.2.2.1 c.2.2.2)]) (fun _ => True) [Str.ofString "mid"] (fun c => BisR cols x c.1 c.2.2.1) (fun c => (c.2.2.1 - c.1).toNat) (0, _, (cols.length : Int), _) lF' lN' trivial ?kk BisR.start ?_); (case kk => kst_all); clear lF' lN'; rintro ⟨lo', tlo', hi', thi'⟩ u' h' tk' _ hB' F' N'; (have hb0 := BisR.lo0 hB'); (have hb1 := BisR.le hB'); (have hb2 := BisR.top hB'); (try dsimp only at *); (try k_fold))
  k_with "KswEnd" => (first
    | (refine' ksw_end (_, _, _, _) ?e1 ?e2 (fun p hp => hp) trivial ?e3 ?e4 ?e5 ?e6; (case e1 => assumption); (case e2 => assumption); (case e3 => kst_all); (case e4 => (intro z h2 h3; (simp only [List.forall_mem_cons, List.not_mem_nil, false_implies, implies_true, and_true, ne_eq] at h2); (simp only [List.contains_cons, List.contains_nil, Bool.or_false, Bool.or_eq_false_iff, beq_eq_false_iff_ne, ne_eq] at h3); simp [h2, h3, kstB])); (case e5 => exact BisR.stepD hB' hsort (by assumption) (by assumption) hx (by assumption) (by assumption)); (case e6 => (have hm9 := mid_bounds (show lo' < hi' by assumption); (try dsimp only); omega)))
    | (refine' ksw_end (_, _, _, _) ?e1 ?e2 (fun p hp => hp) trivial ?e3 ?e4 ?e5 ?e6; (case e1 => assumption); (case e2 => assumption); (case e3 => kst_all); (case e4 => (intro z h2 h3; (simp only [List.forall_mem_cons, List.not_mem_nil, false_implies, implies_true, and_true, ne_eq] at h2); (simp only [List.contains_cons, List.contains_nil, Bool.or_false, Bool.or_eq_false_iff, beq_eq_false_iff_ne, ne_eq] at h3); simp [h2, h3, kstB])); (case e5 => exact BisR.stepU hB' hsort (by assumption) (by assumption) hx (by assumption) (by assumption)); (case e6 => (have hm9 := mid_bounds (show lo' < hi' by assumption); (try dsimp only); omega))))
  refine wpAny_call ?_
  k_dflt (first | (refine' code_def ?k1 ?k2 ?k3 ?k4 ?k5 ?kA ?kF ?kK ?k6 ?k7 ?k8 ?k9 ?kB ?_ ?c2 ?c3 ?c4 ?c5; (case kA => exact rfl); (case kF => exact rfl); (case kK => assumption); (case k1 => k_asm); (case k2 => k_asm); (case k3 => k_asm); (case k4 => k_asm); (case k5 => k_asm); (case k6 => k_is); (case k7 => k_is); (case k8 => ktr_room); (case k9 => (refine' kp_binds ?kx ?ke; (case kx => k_in); (case ke => exact fun _ => rfl))); (case c5 => decide); (case kB => exact locs rfl); (case c2 => exact rfl); (case c3 => exact rfl); (case c4 => exact rfl); k_whole; intro g' L' h' FG' F' N' B' X' T'; (try dsimp only); (try k_fold)) | ktr_enter)
  k_steps
  all_goals first
    | (refine' hret _ _ _ _ ?e1 ?e2 ?e3; (case e2 => assumption); (case e3 => assumption); (case e1 => (obtain rfl : lo' = hi' := by omega); exact hB'))
end Mine
end
section
open PySem PySem.W PyProof.Rows PySem.Flt
namespace Mine
theorem ColAt.mono {news news' : List (Addr × Obj)} {a : Addr} {P : Nat} (h : ColAt news a P) (hs : ∀ p ∈ news, p ∈ news') : ColAt news' a P := by
  obtain ⟨r, g, b, tr, tg, tb, n, hm, hc⟩ := h
  exact ⟨r, g, b, tr, tg, tb, n, hs _ hm, hc⟩
theorem ins_map {α : Type} (f : α → Value) (l : List α) (j : Int) (c : α) (h0 : 0 ≤ j) (h1 : j ≤ (l.length : Int)) : kl_ins (l.map f).toArray.toList j (f c) = (l.take j.toNat ++ c :: l.drop j.toNat).map f := by
  unfold kl_ins
  have h2 : ¬ j < 0 := by omega
  rw [if_neg h2]
  simp only [List.length_map]
  rw [Nat.min_eq_left (by omega)]
  simp [List.map_take, List.map_drop]
theorem fits_idx {j : Int} (h0 : 0 ≤ j) (h1 : j < 2 ^ 62) : Builtin.List.listFitsIndex j = true := by
  unfold Builtin.List.listFitsIndex
  simp
  omega
set_option maxRecDepth 100000 in
set_option maxHeartbeats 4000000 in
theorem insort_ctr {prog : Program} {w : World} {p : Program} {loose : List Str} {mean : ExcName → Option Value} {mg mb : Str → Option Value}
    {row c : Addr} {n P : Nat} {cols : List (Addr × Nat)} {rest : List (Addr × Obj)}
    (hoff : ∀ p ∈ rest, p.1 ≠ row) (hcols : ∀ c ∈ cols, ColAt rest c.1 c.2) (hsort : SortedC cols) (hfit : cols.length < 1000) (hc : ColAt rest c P)
    {dp un : Nat} {gd : Option (List Code)} {cn : Str} {cs : Scope} {a : Addr} {ccd : Value} {cl : List (Str × Addr)} {outer : List Env} {A₀ : Around} {base h₀ : Heap} {L : Addr} {m : Str → Option Value} {s : Shared} {Q E : Value → Shared → Prop}
    (B : Below A₀ base outer h₀) (F : Fr h₀ L s.heap m) (X : (hd.heap_39 w.params).In h₀) (N : News h₀ L s.heap ((row, listOf (cols.map fun c => Value.ref c.1).toArray n) :: rest)) (T : Top p loose mean mg mb h₀) (hk : cs.kind = .function)
    (hdp : dp + 4 < recursionLimit) (hun : un + 32 < cLine)
    (hret : ∀ j h' tk', BisR cols P j j → Fr h₀ L h' m → News h₀ L h' ((row, listOf ((cols.take j.toNat ++ (c, P) :: cols.drop j.toNat).map fun c => Value.ref c.1).toArray (n + 1)) :: rest) → Q .none { s with heap := h', toks := tk' }) :
    wpAny (model prog w) (ktrTop dp un gd cn cs L a ccd cl outer) (call (.ref 23) [.ref row, .ref c] [(Str.ofString "key", .ref 75)]) Q E s := by
  have hfill : PySem.Challenge.rw_rl0050_01 = PySem.Challenge.rw_rl0050_01 ∧ hd.heap_39 = hd.heap_39 := by
    k_fill
    exact ⟨rfl, rfl⟩
  clear hfill
  w_top off
  have hc' : ColAt ((row, listOf (cols.map fun c => Value.ref c.1).toArray n) :: rest) c P := hc.mono fun p hp => .tail _ hp
  have hcols' : ∀ c ∈ cols, ColAt ((row, listOf (cols.map fun c => Value.ref c.1).toArray n) :: rest) c.1 c.2 := fun c hm => (hcols c hm).mono fun p hp => .tail _ hp
  k_with_none
  k_with "call ref" => (k_here; (with_reducible show wpAny _ _ (call (Value.ref 75) [Value.ref _] _) _ _ _); k_dflt (refine' hue_col hc' ?B ?F ?X ?N ?T ?hk ?hdp ?hun ?_; (case B => k_asm); (case F => k_asm); (case X => k_asm); (case N => k_asm); (case T => k_asm); (case hk => first | exact rfl | assumption); (case hdp => ktr_room); (case hun => ktr_units)); intro H' t1' h' tk' iM' tn' F' N'; (try dsimp only); (try k_fold); (try k_sweep))
  k_with "call ref" => (k_here; (with_reducible show wpAny _ _ (call (Value.ref 32) _ _) _ _ _); k_dflt (refine' bisectR_ctr (List.Mem.head _) hcols' hsort ?hfit iM' ?B ?F ?X ?N ?T ?hk ?hdp ?hun ?_; (case hfit => omega); (case B => k_asm); (case F => k_asm); (case X => k_asm); (case N => k_asm); (case T => k_asm); (case hk => first | exact rfl | assumption); (case hdp => ktr_room); (case hun => ktr_units)); intro j' t1' h' tk' hB' F' N'; (try dsimp only); (try k_fold); (try k_sweep))
  k_with "call builtin:list.insert" => (k_here; (have hb0 := BisR.lo0 hB'); (have hb2 := BisR.top hB'); k_dflt (refine' kl_insert ?F ?N ?f (ins_map (fun c : Addr × Nat => Value.ref c.1) cols j' (c, P) hb0 hb2) (Upd.head hoff) ?z ?_; (case F => k_asm); (case N => k_asm); (case f => exact fits_idx hb0 (by omega)); (case z => (rw [sizeLine_eq]; simp; omega))); intro h' F' N'; (try k_sweep))
  refine wpAny_call ?_
  k_dflt (first | (refine' code_def ?k1 ?k2 ?k3 ?k4 ?k5 ?kA ?kF ?kK ?k6 ?k7 ?k8 ?k9 ?kB ?_ ?c2 ?c3 ?c4 ?c5; (case kA => exact rfl); (case kF => exact rfl); (case kK => assumption); (case k1 => k_asm); (case k2 => k_asm); (case k3 => k_asm); (case k4 => k_asm); (case k5 => k_asm); (case k6 => k_is); (case k7 => k_is); (case k8 => ktr_room); (case k9 => (refine' kp_binds ?kx ?ke; (case kx => k_in); (case ke => exact fun _ => rfl))); (case c5 => decide); (case kB => exact locs rfl); (case c2 => exact rfl); (case c3 => exact rfl); (case c4 => exact rfl); k_whole; intro g' L' h' FG' F' N' B' X' T'; (try dsimp only); (try k_fold)) | ktr_enter)
  k_steps
  all_goals first
    | (refine' hret _ _ _ hB' ?e2 ?e3; (case e2 => assumption); (case e3 => assumption))
end Mine
end
section
open PySem PySem.W PyProof.Rows PySem.Flt
namespace Mine
section
variable {prog : Program} {w : World} {A : Around} {E : Value → Shared → Prop} {s : Shared} {Q : Value → Shared → Prop} {h₀ : Heap} {L : Addr} {m : Str → Option Value} {news : List (Addr × Obj)}
theorem max_int3 {n : Int} {t u x : Tok} (hh : A.handled = none) (F : Fr h₀ L s.heap m) (N : News h₀ L s.heap news)
    (h : ∀ h' tk, Fr h₀ L h' m → News h₀ L h' news → Q (.int n u) { s with heap := h', toks := tk }) :
    wpAny (model prog w) A (call (.builtin "max") [.int (n - 1) t, .int n u, .int n x]) Q E s := by
  refine max_three_ints hh fun h' tk kp => ?_
  rw [if_pos (show n > n - 1 by omega), if_neg (show ¬ n > n by omega)]
  exact h h' tk (F.grownK kp) (N.grown kp)
theorem min_int3 {n : Int} {t u x : Tok} (hh : A.handled = none) (F : Fr h₀ L s.heap m) (N : News h₀ L s.heap news)
    (h : ∀ h' tk, Fr h₀ L h' m → News h₀ L h' news → Q (.int (n - 1) t) { s with heap := h', toks := tk }) :
    wpAny (model prog w) A (call (.builtin "min") [.int (n - 1) t, .int n u, .int n x]) Q E s := by
  refine min_three_ints hh fun h' tk kp => ?_
  rw [if_neg (show ¬ n < n - 1 by omega), if_neg (show ¬ n < n - 1 by omega)]
  exact h h' tk (F.grownK kp) (N.grown kp)
end
theorem part_eq {v : Int} {z PT : UInt64} (h2 : 2 ≤ v) (hz : Flt.Hid (z = Float64.ofFrac (decide (v - (v - 1) < 0) != decide (v < 0)) (v - (v - 1)).natAbs v.natAbs)) (hp : Flt.Hid (partOf v.toNat = PT)) : z = PT := by
  rw [hz.out, ← hp.out]
  unfold partOf
  rw [decide_eq_false (by omega), decide_eq_false (by omega), show (v - (v - 1)).natAbs = 1 by omega, show v.natAbs = v.toNat by omega]
  rfl
abbrev tupP (a b : UInt64) (v : Int) (ta tb tc : Tok) (n : Nat) : Obj := { cls := .type "tuple", data := .seq #[.float a ta, .float b tb, .int v tc] n }
set_option maxRecDepth 100000 in
set_option maxHeartbeats 4000000 in
theorem rgbI_ctr {prog : Program} {w : World} {p : Program} {loose : List Str} {mean : ExcName → Option Value} {mg mb : Str → Option Value}
    {v : Int} {PT : UInt64} {tr tg tb : Tok} {news : List (Addr × Obj)} (h2 : 2 ≤ v) (h3 : v < 1000) (hp : Flt.Hid (partOf v.toNat = PT))
    {dp un : Nat} {gd : Option (List Code)} {cn : Str} {cs : Scope} {a : Addr} {ccd : Value} {cl : List (Str × Addr)} {outer : List Env} {A₀ : Around} {base h₀ : Heap} {L : Addr} {m : Str → Option Value} {s : Shared} {Q E : Value → Shared → Prop}
    (B : Below A₀ base outer h₀) (F : Fr h₀ L s.heap m) (X : (hd.heap_39 w.params).In h₀) (N : News h₀ L s.heap news) (T : Top p loose mean mg mb h₀) (hk : cs.kind = .function)
    (hdp : dp + 1 < recursionLimit) (hun : un + 8 < cLine)
    (hret : ∀ D H t1 t2 t3 c h' tk', Fr h₀ L h' m → News h₀ L h' ((D, tupP H PT v t1 t2 t3 c) :: news) → (∀ q ∈ news, q.1 < D) → Q (.ref D) { s with heap := h', toks := tk' }) :
    wpAny (model prog w) (ktrTop dp un gd cn cs L a ccd cl outer) (call (.ref 48) [.int (v - 1) tr, .int v tg, .int v tb]) Q E s := by
  have hfill : PySem.Challenge.rw_rl0050_01 = PySem.Challenge.rw_rl0050_01 ∧ hd.heap_39 = hd.heap_39 := by
    k_fill
    exact ⟨rfl, rfl⟩
  clear hfill
  w_top off
  k_with_none
  k_with "call builtin:max" => ((with_reducible show wpAny _ _ (call _ [Value.int _ _, Value.int _ _, Value.int _ _]) _ _ _); (rename News _ _ _ _ => N'); (rename Fr _ _ _ _ => F'); refine max_int3 rfl F' N' ?_; clear N'; intro _ _ _ _)
  k_with "call builtin:min" => ((with_reducible show wpAny _ _ (call _ [Value.int _ _, Value.int _ _, Value.int _ _]) _ _ _); (rename News _ _ _ _ => N'); (rename Fr _ _ _ _ => F'); refine min_int3 rfl F' N' ?_; clear N'; intro _ _ _ _)
  k_with "binaryOp Div float float" => (refine div_ok rfl (by decide +kernel) ?_)
  k_with "binaryOp Mod float float" => (refine mod_ok rfl (by decide +kernel) ?_)
  refine wpAny_call ?_
  k_dflt ktr_enter
  k_steps
  all_goals first
    | (exfalso; omega)
    | (obtain rfl := part_eq (z := Float64.ofFrac (decide (v - (v - 1) < 0) != decide (v < 0)) (v - (v - 1)).natAbs v.natAbs) h2 ⟨rfl⟩ hp
       refine' hret _ _ _ _ _ _ _ _ ?e1 ?e2 ?e3; (case e1 => assumption); (case e3 => assumption); (case e2 => assumption))
end Mine
end
section
open PySem PySem.W PyProof.Rows PySem.Flt PyProof.V PySem.Spec
namespace Mine
abbrev rowObj (cols : List (Addr × Nat)) (n : Nat) : Obj := listOf (cols.map fun c => Value.ref c.1).toArray n
structure RowS (tl : List (Addr × Obj)) (pl : Nat → Nat) (k : Nat) (cols : List (Addr × Nat)) : Prop where
  at_ : ∀ c ∈ cols, ColAt tl c.1 c.2
  sort : SortedC cols
  len : cols.length = k
  perm : (cols.map (·.2)).Perm ((List.range k).map pl)
theorem SortedC.ins {cols : List (Addr × Nat)} {P : Nat} {D : Addr} {j : Int} (h : SortedC cols) (hb : BisR cols P j j) : SortedC (cols.take j.toNat ++ (D, P) :: cols.drop j.toNat) := by
  have h0 := hb.lo0
  have h1 := hb.top
  have hlen : (cols.take j.toNat).length = j.toNat := by rw [List.length_take]; omega
  intro a b q r hab ea eb
  rw [List.getElem?_append] at ea eb
  rw [hlen] at ea eb
  by_cases ha : a < j.toNat
  · rw [if_pos ha, List.getElem?_take_of_lt ha] at ea
    by_cases hb' : b < j.toNat
    · rw [if_pos hb', List.getElem?_take_of_lt hb'] at eb
      exact h a b q r hab ea eb
    · rw [if_neg hb'] at eb
      by_cases hbj : b = j.toNat
      · subst hbj
        simp at eb
        subst eb
        exact hb.left a q (by omega) ea
      · rw [show b - j.toNat = (b - j.toNat - 1) + 1 by omega, List.getElem?_cons_succ, List.getElem?_drop] at eb
        exact h a _ q r (by omega) ea eb
  · rw [if_neg ha] at ea
    rw [if_neg (by omega)] at eb
    by_cases haj : a = j.toNat
    · subst haj
      simp at ea
      subst ea
      by_cases hbj : b = j.toNat
      · subst hbj
        simp at eb
        subst eb
        exact Nat.le_refl _
      · rw [show b - j.toNat = (b - j.toNat - 1) + 1 by omega, List.getElem?_cons_succ, List.getElem?_drop] at eb
        exact Nat.le_of_lt (hb.right _ r (by omega) eb)
    · rw [show a - j.toNat = (a - j.toNat - 1) + 1 by omega, List.getElem?_cons_succ, List.getElem?_drop] at ea
      rw [show b - j.toNat = (b - j.toNat - 1) + 1 by omega, List.getElem?_cons_succ, List.getElem?_drop] at eb
      exact h _ _ q r (by omega) ea eb
theorem RowS.ins {tl : List (Addr × Obj)} {pl : Nat → Nat} {k : Nat} {cols : List (Addr × Nat)} {D : Addr} {obj : Obj} {j : Int} (h : RowS tl pl k cols) (hb : BisR cols (pl k) j j) (hD : ColAt [(D, obj)] D (pl k)) :
    RowS ((D, obj) :: tl) pl (k + 1) (cols.take j.toNat ++ (D, pl k) :: cols.drop j.toNat) := by
  have hp : (cols.take j.toNat ++ (D, pl k) :: cols.drop j.toNat).Perm ((D, pl k) :: cols) := by
    have := (List.perm_middle (a := (D, pl k)) (l₁ := cols.take j.toNat) (l₂ := cols.drop j.toNat))
    rwa [List.take_append_drop] at this
  refine ⟨fun c hc => ?_, h.sort.ins hb, ?_, ?_⟩
  · rcases List.mem_cons.mp (hp.mem_iff.mp hc) with rfl | hc
    · exact hD.mono fun p hp => by rw [List.mem_singleton.mp hp]; exact .head _
    · exact (h.at_ c hc).mono fun p hp => .tail _ hp
  · rw [hp.length_eq, List.length_cons, h.len]
  · refine (hp.map (·.2)).trans ?_
    rw [List.range_succ, List.map_append, List.map_cons]
    show (pl k :: cols.map (·.2)).Perm _
    exact (List.Perm.cons _ h.perm).trans (by simpa using (List.perm_append_singleton (pl k) ((List.range k).map pl)).symm)
section
variable {prog : Program} {w : World} {A : Around} {E : Value → Shared → Prop} {s : Shared} {env : Env} {h₀ : Heap} {x : Str} {body : List Stmt} {Q : Flow → Shared → Prop}
def RowEnd (h₀ : Heap) (L row : Addr) (news : List (Addr × Obj)) (x : Str) (stored : List Str) (m₀ : Str → Option Value) (pl : Nat → Nat) (k : Nat) (cols : List (Addr × Nat)) (tl own : List (Addr × Obj)) (s₁ s₂ : Shared) : Prop :=
  ∃ h' tk' m' D obj n' j, s₂ = { s₁ with heap := h', toks := tk' } ∧ Fr h₀ L h' m' ∧ BisR cols (pl k) j j ∧ ColAt [(D, obj)] D (pl k) ∧ D ≠ row ∧ (∀ p ∈ own, p.1 ≠ D) ∧ (∀ q ∈ news, q.1 < D) ∧
    News h₀ L h' ((row, rowObj (cols.take j.toNat ++ (D, pl k) :: cols.drop j.toNat) n') :: (D, obj) :: (tl ++ (news ++ own))) ∧ (∀ z, z ≠ x → stored.contains z = false → m' z = m₀ z)
def RowPost (h₀ : Heap) (L row : Addr) (news : List (Addr × Obj)) (x : Str) (stored : List Str) (m₀ : Str → Option Value) (pl : Nat → Nat) (k : Nat) (cols : List (Addr × Nat)) (tl own : List (Addr × Obj)) (s₁ : Shared) (f : Flow) (s₂ : Shared) : Prop :=
  match f with
  | .next => RowEnd h₀ L row news x stored m₀ pl k cols tl own s₁ s₂
  | _ => False
theorem row_loop {r row : Addr} {b₀ : Int} {t₀ u₀ v₀ : Tok} {m₀ : Str → Option Value} {nl news : List (Addr × Obj)} (stored : List Str) (pl : Nat → Nat)
    (hh : A.handled = none) (hr : IsRange s.heap r 0 b₀ 1 t₀ u₀ v₀) (hb : 0 ≤ b₀) (hb2 : b₀ < 1000) (F : Fr h₀ env.locals s.heap m₀) (N : News h₀ env.locals s.heap ((row, listOf #[] 0) :: nl)) (hsub : ∀ p ∈ news, p ∈ nl) (hoff : ∀ p ∈ news, p.1 < row)
    (turn : ∀ (k : Nat) t (u : Str → Option Value) cols n tl own h tk, (k : Int) < b₀ → RowS tl pl k cols → (∀ p ∈ tl ++ (news ++ own), p.1 ≠ row) →
      Fr h₀ env.locals h (fun y => if y = x then some (.int (k : Int) t) else if stored.contains y then u y else m₀ y) → News h₀ env.locals h ((row, rowObj cols n) :: (tl ++ (news ++ own))) →
      wpAny (model prog w) A (execs body env) (RowPost h₀ env.locals row news x stored m₀ pl k cols tl own { s with heap := h, toks := tk }) E { s with heap := h, toks := tk })
    (done : ∀ (u : Str → Option Value) cols n tl h tk, RowS tl pl b₀.toNat cols → (∀ p ∈ tl ++ news, p.1 ≠ row) → (∀ p ∈ tl, ∀ q ∈ news, q.1 < p.1) → Fr h₀ env.locals h (fun y => if y = x then u y else if stored.contains y then u y else m₀ y) →
      News h₀ env.locals h ((row, rowObj cols n) :: (tl ++ news)) → Q .next { s with heap := h, toks := tk }) :
    wpAny (model prog w) A (pyIter (.ref r)) (fun it s₂ => LoopAtV prog w A h₀ env x body Q E it s₂) E s := by
  have hn : Builtin.Range.rangeSize 0 b₀ 1 = (b₀.toNat : Int) := by
    unfold Builtin.Range.rangeSize
    simp
    omega
  have hsm : Builtin.Range.small 0 b₀ 1 = true := small_one (by omega) (by omega) (by omega) (by omega)
  have hof : ∀ p ∈ news, p.1 ≠ row := fun p hp => Nat.ne_of_lt (hoff p hp)
  refine tbr_invG (n := b₀.toNat) (news := (row, listOf #[] 0) :: ([] ++ news))
    (fun i m nx => ∃ cols n tl, nx = (row, rowObj cols n) :: (tl ++ news) ∧ RowS tl pl i cols ∧ (∀ p ∈ tl ++ news, p.1 ≠ row) ∧ (∀ p ∈ tl, ∀ q ∈ news, q.1 < p.1) ∧ ∀ z, z ≠ x → stored.contains z = false → m z = m₀ z)
    hh hr hsm hn F ?_ ?_ ?_ ?_
  · refine kst_newsOf N fun p hp => ?_
    rcases List.mem_cons.mp hp with rfl | hp
    · exact .head _
    · exact .tail _ (hsub p (by simpa using hp))
  · exact ⟨[], 0, [], rfl, ⟨fun _ h => (nomatch h), fun i j q r _ h => (by cases h), rfl, by simp⟩, by simpa using hof, (fun _ h => nomatch h), fun _ _ _ => rfl⟩
  · rintro i k t m₁ nx h tk own hk hown ⟨cols, n, tl, rfl, hS, hne, hup, hm⟩ F₁ N₁
    have hi : i < b₀.toNat ∧ k = (i : Int) := by
      have h1 : i < (rangeKs 0 b₀.toNat).length := (List.getElem?_eq_some_iff.mp hk).1
      rw [rangeKs_length] at h1
      refine ⟨h1, ?_⟩
      have h2 : (rangeKs 0 b₀.toNat)[i]? = some (0 + (i : Int)) := by simp [rangeKs, h1]
      rw [h2] at hk
      have := Option.some.inj hk
      omega
    obtain ⟨hi, rfl⟩ := hi
    have hne' : ∀ p ∈ tl ++ (news ++ own), p.1 ≠ row := by
      intro p hp
      rw [← List.append_assoc] at hp
      rcases List.mem_append.mp hp with hp | hp
      · exact hne p hp
      · exact hown p hp _ (.head _)
    have N₂ : News h₀ env.locals h ((row, rowObj cols n) :: (tl ++ (news ++ own))) := by
      refine kst_newsOf N₁ fun p hp => ?_
      simpa [List.append_assoc] using hp
    have e : (fun y => if y = x then some (Value.int (i : Int) t) else m₁ y) = fun y => if y = x then some (Value.int (i : Int) t) else if stored.contains y then m₁ y else m₀ y := by
      funext y
      by_cases h1 : y = x
      · simp [h1]
      · simp only [if_neg h1]
        cases h3 : stored.contains y with
        | true => simp
        | false => simp only [Bool.false_eq_true, if_false]; exact hm y h1 h3
    rw [e] at F₁
    refine wpAny_mono (turn i t m₁ cols n tl own h tk (by omega) hS hne' F₁ N₂) (fun f s₂ q => ?_) fun _ _ x => x
    cases f with
    | next =>
      obtain ⟨h', tk', m', D, obj, n', j, rfl, F', hB, hD, hDr, hDo, hDn, N', hm'⟩ := q
      refine ⟨h', tk', m', _, (row, rowObj (cols.take j.toNat ++ (D, pl i) :: cols.drop j.toNat) n') :: (((D, obj) :: tl) ++ news), rfl, F', N', ?_, ?_, ?_, _, n', (D, obj) :: tl, rfl, hS.ins hB hD, ?_, ?_, hm'⟩
      · intro p hp
        rcases List.mem_cons.mp hp with rfl | hp
        · exact .head _
        · rcases List.mem_cons.mp hp with rfl | hp
          · exact .tail _ (.head _)
          · refine .tail _ (.tail _ ?_)
            rw [← List.append_assoc]
            exact List.mem_append.mpr (.inl hp)
      · intro p hp
        exact .tail _ (.tail _ (List.mem_append.mpr (.inr (List.mem_append.mpr (.inr hp)))))
      · intro p hp q hq
        rcases List.mem_cons.mp hq with rfl | hq
        · exact hown p hp (row, rowObj cols n) (.head _)
        · rcases List.mem_cons.mp hq with rfl | hq
          · exact hDo p hp
          · exact hown p hp _ (.tail _ hq)
      · intro p hp
        rcases List.mem_cons.mp hp with rfl | hp
        · exact hDr
        · exact hne p hp
      · intro p hp q hq
        rcases List.mem_cons.mp hp with rfl | hp
        · exact hDn q hq
        · exact hup p hp q hq
    | cont => exact q.elim
    | brk => exact q.elim
    | ret v => exact q.elim
  · rintro m₁ nx h tk ⟨cols, n, tl, rfl, hS, hne, hup, hm⟩ F₁ N₁
    refine done m₁ cols n tl h tk hS hne hup ?_ N₁
    have e : (fun y => if y = x then m₁ y else if stored.contains y then m₁ y else m₀ y) = m₁ := by
      funext y
      by_cases h1 : y = x
      · simp [h1]
      · simp only [if_neg h1]
        cases h3 : stored.contains y with
        | true => simp
        | false => simp only [Bool.false_eq_true, if_false]; exact (hm y h1 h3).symm
    rw [e]
    exact F₁
end
end Mine
end
section
open PySem PySem.W PyProof.Rows PySem.Flt
namespace Mine
section
variable {prog : Program} {w : World} {A : Around} {E : Value → Shared → Prop} {s : Shared} {Q : Value → Shared → Prop} {h₀ : Heap} {L : Addr} {news : List (Addr × Obj)}
/-- an item of a list of ints of the ledger -/
theorem item_ints {vs : List Value} {ns : List Int} {row : Addr} {n : Nat} {value slice : PySem.Expr} {i : Int} {u : Tok} (N : News h₀ L s.heap news) (hm : (row, listOf vs.toArray n) ∈ news) (hi : IntsAre vs ns)
    (h0 : 0 ≤ i) (h1 : i < (ns.length : Int)) (hfit : ns.length < 2 ^ 62) (h : ∀ x t, ns[i.toNat]? = some x → Q (.int x t) s)
    (hs : subscripted slice false (.ref row) (.int i u) = operate [.ref row, .int i u] (getItem (.ref row) (.int i u)) := by with_unfolding_all rfl) :
    wpAny (model prog w) A (subscriptTail value slice (.ref row) (.int i u)) Q E s := by
  have hl : s.heap.IsList row vs.toArray := ⟨_, (N _ hm).1, rfl, n, rfl⟩
  have hlt : i.toNat < ns.length := by omega
  have hc : ns[i.toNat]? = some ns[i.toNat] := by simp [hlt]
  obtain ⟨t, ht⟩ := hi.get _ _ hc
  exact tail_any hl.typeIs slot_list_getitem.lookup (wpAny_getItem_list hl h0 (by omega) (by simpa using ht) (h _ t hc)) hs
end
theorem mul_part {sz pl : Int} {z : Nat} {PT : UInt64} (hz : (sz = 16 ∧ z = 2) ∨ (sz = 32 ∧ z = 1)) (hPT : Flt.Hid (partOf sz.toNat = PT)) (h0 : 0 ≤ pl) (h1 : pl ≤ sz) : Float64.mul (Float64.ofInt pl) PT = mkH (z * pl.toNat) := by
  rw [← hPT.out]
  have hp : pl = ((pl.toNat : Nat) : Int) := by omega
  rcases hz with ⟨rfl, rfl⟩ | ⟨rfl, rfl⟩
  · rw [hp]
    exact mk_half (by omega)
  · rw [hp, Nat.one_mul]
    rfl
theorem mul_quarter {sh : Int} {QT : UInt64} (hQT : Flt.Hid (partOf (4 : Int).toNat = QT)) (h0 : 1 ≤ sh) : Float64.mul (Float64.ofInt sh) QT = qu sh.toNat := by
  rw [← hQT.out]
  have hp : sh = ((sh.toNat : Nat) : Int) := by omega
  rw [hp]
  rfl
theorem hsv_col {prog : Program} {w : World} {p : Program} {loose : List Str} {mean : ExcName → Option Value} {mg mb : Str → Option Value}
    {sz pl sh lv : Int} {z : Nat} {PT QT : UInt64} {th ts tv : Tok} {news : List (Addr × Obj)} (hz : (sz = 16 ∧ z = 2) ∨ (sz = 32 ∧ z = 1)) (hPT : Flt.Hid (partOf sz.toNat = PT)) (hQT : Flt.Hid (partOf (4 : Int).toNat = QT))
    (h0 : 0 ≤ pl) (h1 : pl < sz) (h2 : 1 ≤ sh) (h3 : sh ≤ 4) (h4 : 1 ≤ lv) (h5 : lv ≤ 4)
    {dp un : Nat} {gd : Option (List Code)} {cn : Str} {cs : Scope} {a : Addr} {ccd : Value} {cl : List (Str × Addr)} {outer : List Env} {A₀ : Around} {base h₀ : Heap} {L : Addr} {m : Str → Option Value} {s : Shared} {Q E : Value → Shared → Prop}
    (B : Below A₀ base outer h₀) (F : Fr h₀ L s.heap m) (X : (hd.heap_39 w.params).In h₀) (N : News h₀ L s.heap news) (T : Top p loose mean mg mb h₀) (hk : cs.kind = .function)
    (hdp : dp + 1 < recursionLimit) (hun : un + 8 < cLine)
    (hret : ∀ D obj h' tk', ColAt [(D, obj)] D (z * pl.toNat) → Fr h₀ L h' m → News h₀ L h' ((D, obj) :: news) → (∀ q ∈ news, q.1 < D) → Q (.ref D) { s with heap := h', toks := tk' }) :
    wpAny (model prog w) (ktrTop dp un gd cn cs L a ccd cl outer) (call (.ref 55) [.float (Float64.mul (Float64.ofInt pl) PT) th, .float (Float64.mul (Float64.ofInt sh) QT) ts, .float (Float64.mul (Float64.ofInt lv) QT) tv]) Q E s := by
  have hP : z * pl.toNat < 32 := by rcases hz with ⟨rfl, rfl⟩ | ⟨rfl, rfl⟩ <;> omega
  rw [mul_part hz hPT h0 (by omega), mul_quarter hQT h2, mul_quarter hQT h4]
  have ic : IsCol (z * pl.toNat) (colr (z * pl.toNat) sh.toNat lv.toNat).1 (colr (z * pl.toNat) sh.toNat lv.toNat).2.1 (colr (z * pl.toNat) sh.toNat lv.toNat).2.2 :=
    ⟨hP, _, _, by omega, by omega, by omega, by omega, rfl⟩
  exact hsv_ctr ⟨hsv_ok (by omega) (by omega) (by omega)⟩ ⟨rfl⟩ B F X N T hk hdp hun fun D t1 t2 t3 c h' tk' F' N' l' =>
    hret D _ h' tk' ⟨_, _, _, t1, t2, t3, c, .head _, ic⟩ F' N' l'
theorem item_intsK {prog : Program} {w : World} {A : Around} {E : Value → Shared → Prop} {s : Shared} {Q : Value → Shared → Prop} {h₀ : Heap} {L : Addr} {news : List (Addr × Obj)} {vs : List Value} {ns : List Int} {row : Addr} {n : Nat} {value slice : PySem.Expr} {i x : Int} {u : Tok} (N : News h₀ L s.heap news) (hm : (row, listOf vs.toArray n) ∈ news) (hi : IntsAre vs ns)
    (hx : ns[i.toNat]? = some x) (h0 : 0 ≤ i) (hfit : ns.length < 2 ^ 62) (h : ∀ t, Q (.int x t) s)
    (hs : subscripted slice false (.ref row) (.int i u) = operate [.ref row, .int i u] (getItem (.ref row) (.int i u)) := by with_unfolding_all rfl) :
    wpAny (model prog w) A (subscriptTail value slice (.ref row) (.int i u)) Q E s :=
  item_ints N hm hi h0 (by have := (List.getElem?_eq_some_iff.mp hx).1; omega) hfit (fun y t hy => by rw [hx] at hy; cases hy; exact h t) hs
theorem fmod_in (x : Int) {y : Int} (h : 0 < y) : 0 ≤ Int.fmod x y ∧ Int.fmod x y < y := ⟨Int.fmod_nonneg_of_pos x h, Int.fmod_lt_of_pos x h⟩
theorem one_lo (x : Int) : 1 ≤ 1 + Int.fmod x 4 := by have := fmod_in x (by decide : (0 : Int) < 4); omega
theorem one_hi (x : Int) : 1 + Int.fmod x 4 ≤ 4 := by have := fmod_in x (by decide : (0 : Int) < 4); omega
theorem sub_swap3 {a b c : Addr × Obj} {rest : List (Addr × Obj)} : ∀ p ∈ b :: a :: rest, p ∈ a :: c :: b :: rest := by
  intro p hp
  rcases List.mem_cons.mp hp with rfl | hp
  · exact .tail _ (.tail _ (.head _))
  · rcases List.mem_cons.mp hp with rfl | hp
    · exact .head _
    · exact .tail _ (.tail _ (.tail _ hp))
theorem off_cons {a : Addr × Obj} {rest : List (Addr × Obj)} {row : Addr} (h : row < a.1) (hr : ∀ p ∈ rest, p.1 ≠ row) : ∀ p ∈ a :: rest, p.1 ≠ row := by
  intro p hp
  rcases List.mem_cons.mp hp with rfl | hp
  · exact Nat.ne_of_gt h
  · exact hr p hp
theorem big1023 : (2 ^ 64 : Nat) < 2 ^ 1023 := by decide +kernel
theorem fit_small {n : Int} (h : n.natAbs < 1000) : n.natAbs < 2 ^ 1023 := Nat.lt_trans (Nat.lt_trans h (by decide)) big1023
theorem fit_fmod {x y : Int} (h : 0 < y) (h2 : y < 100) : (Int.fmod x y).natAbs < 2 ^ 1023 := fit_small (by have := fmod_in x h; omega)
theorem fit_one {x : Int} : (1 + Int.fmod x 4).natAbs < 2 ^ 1023 := fit_small (by have := fmod_in x (by decide : (0 : Int) < 4); omega)
/-- the place of the k-th colour that is laid, in 32nds -/
def plOf (z : Nat) (sz ct n0 n1 : Int) (k : Nat) : Nat := z * (Int.fmod (Int.fdiv n0 6 + Int.fdiv (Int.fmod ((k : Int) * (1 + Int.fmod (Int.fdiv n1 128) (ct - 1))) ct * sz) ct) sz).toNat
end Mine
end
section
open PySem PySem.W PyProof.Rows PySem.Flt
namespace Mine
local macro_rules | `(tactic| k_mem) => `(tactic| (first | assumption | exact List.mem_cons_self .. | (refine List.mem_cons_of_mem _ ?_; k_mem) | (refine List.mem_append_left _ ?_; k_mem) | (refine List.mem_append_right _ ?_; k_mem)))
set_option maxRecDepth 100000 in
set_option maxHeartbeats 4000000 in
theorem row_ctr {prog : Program} {w : World} {p : Program} {loose : List Str} {mean : ExcName → Option Value} {mg mb : Str → Option Value}
    {nums : Addr} {kn z : Nat} {sz ct : Int} {PT QT : UInt64} {tz tc tp : Tok} {vs : List Value} {ns : List Int} {news : List (Addr × Obj)}
    (hnum : (nums, listOf vs.toArray kn) ∈ news) (hI : IntsAre vs ns) (hlen : ns.length = 9) (hpos : ∀ n ∈ ns, 0 ≤ n ∧ n < 1000000)
    (hz : (sz = 16 ∧ z = 2) ∨ (sz = 32 ∧ z = 1)) (hct : ct = 3 ∨ ct = 5 ∨ ct = 7) (hPT : Flt.Hid (partOf sz.toNat = PT)) (hQT : Flt.Hid (partOf (4 : Int).toNat = QT))
    {dp un : Nat} {gd : Option (List Code)} {cn : Str} {cs : Scope} {a : Addr} {ccd : Value} {cl : List (Str × Addr)} {outer : List Env} {A₀ : Around} {base h₀ : Heap} {L : Addr} {m : Str → Option Value} {s : Shared} {Q E : Value → Shared → Prop}
    (B : Below A₀ base outer h₀) (F : Fr h₀ L s.heap m) (X : (hd.heap_39 w.params).In h₀) (N : News h₀ L s.heap news) (T : Top p loose mean mg mb h₀) (hk : cs.kind = .function)
    (hdp : dp + 5 < recursionLimit) (hun : un + 40 < cLine)
    {n0 n1 : Int} (hn0 : ns[(0 : Int).toNat]? = some n0) (hn1 : ns[(1 : Int).toNat]? = some n1)
    (hret : ∀ D cols n tl h' tk', RowS tl (plOf z sz ct n0 n1) ct.toNat cols → (∀ p ∈ tl ++ news, p.1 ≠ D) → (∀ p ∈ tl, ∀ q ∈ news, q.1 < p.1) → Fr h₀ L h' m → News h₀ L h' ((D, rowObj cols n) :: (tl ++ news)) → Q (.ref D) { s with heap := h', toks := tk' }) :
    wpAny (model prog w) (ktrTop dp un gd cn cs L a ccd cl outer) (call (.ref 89) [.ref nums, .int sz tz, .int ct tc, .float PT tp]) Q E s := by
  have hfill : PySem.Challenge.rw_rl0050_01 = PySem.Challenge.rw_rl0050_01 ∧ hd.heap_39 = hd.heap_39 := by
    k_fill
    exact ⟨rfl, rfl⟩
  clear hfill
  w_top off
  have hp0 := hpos _ (List.mem_of_getElem? hn0)
  have hp1 := hpos _ (List.mem_of_getElem? hn1)
  k_with_none
  k_with "binaryOp Mult int float" => ((first | refine mul_if_fits fit_one ?_ | refine mul_if_fits (fit_fmod (by omega) (by omega)) ?_); (try dsimp only))
  k_with "call ref" => (k_here; (with_reducible show wpAny _ _ (call (Value.ref 48) [Value.int _ _, Value.int _ _, Value.int _ _] _) _ _ _); k_dflt (refine' rgbI_ctr (v := 4) (by decide) (by decide) hQT ?B ?F ?X ?N ?T ?hk ?hdp ?hun ?_; (case B => k_asm); (case F => k_asm); (case X => k_asm); (case N => k_asm); (case T => k_asm); (case hk => first | exact rfl | assumption); (case hdp => ktr_room); (case hun => ktr_units)); intro D' H' t1' t2' t3' c' h' tk' F' N' l1; (try dsimp only); (try k_fold); (try k_lt l1); (try k_sweep))
  k_with "subscriptTail" => (k_here; (with_reducible show wpAny _ _ (subscriptTail _ _ (Value.ref nums) (Value.int _ _)) _ _ _); k_dflt (refine' item_ints ?k1 ?hm hI ?k3 ?k4 (by omega) ?_; (case k1 => k_asm); (case hm => k_mem); (case k3 => omega); (case k4 => omega)); intro x' t' hx'; (have hp' := hpos _ (List.mem_of_getElem? hx')); (try dsimp only))
  k_with "subscriptTail" => (k_here; (with_reducible show wpAny _ _ (subscriptTail _ _ (Value.ref nums) (Value.int 0 _)) _ _ _); k_dflt (refine' item_intsK ?k1 ?hm hI hn0 (by decide) (by omega) ?_; (case k1 => k_asm); (case hm => k_mem)); intro t'; (try dsimp only))
  k_with "subscriptTail" => (k_here; (with_reducible show wpAny _ _ (subscriptTail _ _ (Value.ref nums) (Value.int 1 _)) _ _ _); k_dflt (refine' item_intsK ?k1 ?hm hI hn1 (by decide) (by omega) ?_; (case k1 => k_asm); (case hm => k_mem)); intro t'; (try dsimp only))
  k_with "call ref" => (k_here; (with_reducible show wpAny _ _ (call (Value.ref 55) [Value.float _ _, Value.float _ _, Value.float _ _] _) _ _ _); k_dflt (refine' hsv_col hz hPT hQT ?h0 ?h1 ?h2 ?h3 ?h4 ?h5 ?B ?F ?X ?N ?T ?hk ?hdp ?hun ?_; (case h0 => exact (fmod_in _ (by omega)).1); (case h1 => exact (fmod_in _ (by omega)).2); (case h2 => exact one_lo _); (case h3 => exact one_hi _); (case h4 => exact one_lo _); (case h5 => exact one_hi _); (case B => k_asm); (case F => k_asm); (case X => k_asm); (case N => k_asm); (case T => k_asm); (case hk => first | exact rfl | assumption); (case hdp => ktr_room); (case hun => ktr_units)); intro D' obj' h' tk' hD' F' N' l9; (try dsimp only); (try k_fold); (try k_sweep))
  k_with "call ref" => (k_here; (with_reducible show wpAny _ _ (call (Value.ref 23) _ _) _ _ _); k_dflt (refine' insort_ctr (cols := cols') (c := D') (rest := (D', obj') :: (tl' ++ (news ++ own'))) ?hoff ?hcols hS'.sort ?hfit ?hc ?B ?F ?X ?N ?T ?hk ?hdp ?hun ?_; (case N => exact kst_newsOf (by assumption) sub_swap3); (case hoff => exact off_cons (l9 _ (.tail _ (.head _))) hne'); (case hcols => exact fun c hc => (hS'.at_ c hc).mono fun p hp => .tail _ (List.mem_append_left _ hp)); (case hfit => (have := hS'.len; omega)); (case hc => exact hD'.mono fun p hp => by rw [List.mem_singleton.mp hp]; exact .head _); (case B => k_asm); (case F => k_asm); (case X => k_asm); (case T => k_asm); (case hk => first | exact rfl | assumption); (case hdp => ktr_room); (case hun => ktr_units)); intro j' h' tk' hB' F' N'; (try dsimp only); (try k_fold); (try k_sweep))
  k_with "pyIter ref" => (k_here; (rename IsRange _ _ _ _ _ _ _ _ => hR'); (rename Fr _ _ _ _ => lF'); (rename News _ _ _ _ => lN'); (with_unfolding_all refine' row_loop (news := news) [Str.ofString "place", Str.ofString "share", Str.ofString "level"] (plOf z sz ct n0 n1) rfl hR' ?b1 ?b2 lF' lN' ?sub ?off ?turn ?done); (case b1 => omega); (case b2 => omega); (case sub => exact fun p hp => .tail _ (.tail _ hp)); (case off => (rename _ ∧ _ ∧ AllLt _ _ => l9; exact ktn_ltOf l9.2.2)); (case' turn => (clear lF' lN'; intro k' t' u' cols' n' tl' own' h' tk' hk' hS' hne' F' N'; (try dsimp only); (try k_fold))); (case' done => (clear lF' lN'; intro u' cols' n' tl' h' tk' hS' hne' hup' F' N'; (try dsimp only); (try k_fold))))
  refine wpAny_call ?_
  k_dflt ktr_enter
  k_steps
  all_goals first
    | (refine' hret _ _ _ _ _ _ hS' hne' hup' ?e1 ?e2; (case e1 => assumption); (case e2 => assumption))
    | (refine' ⟨_, _, _, D', obj', _, j', rfl, ?e1, hB', hD', ?e2, ?e3, ?e6, ?e4, ?e5⟩; (case e6 => exact fun q hq => l9 q (.tail _ (.tail _ (List.mem_append_right _ (List.mem_append_left _ hq))))); (case e1 => assumption); (case e4 => assumption); (case e2 => exact Nat.ne_of_gt (l9 _ (.tail _ (.head _)))); (case e3 => exact fun p hp => Nat.ne_of_lt (l9 p (.tail _ (.tail _ (List.mem_append_right _ (List.mem_append_right _ hp)))))); (case e5 => (intro z h2 h3; (simp only [List.contains_cons, List.contains_nil, Bool.or_false, Bool.or_eq_false_iff, beq_eq_false_iff_ne, ne_eq] at h3); simp [h2, h3])))
end Mine
end
section
open PySem PySem.W PyProof.Rows PySem.Flt
namespace Mine
abbrev FCell : Type := (UInt64 × Tok) × Nat
abbrev fval (c : FCell) : Value := Value.float c.1.1 c.1.2
abbrev fltObj (cells : List FCell) (n : Nat) : Obj := listOf (cells.map fval).toArray n
def SortedL (cells : List FCell) : Prop := ∀ (i j : Nat) q r, i ≤ j → cells[i]? = some q → cells[j]? = some r → q.2 ≤ r.2
structure BisL (cells : List FCell) (x : Nat) (lo hi : Int) : Prop where
  lo0 : 0 ≤ lo
  le : lo ≤ hi
  top : hi ≤ (cells.length : Int)
  left : ∀ (i : Nat) q, (i : Int) < lo → cells[i]? = some q → q.2 < x
  right : ∀ (i : Nat) q, hi ≤ (i : Int) → cells[i]? = some q → x ≤ q.2
theorem BisL.start {cells : List FCell} {x : Nat} : BisL cells x 0 (cells.length : Int) :=
  ⟨Int.le_refl _, by omega, Int.le_refl _, fun i q h => by omega, fun i q h e => by
    have : i < cells.length := (List.getElem?_eq_some_iff.mp e).1
    omega⟩
theorem BisL.stepU {cells : List FCell} {x : Nat} {lo hi : Int} {q : FCell} {X : UInt64} (h : BisL cells x lo hi) (hs : SortedL cells) (hlt : lo < hi) (e : cells[((lo + hi).fdiv 2).toNat]? = some q) (hx : IsMk x X) (hH : IsMk q.2 q.1.1) (hc : (Float64.cmp q.1.1 X == some .lt) = true) : BisL cells x ((lo + hi).fdiv 2 + 1) hi := by
  rw [IsMk.ltB hH hx] at hc
  have hm := mid_bounds hlt
  have h0 := h.lo0
  exact ⟨by omega, by omega, h.top, fun i r hi' er => Nat.lt_of_le_of_lt (hs _ _ _ _ (by omega) er e) (of_decide_eq_true hc), h.right⟩
theorem BisL.stepD {cells : List FCell} {x : Nat} {lo hi : Int} {q : FCell} {X : UInt64} (h : BisL cells x lo hi) (hs : SortedL cells) (hlt : lo < hi) (e : cells[((lo + hi).fdiv 2).toNat]? = some q) (hx : IsMk x X) (hH : IsMk q.2 q.1.1) (hc : (Float64.cmp q.1.1 X == some .lt) = false) : BisL cells x lo ((lo + hi).fdiv 2) := by
  rw [IsMk.ltB hH hx] at hc
  have hm := mid_bounds hlt
  have h0 := h.lo0
  have h1 := h.top
  exact ⟨h0, hm.1, by omega, h.left, fun i r hi' er => Nat.le_trans (Nat.le_of_not_lt (of_decide_eq_false hc)) (hs _ _ _ _ (by omega) e er)⟩
set_option maxRecDepth 100000 in
set_option maxHeartbeats 4000000 in
theorem bisectL_ctr {prog : Program} {w : World} {p : Program} {loose : List Str} {mean : ExcName → Option Value} {mg mb : Str → Option Value}
    {row : Addr} {n : Nat} {cells : List FCell} {news : List (Addr × Obj)} {x : Nat} {X' : UInt64} {tX : Tok}
    (hrow : (row, fltObj cells n) ∈ news) (hcells : ∀ c ∈ cells, IsMk c.2 c.1.1) (hsort : SortedL cells) (hfit : cells.length < 2 ^ 62) (hx : IsMk x X')
    {dp un : Nat} {gd : Option (List Code)} {cn : Str} {cs : Scope} {a : Addr} {ccd : Value} {cl : List (Str × Addr)} {outer : List Env} {A₀ : Around} {base h₀ : Heap} {L : Addr} {m : Str → Option Value} {s : Shared} {Q E : Value → Shared → Prop}
    (B : Below A₀ base outer h₀) (F : Fr h₀ L s.heap m) (X : (hd.heap_39 w.params).In h₀) (N : News h₀ L s.heap news) (T : Top p loose mean mg mb h₀) (hk : cs.kind = .function)
    (hdp : dp + 3 < recursionLimit) (hun : un + 24 < cLine)
    (hret : ∀ j t h' tk', BisL cells x j j → Fr h₀ L h' m → News h₀ L h' news → Q (.int j t) { s with heap := h', toks := tk' }) :
    wpAny (model prog w) (ktrTop dp un gd cn cs L a ccd cl outer) (call (.ref 41) [.ref row, .float X' tX]) Q E s := by
  have hfill : PySem.Challenge.rw_rl0050_01 = PySem.Challenge.rw_rl0050_01 ∧ hd.heap_39 = hd.heap_39 := by
    k_fill
    exact ⟨rfl, rfl⟩
  clear hfill
  w_top off
  k_with_none
  k_with "call builtin:len" => (k_here; (with_reducible show wpAny _ _ (call (Value.builtin "len") [Value.ref _] _) _ _ _); k_dflt (refine' kst_len ?k1 hrow ?k3 ?k4 ?_; (case k1 => k_asm); (case k3 => exact List.length_map ..); (case k4 => omega)); k_whole)
  k_with "subscriptTail" => (k_here; (with_reducible show wpAny _ _ (subscriptTail _ _ (Value.ref row) (Value.int _ _)) _ _ _); k_dflt (refine' item_led ?k1 hrow ?k3 ?k4 hfit ?_; (case k1 => k_asm); (case k3 => (have hm9 := mid_bounds (show lo' < hi' by assumption); omega)); (case k4 => (have hm9 := mid_bounds (show lo' < hi' by assumption); omega))); intro c' hc'; (have iM' := hcells _ (List.mem_of_getElem? hc')); (try dsimp only))
  k_with "exec While Compare cons nil" => (k_here; (rename Fr _ _ _ _ => lF'); (rename News _ _ _ _ => lN'); (with_unfolding_all refine' ksw_while (σ := Int × Tok × Int × Tok) (fun _ => news) (fun c => [(Str.ofString "lo", Value.int c.1 c.2.1), (Str.ofString "hi", Value.int c.2.2.1 c.2.2.2)]) (fun _ => True) [Str.ofString "mid"] (fun c => BisL cells x c.1 c.2.2.1) (fun c => (c.2.2.1 - c.1).toNat) (0, _, (cells.length : Int), _) lF' lN' trivial ?kk BisL.start ?_); (case kk => kst_all); clear lF' lN'; rintro ⟨lo', tlo', hi', thi'⟩ u' h' tk' _ hB' F' N'; (have hb0 := BisL.lo0 hB'); (have hb1 := BisL.le hB'); (have hb2 := BisL.top hB'); (try dsimp only at *); (try k_fold))
  k_with "KswEnd" => (first
    | (refine' ksw_end (_, _, _, _) ?e1 ?e2 (fun p hp => hp) trivial ?e3 ?e4 ?e5 ?e6; (case e1 => assumption); (case e2 => assumption); (case e3 => kst_all); (case e4 => (intro z h2 h3; (simp only [List.forall_mem_cons, List.not_mem_nil, false_implies, implies_true, and_true, ne_eq] at h2); (simp only [List.contains_cons, List.contains_nil, Bool.or_false, Bool.or_eq_false_iff, beq_eq_false_iff_ne, ne_eq] at h3); simp [h2, h3, kstB])); (case e5 => exact BisL.stepD hB' hsort (by assumption) (by assumption) hx (by assumption) (by assumption)); (case e6 => (have hm9 := mid_bounds (show lo' < hi' by assumption); (try dsimp only); omega)))
    | (refine' ksw_end (_, _, _, _) ?e1 ?e2 (fun p hp => hp) trivial ?e3 ?e4 ?e5 ?e6; (case e1 => assumption); (case e2 => assumption); (case e3 => kst_all); (case e4 => (intro z h2 h3; (simp only [List.forall_mem_cons, List.not_mem_nil, false_implies, implies_true, and_true, ne_eq] at h2); (simp only [List.contains_cons, List.contains_nil, Bool.or_false, Bool.or_eq_false_iff, beq_eq_false_iff_ne, ne_eq] at h3); simp [h2, h3, kstB])); (case e5 => exact BisL.stepU hB' hsort (by assumption) (by assumption) hx (by assumption) (by assumption)); (case e6 => (have hm9 := mid_bounds (show lo' < hi' by assumption); (try dsimp only); omega))))
  refine wpAny_call ?_
  k_dflt (first | (refine' code_def ?k1 ?k2 ?k3 ?k4 ?k5 ?kA ?kF ?kK ?k6 ?k7 ?k8 ?k9 ?kB ?_ ?c2 ?c3 ?c4 ?c5; (case kA => exact rfl); (case kF => exact rfl); (case kK => assumption); (case k1 => k_asm); (case k2 => k_asm); (case k3 => k_asm); (case k4 => k_asm); (case k5 => k_asm); (case k6 => k_is); (case k7 => k_is); (case k8 => ktr_room); (case k9 => (refine' kp_binds ?kx ?ke; (case kx => k_in); (case ke => exact fun _ => rfl))); (case c5 => decide); (case kB => exact locs rfl); (case c2 => exact rfl); (case c3 => exact rfl); (case c4 => exact rfl); k_whole; intro g' L' h' FG' F' N' B' X' T'; (try dsimp only); (try k_fold)) | ktr_enter)
  k_steps
  all_goals first
    | (refine' hret _ _ _ _ ?e1 ?e2 ?e3; (case e2 => assumption); (case e3 => assumption); (case e1 => (obtain rfl : lo' = hi' := by omega); exact hB'))
end Mine
end
section
open PySem PySem.W PyProof.Rows PySem.Flt PyProof.V PySem.Spec
namespace Mine
section
variable {prog : Program} {w : World} {A : Around} {s : Shared} {env : Env} {h₀ : Heap}
/-- a loop with an else that is never come to: the range's end is absurd -/
def LoopAtE (prog : Program) (w : World) (A : Around) (h₀ : Heap) (env : Env) (x : Str) (body : List Stmt) (Q : Flow → Shared → Prop) (E : Value → Shared → Prop) (it : Value) (s₂ : Shared) : Prop :=
  ∃ (I : Addr) (n : Nat) (m : Str → Option Value) (news : List (Addr × Obj)) (J : Nat → (Str → Option Value) → List (Addr × Obj) → Prop),
    it = .ref I ∧ A.handled = none ∧ I ≠ env.locals ∧ h₀.get? I = none ∧ (∀ p ∈ news, p.1 ≠ I) ∧ IsRangeIter s₂.heap I 0 (n : Int) 1 ∧ Fr h₀ env.locals s₂.heap m ∧ News h₀ env.locals s₂.heap news ∧ J 0 m news ∧
    (∀ i t m₁ nx h tk own, i < n → (∀ p ∈ own, ∀ q ∈ nx, p.1 ≠ q.1) → J i m₁ nx → Fr h₀ env.locals h (fun y => if y = x then some (.int (i : Int) t) else m₁ y) → News h₀ env.locals h (nx ++ own) →
      wpAny (model prog w) A (execs body env) (TbPost h₀ env.locals (J (i + 1)) own { s₂ with heap := h, toks := tk } Q) E { s₂ with heap := h, toks := tk }) ∧
    ∀ m' news', ¬ J n m' news'
theorem For_invE {E : Value → Shared → Prop} {Q : Flow → Shared → Prop} {x : Str} {px pos : Pos} {iter : PySem.Expr} {body orelse : List Stmt} (F₀ : ∃ L h m, Fr h₀ L h m) (hx : env.kindOf x = some .local)
    (hp : (env.scope.kind == .class || (env.scope.kind == .module && env.locals != env.globals)) = false)
    (h : wpAny (model prog w) A (eval iter env) (fun xv s₁ => wpAny (model prog w) A (pyIter xv) (fun it s₂ => LoopAtE prog w A h₀ env x body Q E it s₂) E s₁) E s)
    (hs : ∀ x, foldedSetIterable iter env x = pure x := by intro _; rfl)
    (hE : PassesOwn (model prog w) A env E := by passes_own) :
    wpAny (model prog w) A (exec (.For (.Name x px) iter body orelse pos) env) Q E s := by
  refine wpAny_For (wpAny_mono h (fun xv s₁ h₁ => wpAny_mono h₁ (fun it s₂ h₂ => ?_) fun _ _ e => e) fun _ _ e => e) hs
  obtain ⟨I, n, m, news, J, rfl, hh, hIL, hIn, hnw, hst, F, N, h0, step, hno⟩ := h₂
  have W := Walks.range (prog := prog) (w := w) hh I 0 1 n
  refine codeAny_forLoop
    (fun k s' => ∃ h' tk m' nx i, s' = { s₂ with heap := h', toks := tk } ∧ IsRangeIter h' I (0 + (i : Nat) * 1) ((n : Int) - (i : Nat)) 1 ∧ Fr h₀ env.locals h' m' ∧ News h₀ env.locals h' nx ∧ (∀ p ∈ nx, p.1 ≠ I) ∧ J i m' nx ∧ i ≤ n ∧ k = n + 1 - i) ?_ (n + 1)
    ⟨s₂.heap, s₂.toks, m, news, 0, rfl, by simpa using hst, F, N, hnw, h0, Nat.zero_le _, rfl⟩
  rintro k s' ⟨h', tk, m', nx, i, rfl, hst', F', N', hnw', hJ, hi, rfl⟩
  have old : ∀ b o, h₀.get? b = some o → b ≠ I := fun b o e hb => by rw [hb, hIn] at e; cases e
  by_cases hlt : i < n
  · refine W.item i _ _ _ hlt hst' fun v h₁ tk₁ hP hst₁ hk₁ => ?_
    have hk₂ : ∀ b o, b ≠ I → h'.get? b = some o → h₁.get? b = some o := fun b o hb e => hk₁ b o (fun hm => hb (List.mem_singleton.mp hm)) e
    have F₁ : Fr h₀ env.locals h₁ m' := ⟨F'.ns.at' fun o e => hk₂ _ o (Ne.symm hIL) e, fun b o e => hk₂ b o (old b o e) (F'.keep b o e), F'.above⟩
    have N₁ : News h₀ env.locals h₁ nx := fun p hp => ⟨hk₂ _ _ (hnw' p hp) (N' p hp).1, (N' p hp).2⟩
    obtain ⟨t, rfl⟩ : ∃ t, v = .int (i : Int) t := by
      obtain ⟨t, ht⟩ := hP
      exact ⟨t, by rw [ht]; congr 1; omega⟩
    refine wpAny_assign_Name (wpAny_storeName_local hx F₁.ns (fun h₂ hn₂ hs₂ => ?_) hp)
    have F₂ := F₁.set hn₂ hs₂
    have N₂ := N₁.set hs₂
    have hI₂ : ∃ o, h₂.get? I = some o ∧ IsRangeIter h₂ I (0 + ((i + 1 : Nat) : Nat) * 1) ((n : Int) - ((i + 1 : Nat) : Nat)) 1 := by
      have e := (hs₂.2 I hIL).trans hst₁
      exact ⟨_, e, e⟩
    obtain ⟨oI, hoI, hst₂⟩ := hI₂
    have Nown : News h₀ env.locals h₂ (nx ++ [(I, oI)]) := fun p hp => by
      rcases List.mem_append.mp hp with hp | hp
      · exact N₂ p hp
      · rw [List.mem_singleton.mp hp]; exact ⟨hoI, hIL, hIn⟩
    refine wpAny_passesOwn hE (wpAny_mono (step i t m' nx h₂ _ [(I, oI)] hlt (fun p hp q hq => by rw [List.mem_singleton.mp hp]; exact Ne.symm (hnw' q hq)) hJ F₂ Nown) (fun f s₃ q => ?_) fun _ _ e => e)
    have fin : TbEnd h₀ env.locals (J (i + 1)) [(I, oI)] { s₂ with heap := h₂, toks := tk₁ + 1 } s₃ → ∃ k', k' < n + 1 - i ∧ ∃ h' tk m' nx i, s₃ = { s₂ with heap := h', toks := tk } ∧ IsRangeIter h' I (0 + (i : Nat) * 1) ((n : Int) - (i : Nat)) 1 ∧ Fr h₀ env.locals h' m' ∧ News h₀ env.locals h' nx ∧ (∀ p ∈ nx, p.1 ≠ I) ∧ J i m' nx ∧ i ≤ n ∧ k' = n + 1 - i := by
      rintro ⟨h₄, tk₄, m₄, news₄, nx₄, rfl, F₄, N₄, hn₄, ho₄, hoff₄, hJ₄⟩
      refine ⟨n + 1 - (i + 1), by omega, h₄, tk₄, m₄, nx₄, i + 1, rfl, ?_, F₄, fun p hp => N₄ p (hn₄ p hp), fun p hp e => hoff₄ _ (.head _) p hp e.symm, hJ₄, hlt, rfl⟩
      have e4 := (N₄ _ (ho₄ _ (.head _))).1
      have e5 : h₄.get? I = h₂.get? I := e4.trans hoI.symm
      exact e5.trans hst₂
    cases f with
    | ret v => exact q
    | brk => exact q
    | next => exact fin q
    | cont => exact fin q
  · have hin : i = n := by omega
    subst hin
    exact absurd hJ (hno _ _)
end
end Mine
end
section
open PySem PySem.W PyProof.Rows PySem.Flt
namespace Mine
section
variable {prog : Program} {w : World} {A : Around} {E : Value → Shared → Prop} {s : Shared} {env : Env} {h₀ : Heap} {x : Str} {body : List Stmt} {Q : Flow → Shared → Prop}
theorem rangeE {r : Addr} {n : Nat} {t₀ u₀ v₀ : Tok} {m₀ : Str → Option Value} {news : List (Addr × Obj)} (J : Nat → (Str → Option Value) → List (Addr × Obj) → Prop)
    (hh : A.handled = none) (hr : IsRange s.heap r 0 (n : Int) 1 t₀ u₀ v₀) (hsm : (n : Int) < 2 ^ 62) (F : Fr h₀ env.locals s.heap m₀) (N : News h₀ env.locals s.heap news) (hj : J 0 m₀ news)
    (turn : ∀ i t m₁ nx h tk own, i < n → (∀ p ∈ own, ∀ q ∈ nx, p.1 ≠ q.1) → J i m₁ nx → Fr h₀ env.locals h (fun y => if y = x then some (.int (i : Int) t) else m₁ y) → News h₀ env.locals h (nx ++ own) →
      wpAny (model prog w) A (execs body env) (TbPost h₀ env.locals (J (i + 1)) own { s with heap := h, toks := tk } Q) E { s with heap := h, toks := tk })
    (hno : ∀ m' news', ¬ J n m' news') :
    wpAny (model prog w) A (pyIter (.ref r)) (fun it s₂ => LoopAtE prog w A h₀ env x body Q E it s₂) E s := by
  refine wpAny_pyIter_range hr (small_one (by omega) (by omega) (by omega) (by omega)) ?_
  have hn : Builtin.Range.rangeSize 0 (n : Int) 1 = (n : Int) := by rw [rangeSize_one]; split <;> omega
  refine ⟨s.heap.objs.size, n, m₀, news, J, rfl, hh, ?_, next_is_new F, ?_, ?_, F.push _, (fun p hp => ⟨Heap.get?_push_of_some _ (N p hp).1, (N p hp).2⟩), hj, ?_, hno⟩
  · exact fun e => absurd F.ns.lt (e ▸ Nat.lt_irrefl _)
  · exact fun p hp e => absurd (Heap.lt_size (N p hp).1) (e ▸ Nat.lt_irrefl _)
  · show IsRangeIter _ _ _ _ _
    rw [hn]
    exact Heap.get?_push_size _ rfl
  · exact fun i t m₁ nx h tk own hi hoff hJ F₁ N₁ => turn i t m₁ nx h tk own hi hoff hJ F₁ N₁
end
abbrev strObj (ws : List (Str × Tok)) (n : Nat) : Obj := listOf (ws.map fun c => Value.str c.1 c.2).toArray n
section
variable {prog : Program} {w : World} {A : Around} {E : Value → Shared → Prop} {s : Shared} {env : Env} {h₀ : Heap} {x : Str} {body : List Stmt} {Q : Flow → Shared → Prop}
def FlEnd (h₀ : Heap) (L nm : Addr) (news : List (Addr × Obj)) (word : Nat → Str) (fl i : Nat) (m₀ : Str → Option Value) (own : List (Addr × Obj)) (s₁ s₂ : Shared) : Prop :=
  ∃ h' tk' m' ws n tf, s₂ = { s₁ with heap := h', toks := tk' } ∧ Fr h₀ L h' m' ∧ News h₀ L h' ((nm, strObj ws n) :: (news ++ own)) ∧ ws.map (·.1) = (bitsTo fl (i + 1)).map word ∧
    m' (Str.ofString "flags") = some (.int (curr fl (i + 1) : Nat) tf) ∧ curr fl (i + 1) ≠ 0 ∧ ∀ z, z ≠ Str.ofString "i" → z ≠ Str.ofString "flags" → z ≠ Str.ofString "flag" → m' z = m₀ z
def FlPost (h₀ : Heap) (L nm : Addr) (news : List (Addr × Obj)) (word : Nat → Str) (fl i : Nat) (m₀ : Str → Option Value) (own : List (Addr × Obj)) (s₁ : Shared) (Q : Flow → Shared → Prop) (f : Flow) (s₂ : Shared) : Prop :=
  match f with
  | .next => FlEnd h₀ L nm news word fl i m₀ own s₁ s₂
  | .brk => Q .next s₂
  | _ => False
theorem flags_loop {r nm : Addr} {t₀ u₀ v₀ tf : Tok} {m₀ : Str → Option Value} {news : List (Addr × Obj)} (word : Nat → Str) (fl : Nat) (h0 : 0 < fl) (h32 : fl < 2 ^ 32)
    (hh : A.handled = none) (hr : IsRange s.heap r 0 32 1 t₀ u₀ v₀) (F : Fr h₀ env.locals s.heap m₀) (N : News h₀ env.locals s.heap ((nm, listOf #[] 0) :: news)) (hoff : ∀ p ∈ news, p.1 < nm) (hfl : m₀ (Str.ofString "flags") = some (.int (fl : Nat) tf))
    (turn : ∀ (i : Nat) t tf (u : Str → Option Value) ws n own h tk, i < 32 → ws.map (·.1) = (bitsTo fl i).map word → ws.length ≤ 32 → curr fl i ≠ 0 → (∀ p ∈ news ++ own, p.1 ≠ nm) →
      Fr h₀ env.locals h (fun y => if y = Str.ofString "i" then some (.int (i : Int) t) else if y = Str.ofString "flags" then some (.int (curr fl i : Nat) tf) else if y = Str.ofString "flag" then u y else m₀ y) →
      News h₀ env.locals h ((nm, strObj ws n) :: (news ++ own)) →
      wpAny (model prog w) A (execs body env) (FlPost h₀ env.locals nm news word fl i m₀ own { s with heap := h, toks := tk } Q) E { s with heap := h, toks := tk }) :
    wpAny (model prog w) A (pyIter (.ref r)) (fun it s₂ => LoopAtE prog w A h₀ env (Str.ofString "i") body Q E it s₂) E s := by
  refine rangeE (n := 32) (fun i m nx => ∃ ws n tf, nx = (nm, strObj ws n) :: news ∧ ws.map (·.1) = (bitsTo fl i).map word ∧ i ≤ 32 ∧ m (Str.ofString "flags") = some (.int (curr fl i : Nat) tf) ∧ curr fl i ≠ 0 ∧ ∀ z, z ≠ Str.ofString "i" → z ≠ Str.ofString "flags" → z ≠ Str.ofString "flag" → m z = m₀ z)
    hh hr (by decide) F N ⟨[], 0, tf, rfl, rfl, by decide, by rw [curr_zero]; exact hfl, by rw [curr_zero]; omega, fun _ _ _ _ => rfl⟩ ?_ ?_
  · rintro i t m₁ nx h tk own hi hown ⟨ws, n, tf', rfl, hw, hi32, hf, hne, hm⟩ F₁ N₁
    have e : (fun y => if y = Str.ofString "i" then some (Value.int (i : Int) t) else m₁ y) = fun y => if y = Str.ofString "i" then some (Value.int (i : Int) t) else if y = Str.ofString "flags" then some (.int (curr fl i : Nat) tf') else if y = Str.ofString "flag" then m₁ y else m₀ y := by
      funext y
      by_cases h1 : y = Str.ofString "i"
      · simp [h1]
      · simp only [if_neg h1]
        by_cases h2 : y = Str.ofString "flags"
        · simp [h2, hf]
        · simp only [if_neg h2]
          by_cases h3 : y = Str.ofString "flag"
          · simp [h3]
          · simp only [if_neg h3]; exact hm y h1 h2 h3
    rw [e] at F₁
    have hlen : ws.length ≤ 32 := by
      have h1 : ws.length = (bitsTo fl i).length := by simpa using congrArg List.length hw
      have h2 : (bitsTo fl i).length ≤ i := by
        unfold bitsTo
        exact Nat.le_trans (List.length_filter_le _ _) (by simp)
      omega
    have hne' : ∀ p ∈ news ++ own, p.1 ≠ nm := by
      intro p hp
      rcases List.mem_append.mp hp with hp | hp
      · exact Nat.ne_of_lt (hoff p hp)
      · exact hown p hp (nm, strObj ws n) (.head _)
    refine wpAny_mono (turn i t tf' m₁ ws n own h tk hi hw hlen hne hne' F₁ N₁) (fun f s₂ q => ?_) fun _ _ x => x
    cases f with
    | next =>
      obtain ⟨h', tk', m', ws', n', tf2, rfl, F', N', hw', hf', hne2, hm'⟩ := q
      refine ⟨h', tk', m', _, (nm, strObj ws' n') :: news, rfl, F', N', ?_, ?_, ?_, ws', n', tf2, rfl, hw', hi, hf', hne2, hm'⟩
      · intro p hp
        rcases List.mem_cons.mp hp with rfl | hp
        · exact .head _
        · exact .tail _ (List.mem_append_left _ hp)
      · exact fun p hp => .tail _ (List.mem_append_right _ hp)
      · intro p hp q hq
        rcases List.mem_cons.mp hq with rfl | hq
        · exact hown p hp (nm, strObj ws n) (.head _)
        · exact hown p hp q (.tail _ hq)
    | brk => exact q
    | cont => exact q.elim
    | ret v => exact q.elim
  · rintro m' news' ⟨ws, n, tf', _, _, _, _, hne, _⟩
    exact hne (curr_end h32)
end
section
variable {prog : Program} {w : World} {A : Around} {E : Value → Shared → Prop} {s : Shared} {Q : Value → Shared → Prop} {h₀ : Heap} {L : Addr} {m : Str → Option Value} {news : List (Addr × Obj)}
theorem shl_pw {i : Nat} {t u : Tok} (hi : i < 32) (h : ∀ t', Q (.int ((2 ^ i : Nat) : Int) t') { s with toks := s.toks + 1 }) : wpAny (model prog w) A (binaryOp .LShift (.int 1 t) (.int (i : Int) u)) Q E s := by
  refine lshift_int_small (by omega) (by omega) (by decide) ?_
  have e : (1 : Int) * 2 ^ (i : Int).toNat = ((2 ^ i : Nat) : Int) := by simp
  rw [e]
  exact h _
theorem hex_len {i : Nat} (hi : i < 32) : (baseText "0x" 16 ((2 ^ i : Nat) : Int)).length ≤ sizeLine := by
  refine baseText_under (by decide) (by decide) ?_
  have h1 : (2 : Nat) ^ i < 2 ^ 32 := Nat.pow_lt_pow_right (by decide) hi
  rw [Int.natAbs_natCast]
  exact Nat.lt_trans h1 (by decide)
abbrev flagD : List (Int × PyData) := [(1, PyData.str { cps := #[79, 80, 84, 73, 77, 73, 90, 69, 68] }), (2, PyData.str { cps := #[78, 69, 87, 76, 79, 67, 65, 76, 83] }), (4, PyData.str { cps := #[86, 65, 82, 65, 82, 71, 83] }),
  (8, PyData.str { cps := #[86, 65, 82, 75, 69, 89, 87, 79, 82, 68, 83] }), (16, PyData.str { cps := #[78, 69, 83, 84, 69, 68] }), (32, PyData.str { cps := #[71, 69, 78, 69, 82, 65, 84, 79, 82] }), (64, PyData.str { cps := #[78, 79, 70, 82, 69, 69] }),
  (128, PyData.str { cps := #[67, 79, 82, 79, 85, 84, 73, 78, 69] }), (256, PyData.str { cps := #[73, 84, 69, 82, 65, 66, 76, 69, 95, 67, 79, 82, 79, 85, 84, 73, 78, 69] }), (512, PyData.str { cps := #[65, 83, 89, 78, 67, 95, 71, 69, 78, 69, 82, 65, 84, 79, 82] })]
def wordOk (i : Nat) : Bool := match (KTD.datumAt (((2 ^ i : Nat) : Int)) flagD).getD (PyData.str (baseText "0x" 16 ((2 ^ i : Nat) : Int))) with
  | .str x => x == wordOf i
  | _ => false
theorem words_ok : ∀ i, i < 32 → wordOk i = true := by decide +kernel
theorem get_word {i : Nat} {tk t : Tok} (K : KTD.Keyed h₀ 56 flagD) (hk : ∀ b o, h₀.get? b = some o → s.heap.get? b = some o) (hi : i < 32) (h : ∀ t', Q (.str (wordOf i) t') { s with toks := s.toks + 1 }) :
    wpAny (model prog w) A (call (.builtin "dict.get") [.ref 56, .int ((2 ^ i : Nat) : Int) tk, .str (baseText "0x" 16 ((2 ^ i : Nat) : Int)) t]) Q E s :=
  call_get2_intTab (K.keep hk prog w) (PyProof.V.Flat.str _ t) fun v hv => by
    rw [KTD.lookup_keyed] at hv
    have hw := words_ok i hi
    unfold wordOk at hw
    generalize (KTD.datumAt (((2 ^ i : Nat) : Int)) flagD).getD (PyData.str (baseText "0x" 16 ((2 ^ i : Nat) : Int))) = d at hv hw
    cases d with
    | str x =>
      obtain ⟨t', rfl⟩ := PyProof.V.Flat.str_inv hv
      have e : x = wordOf i := eq_of_beq hw
      rw [e]
      exact h _
    | _ => cases hw
theorem append_word {nm : Addr} {n : Nat} {ws : List (Str × Tok)} {x : Str} {t : Tok} (F : Fr h₀ L s.heap m) (N : News h₀ L s.heap ((nm, strObj ws n) :: news)) (hoff : ∀ p ∈ news, p.1 ≠ nm) (hlen : ws.length ≤ 1000)
    (h : ∀ h', Fr h₀ L h' m → News h₀ L h' ((nm, strObj (ws ++ [(x, t)]) (n + 1)) :: news) → Q .none { s with heap := h' }) :
    wpAny (model prog w) A (call (.builtin "list.append") [.ref nm, .str x t]) Q E s := by
  refine append_K F N (Upd.head hoff) (fun h' F' N' => h h' F' ?_) (by rw [List.size_toArray, List.length_map, sizeLine_eq]; omega)
  have e : (ws.map fun c => Value.str c.1 c.2).toArray.push (Value.str x t) = ((ws ++ [(x, t)]).map fun c => Value.str c.1 c.2).toArray := by simp
  rwa [e] at N'
theorem strs_of (ws : List (Str × Tok)) : StrsAre (ws.map fun c => Value.str c.1 c.2) (ws.map (·.1)) := by
  induction ws with
  | nil => exact .nil
  | cons c r ih => exact .cons _ _ ih
/-- the text of places -/
def sayOf (ps : List Nat) : Str := Txt.join (Str.ofString ", ") (ps.map wordOf)
theorem word_len (i : Nat) : (wordOf i).length ≤ 18 := by
  by_cases h : i < 32
  · exact (by decide +kernel : ∀ i, i < 32 → (wordOf i).length ≤ 18) i h
  · unfold wordOf
    have : wordTab.getD i "" = "" := by
      rw [List.getD_eq_getElem?_getD, List.getElem?_eq_none (by show 32 ≤ i; omega)]
      rfl
    rw [this]
    decide
theorem sum_le (l : List Str) (h : ∀ a ∈ l, a.length ≤ 18) : (l.map (·.length)).sum ≤ 18 * l.length := by
  induction l with
  | nil => simp
  | cons a r ih =>
    have h1 := h a (.head _)
    have h2 := ih fun b hb => h b (.tail _ hb)
    simp only [List.map_cons, List.sum_cons, List.length_cons]
    omega
theorem join_words {nm : Addr} {n : Nat} {ws : List (Str × Tok)} {ps : List Nat} {t : Tok} (N : News h₀ L s.heap news) (hm : (nm, strObj ws n) ∈ news) (hw : ws.map (·.1) = ps.map wordOf) (hlen : ps.length ≤ 1000)
    (h : ∀ t' k, Q (.str (sayOf ps) t') { s with toks := k }) : wpAny (model prog w) A (call (.builtin "str.join") [.str (Str.ofString ", ") t, .ref nm]) Q E s := by
  have hl : s.heap.IsList nm (ws.map fun c => Value.str c.1 c.2).toArray := ⟨_, (N _ hm).1, rfl, n, rfl⟩
  refine join_list hl (ys := ps.map wordOf) (by rw [← hw]; exact strs_of ws) ?_ h
  have h1 := sum_le (ps.map wordOf) fun a ha => by obtain ⟨i, _, rfl⟩ := List.mem_map.mp ha; exact word_len i
  have h2 : (Str.ofString ", ").length = 2 := by decide
  rw [h2]
  rw [List.length_map] at *
  omega
end
end Mine
end
section
open PySem PySem.W PyProof.Rows PySem.Flt
namespace Mine
set_option maxRecDepth 100000 in
set_option maxHeartbeats 4000000 in
theorem flags_ctr {prog : Program} {w : World} {p : Program} {loose : List Str} {mean : ExcName → Option Value} {mg mb : Str → Option Value}
    {fl : Nat} {tf : Tok} {news : List (Addr × Obj)} (hF : 0 < fl) (hF2 : fl < 2 ^ 32)
    {dp un : Nat} {gd : Option (List Code)} {cn : Str} {cs : Scope} {a : Addr} {ccd : Value} {cl : List (Str × Addr)} {outer : List Env} {A₀ : Around} {base h₀ : Heap} {L : Addr} {m : Str → Option Value} {s : Shared} {Q E : Value → Shared → Prop}
    (B : Below A₀ base outer h₀) (F : Fr h₀ L s.heap m) (X : (hd.heap_39 w.params).In h₀) (N : News h₀ L s.heap news) (T : Top p loose mean mg mb h₀) (hk : cs.kind = .function)
    (hdp : dp + 3 < recursionLimit) (hun : un + 24 < cLine)
    (hret : ∀ t h' tk', Fr h₀ L h' m → News h₀ L h' news → Q (.str (sayOf (bitsTo fl 32)) t) { s with heap := h', toks := tk' }) :
    wpAny (model prog w) (ktrTop dp un gd cn cs L a ccd cl outer) (call (.ref 63) [.int (fl : Int) tf]) Q E s := by
  have hfill : PySem.Challenge.rw_rl0050_01 = PySem.Challenge.rw_rl0050_01 ∧ hd.heap_39 = hd.heap_39 := by
    k_fill
    exact ⟨rfl, rfl⟩
  clear hfill
  w_top off
  k_with_none
  k_with "exec For Name Call cons cons" => (k_here; (rename Fr _ _ _ _ => lF'); (with_unfolding_all refine' For_invE ⟨_, _, _, lF'⟩ ?k1 ?k2 ?_; (case k1 => exact rfl); (case k2 => exact rfl)); k_whole)
  k_with "pyIter ref" => (k_here; (rename IsRange _ _ _ _ _ _ _ _ => hR'); (rename Fr _ _ _ _ => lF'); (rename News _ _ _ _ => lN'); (with_unfolding_all refine' flags_loop wordOf fl hF hF2 rfl hR' lF' lN' ?off ?hfl ?turn); (case off => assumption); (case hfl => exact rfl); clear lF' lN'; intro i' t' tf' u' ws' n' own' h' tk' hi' hw' hlen' hne' hoff' F' N'; (try dsimp only); (try k_fold))
  k_with "FlPost" => (dsimp only [FlPost])
  k_with "binaryOp LShift int int" => ((refine shl_pw hi' ?_); intro t'; (try dsimp only))
  k_with "call builtin:hex" => ((refine P.hex_of_int ?_ (hex_len hi')); (try dsimp only))
  k_with "call builtin:dict.get" => ((refine' get_word ?k1 ?k2 hi' ?_; (case k1 => assumption); (case k2 => exact Fr.keep (by assumption))); intro t'; (try dsimp only))
  k_with "call builtin:list.append" => ((refine' append_word ?k1 ?k2 hoff' ?k3 ?_; (case k1 => assumption); (case k2 => assumption); (case k3 => omega)); intro h' F' N'; (try k_sweep))
  k_with "call builtin:str.join" => ((have hb' := bit_of_and (fl := fl) (i := i') (by assumption)); (refine' join_words (ps := bitsTo fl 32) ?k1 (.head _) ?k3 ?k4 ?_; (case k1 => assumption); (case k3 => (rw [← bitsTo_all (show curr fl (i' + 1) = 0 by (have hx9 := xor_curr hb'; omega)) hi', bitsTo_yes hb', List.map_append, List.map_append, hw']; rfl)); (case k4 => exact Nat.le_trans (List.length_filter_le _ _) (by simp))); intro t' tk'; (try dsimp only))
  refine wpAny_call ?_
  k_dflt ktr_enter
  k_steps
  all_goals first
    | (refine' hret _ _ _ ?e1 ?e2; (case e1 => assumption); (case e2 => exact kst_newsOf (by assumption) (fun p hp => .tail _ (List.mem_append_left _ hp))))
    | ((have hb9 := bit_of_and (fl := fl) (i := i') (by assumption)); (have hx9 := xor_curr hb9); (refine' ⟨_, _, _, ws' ++ [(wordOf i', _)], _, _, rfl, ?e1, ?e2, ?e3, ?e4, ?e5, ?e6⟩; (case e1 => assumption); (case e2 => assumption); (case e3 => (rw [bitsTo_yes hb9, List.map_append, List.map_append, hw']; rfl)); (case e4 => (rw [← hx9]; exact rfl)); (case e5 => (intro h9; rw [h9] at hx9; contradiction)); (case e6 => (intro z h1 h2 h3; simp [h1, h2, h3]))))
    | ((have hb9 := nobit_of_and (fl := fl) (i := i') (by assumption)); (refine' ⟨_, _, _, ws', _, _, rfl, ?e1, ?e2, ?e3, ?e4, ?e5, ?e6⟩; (case e1 => assumption); (case e2 => assumption); (case e3 => (rw [bitsTo_no hb9, hw'])); (case e4 => (rw [curr_same hb9]; exact rfl)); (case e5 => (rw [curr_same hb9]; exact hne')); (case e6 => (intro z h1 h2 h3; simp [h1, h2, h3]))))
end Mine
end
section
open PySem PySem.W PyProof.Rows PySem.Flt PyProof.V PySem.Spec
namespace Mine
section
variable {prog : Program} {w : World} {A : Around} {E : Value → Shared → Prop} {s : Shared} {env : Env} {h₀ : Heap} {x : Str} {body : List Stmt} {Q : Flow → Shared → Prop}
def WdPost (h₀ : Heap) (L wd : Addr) (rest : List (Addr × Obj)) (x : Str) (m₀ : Str → Option Value) (n : Int) (ws : List (Str × Tok)) (own : List (Addr × Obj)) (s₁ : Shared) (f : Flow) (s₂ : Shared) : Prop :=
  match f with
  | .next => ∃ h' tk' m' t k', s₂ = { s₁ with heap := h', toks := tk' } ∧ Fr h₀ L h' m' ∧ News h₀ L h' ((wd, strObj (ws ++ [(wordOf n.toNat, t)]) k') :: (rest ++ own)) ∧ ∀ z, z ≠ x → m' z = m₀ z
  | _ => False
theorem words_loop {l wd : Addr} {vs : List Value} {ns : List Int} {nn : Nat} {m₀ : Str → Option Value} {rest : List (Addr × Obj)}
    (hh : A.handled = none) (hl : (l, listOf vs.toArray nn) ∈ rest) (hi : IntsAre vs ns) (hoff : ∀ p ∈ rest, p.1 ≠ wd) (F : Fr h₀ env.locals s.heap m₀) (N : News h₀ env.locals s.heap ((wd, listOf #[] 0) :: rest))
    (turn : ∀ (i : Nat) n t ws k own h tk, ns[i]? = some n → ws.map (·.1) = (ns.take i).map (fun n => wordOf n.toNat) → ws.length = i → (∀ p ∈ rest ++ own, p.1 ≠ wd) →
      Fr h₀ env.locals h (fun y => if y = x then some (.int n t) else m₀ y) → News h₀ env.locals h ((wd, strObj ws k) :: (rest ++ own)) →
      wpAny (model prog w) A (execs body env) (WdPost h₀ env.locals wd rest x m₀ n ws own { s with heap := h, toks := tk }) E { s with heap := h, toks := tk })
    (done : ∀ (u : Str → Option Value) ws k h tk, ws.map (·.1) = ns.map (fun n => wordOf n.toNat) → Fr h₀ env.locals h (fun y => if y = x then u y else m₀ y) → News h₀ env.locals h ((wd, strObj ws k) :: rest) → Q .next { s with heap := h, toks := tk }) :
    wpAny (model prog w) A (pyIter (.ref l)) (fun it s₂ => LoopAtV prog w A h₀ env x body Q E it s₂) E s := by
  refine iter_invNL (fun i m nx => ∃ ws k, nx = (wd, strObj ws k) :: rest ∧ ws.map (·.1) = (ns.take i).map (fun n => wordOf n.toNat) ∧ ws.length = i ∧ ∀ z, z ≠ x → m z = m₀ z)
    hh (.tail _ hl) hi F N ⟨[], 0, rfl, rfl, rfl, fun _ _ => rfl⟩ ?_ ?_
  · rintro i n t m₁ nx h tk own hn hadr hown hmem ⟨ws, k, rfl, hw, hlen, hm⟩ F₁ N₁
    have e : (fun y => if y = x then some (Value.int n t) else m₁ y) = fun y => if y = x then some (Value.int n t) else m₀ y := by
      funext y
      by_cases h1 : y = x
      · simp [h1]
      · simp only [if_neg h1]; exact hm y h1
    rw [e] at F₁
    have hne' : ∀ p ∈ rest ++ own, p.1 ≠ wd := by
      intro p hp
      rcases List.mem_append.mp hp with hp | hp
      · exact hoff p hp
      · exact hown p hp wd (by simp)
    refine wpAny_mono (turn i n t ws k own h tk hn hw hlen hne' F₁ N₁) (fun f s₂ q => ?_) fun _ _ x => x
    cases f with
    | next =>
      obtain ⟨h', tk', m', t', k', rfl, F', N', hm'⟩ := q
      refine ⟨h', tk', m', _, (wd, strObj (ws ++ [(wordOf n.toNat, t')]) k') :: rest, rfl, F', N', ?_, ?_, rfl, .tail _ hl, ws ++ [(wordOf n.toNat, t')], k', rfl, ?_, ?_, hm'⟩
      · intro p hp
        rcases List.mem_cons.mp hp with rfl | hp
        · exact .head _
        · exact .tail _ (List.mem_append_left _ hp)
      · exact fun p hp => .tail _ (List.mem_append_right _ hp)
      · rw [List.map_append, hw, List.take_add_one, hn, List.map_append]
        rfl
      · rw [List.length_append, hlen]; rfl
    | brk => exact q.elim
    | cont => exact q.elim
    | ret v => exact q.elim
  · rintro m₁ nx h tk _ ⟨ws, k, rfl, hw, hlen, hm⟩ F₁ N₁
    rw [List.take_length] at hw
    refine done m₁ ws k h tk hw ?_ N₁
    have e : (fun y => if y = x then m₁ y else m₀ y) = m₁ := by
      funext y
      by_cases h1 : y = x
      · simp [h1]
      · simp only [if_neg h1]; exact (hm y h1).symm
    rw [e]; exact F₁
end
section
variable {prog : Program} {w : World} {A : Around} {E : Value → Shared → Prop} {s : Shared} {Q : Value → Shared → Prop} {h₀ : Heap} {L : Addr} {news : List (Addr × Obj)}
theorem iadd_lists {a b : Addr} {its its2 : List Value} {n n2 : Nat} {m : Str → Option Value} (F : Fr h₀ L s.heap m) (N : News h₀ L s.heap ((b, listOf its2.toArray n2) :: (a, listOf its.toArray n) :: news)) (hab : b ≠ a) (hoff : ∀ p ∈ news, p.1 ≠ a)
    (hz : its.length + its2.length < 1000) (hne : its2 ≠ [])
    (h : ∀ h', Fr h₀ L h' m → News h₀ L h' ((b, listOf its2.toArray n2) :: (a, listOf (its ++ its2).toArray (n + 1)) :: news) → Q (.ref a) { s with heap := h' }) :
    wpAny (model prog w) A (inplaceOp .Add (.ref a) (.ref b)) Q E s := by
  have zb := N (b, listOf its2.toArray n2) (.head _)
  have za := N (a, listOf its.toArray n) (.tail _ (.head _))
  have ta : s.TypeIs (.ref a) "list" := ⟨_, za.1, rfl⟩
  have tb : s.TypeIs (.ref b) "list" := ⟨_, zb.1, rfl⟩
  have hseq : seqSlot? (.type "list") (dunderI "add") = pure (some (.builtin "list.__iadd__")) := PySem.seqSlot_of PySem.F.slot_list_iadd.lookup (by decide +kernel)
  unfold inplaceOp
  refine wpAny_holding ?_
  have hfi : fillsInplaceSlot (.type "list") "add" (Operator.Add == .Add) = pure false := by
    unfold fillsInplaceSlot
    show (typeLookup (.type "list") (dunderI "add") >>= fun fi => pure (fi.isSome && !isSeqSlot fi)) = pure false
    rw [PySem.F.slot_list_iadd.lookup]
    show pure (true && !isSeqSlot (some (Value.builtin "list.__iadd__"))) = (pure false : Sem Bool)
    rw [show isSeqSlot (some (Value.builtin "list.__iadd__")) = true by decide +kernel]
    rfl
  refine wpAny_bind (wpAny_typeOf ta (wpAny_bind (wpAny_of_eq hfi ?_)))
  show wpAny _ A (if false = true then _ else _) Q E s
  rw [if_neg Bool.false_ne_true]
  refine wpAny_bind (PySem.wpAny_binaryOp1_none (nm := "add") ta tb noFill_list_add ?_)
  refine wpAny_bind (wpAny_of_eq hseq ?_)
  refine wpAny_bind (wpAny_rule ?_)
  have U : Upd a (listOf its.toArray n) (listOf (its ++ its2).toArray (n + 1)) ((b, listOf its2.toArray n2) :: (a, listOf its.toArray n) :: news) ((b, listOf its2.toArray n2) :: (a, listOf (its ++ its2).toArray (n + 1)) :: news) := .tail hab (.head hoff)
  refine call_meets PySem.F.slot_list_iadd ta PySem.F.entry_list_iadd (PySem.F.args_list_iadd_2 _ _) (PySem.AutoSeq1.list___iadd___list_list_0 a its.toArray n b its2.toArray n2 ?_ (by rw [List.size_toArray, sizeLine_eq]; omega) (by rw [List.size_toArray, List.size_toArray, sizeLine_eq]; omega)) ⟨za.1, zb.1, ?_⟩
  · have : Builtin.List.listTooLong (its.toArray.size + its2.toArray.size) = false := by
      unfold Builtin.List.listTooLong
      rw [List.size_toArray, List.size_toArray, sizeLine_eq]
      exact decide_eq_false (by omega)
    rw [this, Bool.and_false]
    exact Bool.false_ne_true
  · refine h _ (F.change (Heap.SameBut.update ..) za.2.1 za.2.2) ?_
    have k := kl_turn (pre := [(b, listOf its2.toArray n2)]) (post := news) (its' := (its ++ its2).toArray) (fun x => x ++ its2.toArray) N (fun p hp => by rw [List.mem_singleton.mp hp]; exact hab) hoff (by simp) (by
      rw [List.size_toArray, List.size_toArray, List.length_append]
      have : 0 < its2.length := List.length_pos_iff.mpr hne
      omega)
    exact k
/-- an item of the list of the first ten names -/
theorem item_name {its : List Value} {row : Addr} {n : Nat} {value slice : PySem.Expr} {i : Int} {u : Tok} (N : News h₀ L s.heap news) (hm : (row, listOf its.toArray n) ∈ news)
    (h0 : 0 ≤ i) (h1 : i < 10) (hits : ∀ k, k < 10 → ∃ t, its[k]? = some (.str (wordOf k) t)) (h : ∀ t, Q (.str (wordOf i.toNat) t) s)
    (hs : subscripted slice false (.ref row) (.int i u) = operate [.ref row, .int i u] (getItem (.ref row) (.int i u)) := by with_unfolding_all rfl) :
    wpAny (model prog w) A (subscriptTail value slice (.ref row) (.int i u)) Q E s := by
  have hl : s.heap.IsList row its.toArray := ⟨_, (N _ hm).1, rfl, n, rfl⟩
  obtain ⟨t, ht⟩ := hits i.toNat (by omega)
  exact tail_any hl.typeIs slot_list_getitem.lookup (wpAny_getItem_list hl h0 (by omega) (by simpa using ht) (h t)) hs
def hexOk (k : Nat) : Bool := (Str.ofString "0x" ++ Txt.item (Str.ofString "1248") (Int.fmod ((k + 10 : Nat) : Int) 4)) ++ Txt.mul (Str.ofString "0") (Int.fdiv ((k + 10 : Nat) : Int) 4) == wordOf (k + 10)
theorem hex_all : ∀ k, k < 22 → hexOk k = true := by decide +kernel
theorem hex_word {n : Int} (h10 : ¬ n < 10) (h32 : n < 32) : (Str.ofString "0x" ++ Txt.item (Str.ofString "1248") (Int.fmod n 4)) ++ Txt.mul (Str.ofString "0") (Int.fdiv n 4) = wordOf n.toNat := by
  have h := hex_all (n.toNat - 10) (by omega)
  unfold hexOk at h
  rw [show ((n.toNat - 10 + 10 : Nat) : Int) = n by omega, show n.toNat - 10 + 10 = n.toNat by omega] at h
  exact eq_of_beq h
theorem add_hexw {n : Int} {t u : Tok} (h10 : ¬ n < 10) (h32 : n < 32) (h : ∀ t' tk', Q (.str (wordOf n.toNat) t') { s with toks := tk' }) :
    wpAny (model prog w) A (binaryOp .Add (.str (Str.ofString "0x" ++ Txt.item (Str.ofString "1248") (Int.fmod n 4)) t) (.str (Txt.mul (Str.ofString "0") (Int.fdiv n 4)) u)) Q E s := by
  refine PyProof.Rows.add_str (by rw [hex_word h10 h32]; exact h) ?_
  rw [← Str.length_append, hex_word h10 h32, sizeLine_eq]
  exact Nat.le_trans (word_len _) (by decide)
theorem ten_names {its : List Value} (h0 : ∃ t, its[0]? = some (.str (wordOf 0) t)) (h1 : ∃ t, its[1]? = some (.str (wordOf 1) t)) (h2 : ∃ t, its[2]? = some (.str (wordOf 2) t)) (h3 : ∃ t, its[3]? = some (.str (wordOf 3) t)) (h4 : ∃ t, its[4]? = some (.str (wordOf 4) t))
    (h5 : ∃ t, its[5]? = some (.str (wordOf 5) t)) (h6 : ∃ t, its[6]? = some (.str (wordOf 6) t)) (h7 : ∃ t, its[7]? = some (.str (wordOf 7) t)) (h8 : ∃ t, its[8]? = some (.str (wordOf 8) t)) (h9 : ∃ t, its[9]? = some (.str (wordOf 9) t)) :
    ∀ k, k < 10 → ∃ t, its[k]? = some (.str (wordOf k) t) := by
  intro k hk
  rcases (by omega : k = 0 ∨ k = 1 ∨ k = 2 ∨ k = 3 ∨ k = 4 ∨ k = 5 ∨ k = 6 ∨ k = 7 ∨ k = 8 ∨ k = 9) with rfl | rfl | rfl | rfl | rfl | rfl | rfl | rfl | rfl | rfl <;> assumption
end
end Mine
end
section
open PySem PySem.W PyProof.Rows PySem.Flt
namespace Mine
set_option maxRecDepth 100000 in
set_option maxHeartbeats 4000000 in
theorem words_ctr {prog : Program} {w : World} {p : Program} {loose : List Str} {mean : ExcName → Option Value} {mg mb : Str → Option Value}
    {pl : Addr} {kn : Nat} {vs : List Value} {ns : List Int} {news : List (Addr × Obj)} (hpl : (pl, listOf vs.toArray kn) ∈ news) (hI : IntsAre vs ns) (hns : ∀ n ∈ ns, 0 ≤ n ∧ n < 32) (hlen : ns.length ≤ 100)
    {dp un : Nat} {gd : Option (List Code)} {cn : Str} {cs : Scope} {a : Addr} {ccd : Value} {cl : List (Str × Addr)} {outer : List Env} {A₀ : Around} {base h₀ : Heap} {L : Addr} {m : Str → Option Value} {s : Shared} {Q E : Value → Shared → Prop}
    (B : Below A₀ base outer h₀) (F : Fr h₀ L s.heap m) (X : (hd.heap_39 w.params).In h₀) (N : News h₀ L s.heap news) (T : Top p loose mean mg mb h₀) (hk : cs.kind = .function)
    (hdp : dp + 3 < recursionLimit) (hun : un + 24 < cLine)
    (hret : ∀ t h' tk', Fr h₀ L h' m → News h₀ L h' news → Q (.str (sayOf (ns.map Int.toNat)) t) { s with heap := h', toks := tk' }) :
    wpAny (model prog w) (ktrTop dp un gd cn cs L a ccd cl outer) (call (.ref 96) [.ref pl]) Q E s := by
  have hfill : PySem.Challenge.rw_rl0050_01 = PySem.Challenge.rw_rl0050_01 ∧ hd.heap_39 = hd.heap_39 := by
    k_fill
    exact ⟨rfl, rfl⟩
  clear hfill
  w_top off
  k_with_none
  k_with "inplaceOp Add ref" => ((refine' iadd_lists ?k1 ?k2 ?k3 ?k4 ?k5 ?k6 ?_; (case k1 => assumption); (case k2 => assumption); (case k3 => (rename _ ∧ AllLt _ _ => l9; exact Nat.ne_of_gt l9.1)); (case k4 => (rename (∀ (q : Addr × Obj), q ∈ news → q.1 < _) => l9; exact fun p hp => Nat.ne_of_lt (l9 p hp))); (case k5 => (simp only [List.length_cons, List.length_nil]; decide)); (case k6 => exact List.cons_ne_nil _ _)); intro h' F' N'; (try dsimp only [List.cons_append, List.nil_append] at N'); (try k_sweep))
  k_with "pyIter ref" => (k_here; (rename Fr _ _ _ _ => lF'); (rename News _ _ _ _ => lN'); (with_unfolding_all refine' words_loop (l := pl) rfl ?hl hI ?off lF' lN' ?turn ?done); (case hl => exact .tail _ (.tail _ hpl)); (case off => (rename (_ ∧ _ ∧ AllLt _ _) => l9; exact fun p hp => Nat.ne_of_lt (ktn_ltOf (l := _ :: _ :: _) ⟨l9.1, l9.2.1, l9.2.2⟩ p hp))); (case' turn => (clear lF' lN'; intro i' n' t' ws' k' own' h' tk' hn' hw' hlen' hoff' F' N'; (have hb' := hns _ (List.mem_of_getElem? hn')); (have hb2' : i' < ns.length := (List.getElem?_eq_some_iff.mp hn').1); (try dsimp only); (try k_fold))); (case' done => (clear lF' lN'; intro u' ws' k' h' tk' hw' F' N'; (try dsimp only); (try k_fold))))
  k_with "call builtin:list.append" => ((refine' append_word ?k1 ?k2 hoff' ?k3 ?_; (case k1 => assumption); (case k2 => assumption); (case k3 => omega)); intro h' F' N'; (try k_sweep))
  k_with "call builtin:str.join" => ((refine' join_words (ps := ns.map Int.toNat) ?k1 (.head _) ?k3 ?k4 ?_; (case k1 => assumption); (case k3 => (rw [hw', List.map_map]; rfl)); (case k4 => (rw [List.length_map]; omega))); intro t' tk'; (try dsimp only))
  k_with "subscriptTail" => (k_here; (with_reducible show wpAny _ _ (subscriptTail _ _ (Value.ref _) (Value.int n' _)) _ _ _); k_dflt (refine' item_name ?k1 (.tail _ (.tail _ (.head _))) ?k3 ?k4 ?k5 ?_; (case k1 => k_asm); (case k3 => omega); (case k4 => omega); (case k5 => exact ten_names ⟨_, rfl⟩ ⟨_, rfl⟩ ⟨_, rfl⟩ ⟨_, rfl⟩ ⟨_, rfl⟩ ⟨_, rfl⟩ ⟨_, rfl⟩ ⟨_, rfl⟩ ⟨_, rfl⟩ ⟨_, rfl⟩)); intro t'; (try dsimp only))
  k_with "binaryOp Add str str" => ((refine add_hexw (by assumption) hb'.2 ?_); intro t' tk'; (try dsimp only))
  refine wpAny_call ?_
  k_dflt ktr_enter
  k_steps
  all_goals first
    | (refine' hret _ _ _ ?e1 ?e2; (case e1 => assumption); (case e2 => exact kst_newsOf (by assumption) (fun p hp => .tail _ (.tail _ (.tail _ hp)))))
    | (refine' ⟨_, _, _, _, _, rfl, ?e1, ?e2, ?e3⟩; (case e1 => assumption); (case e2 => assumption); (case e3 => (intro z h1; simp [h1])))
end Mine
end
section
open PySem PySem.W PyProof.Rows PySem.Flt PyProof.V PySem.Spec PySem.Calls
namespace Mine
theorem off1_ne {D : Addr} : ∀ {l : List (Addr × Obj)}, LCg.Off1 D l → ∀ p ∈ l, p.1 ≠ D
  | [], _, _, h => nomatch h
  | _ :: _, x, p, h => by
    rcases List.mem_cons.mp h with rfl | h
    · exact x.1
    · exact off1_ne x.2 p h
/-- a turn's end -/
def CtEnd (h₀ : Heap) (L : Addr) (m : Str → Option Value) (s : Shared) (led : List (Addr × Obj)) (R : Value → Prop) (y : Value) (s₂ : Shared) : Prop :=
  ∃ h' tk', s₂ = { s with heap := h', toks := tk' } ∧ Fr h₀ L h' m ∧ News h₀ L h' led ∧ R y
section
variable {prog : Program} {w : World} {A : Around} {h₀ : Heap} {L : Addr} {m : Str → Option Value} {env : Env} {elt : PySem.Expr} {x : Str} {scope : Scope} {cl : List (Str × Addr)} {s : Shared} {S : List (Addr × Obj) → Prop} {P : Nat → Value → Prop} {Fin : List Value → List (Addr × Obj) → Prop} {news : List (Addr × Obj)}
/-- a comprehension whose turns leave the ledger as it was: the items told one by one -/
theorem comp_rest {α : Type} {n : Nat} {ks : List α} (Src : α → Value → Prop) (Rel : α → Value → Prop) (hks : ks.length = n) (hP : ∀ i v, i < n → P i v → ∃ k, ks[i]? = some k ∧ Src k v) (hS : S news)
    (turn : ∀ k v I oI C oC D m₂ ys h tk (E' : Value → Shared → Prop), k ∈ ks → Src k v → LCg.NsObj oC m₂ → m₂ x = some v → Fr h₀ L h m → News h₀ L h ((I, oI) :: (C, oC) :: (D, LCg.lst ys) :: news) → LCg.Off3 I C D news → ((@Ne Nat I C) ∧ (@Ne Nat I D) ∧ (@Ne Nat C D)) →
      wpAny (model prog w) A (eval elt (compEnvC scope cl C env)) (CtEnd h₀ L m s ((I, oI) :: (C, oC) :: (D, LCg.lst ys) :: news) (Rel k)) E' { s with heap := h, toks := tk })
    (fin : ∀ zs : List (α × Value), zs.map (·.1) = ks → (∀ z ∈ zs, Rel z.1 z.2) → Fin (zs.map (·.2)) news) : LCg.CompRest prog w A h₀ L m env elt x scope cl s S P Fin n 0 [] news := by
  have key : ∀ (j i : Nat) (zs : List (α × Value)), i + j = n → zs.map (·.1) = ks.take i → (∀ z ∈ zs, Rel z.1 z.2) → LCg.CompRest prog w A h₀ L m env elt x scope cl s S P Fin j i (zs.map (·.2)) news := by
    intro j
    induction j with
    | zero =>
      intro i zs hi hz hr
      have e : i = ks.length := by omega
      subst e
      rw [List.take_length] at hz
      exact LCg.CompRest.zero (fin zs hz hr)
    | succ j ih =>
      intro i zs hi hz hr
      refine LCg.CompRest.succ ?_
      intro v I oI C oC D m₂ h tk E' hv hC hx F N off ne
      obtain ⟨k, hk, hv'⟩ := hP i v (by omega) hv
      refine wpAny_mono (turn k v I oI C oC D m₂ _ h tk E' (List.mem_of_getElem? hk) hv' hC hx F N off ne) (fun y s₂ hq => ?_) fun _ _ e => e
      obtain ⟨h', tk', e, F', N', hy⟩ := hq
      refine ⟨h', tk', news, e, F', N', off, hS, ?_⟩
      have := ih (i + 1) (zs ++ [(k, y)]) (by omega) (by rw [List.map_append, hz, List.take_add_one, hk]; rfl) (by
        intro z hz'
        rcases List.mem_append.mp hz' with hz' | hz'
        · exact hr z hz'
        · rw [List.mem_singleton.mp hz']; exact hy)
      rwa [List.map_append] at this
  exact key n 0 [] (by omega) (by simp) (fun _ h => nomatch h)
end
end Mine
end
section
open PySem PySem.W PyProof.Rows
namespace Mine
theorem runs_toks {M : Model} {Γ : Ctx} {p : Pos} {t : Sem Fin} {fs : List Frame} {s : Shared} {e : End} {s' : Shared} (h : Runs M Γ p t fs s e s') : s.toks ≤ s'.toks := by
  induction h with
  | fresh _ ih => exact Nat.le_of_succ_le ih
  | _ => first | exact Nat.le_refl _ | assumption | (exact Nat.le_trans (by assumption) (by assumption))
theorem wakes_toks {M : Model} {Γ : Ctx} {p : Pos} {g : Nat} {r : Resume} {s : Shared} {res : GenResult} {s' : Shared} (h : Wakes M Γ p g r s res s') : s.toks ≤ s'.toks := by
  unfold Wakes at h
  split at h
  · exact h.elim
  · split at h
    · obtain ⟨e, s₁, hr, _, _, rfl⟩ := h
      have := runs_toks hr
      exact this
    · exact h.2 ▸ Nat.le_refl _
    · exact h.2 ▸ Nat.le_refl _
  · obtain ⟨e, s₁, hr, _, _, rfl⟩ := h
    have := runs_toks hr
    exact this
  all_goals exact h.2 ▸ Nat.le_refl _
theorem wp_toks {α : Type} {M : Model} {Γ : Ctx} : ∀ (t : Sem α) {Q : α → Pos → Shared → Prop} {E : Value → Pos → Shared → Prop} {p : Pos} {s : Shared},
    Sem.wp M Γ t Q E p s → ∀ n, n ≤ s.toks → Sem.wp M Γ t (fun a p s' => n ≤ s'.toks ∧ Q a p s') E p s := by
  intro t
  induction t with
  | pure a => intro Q E p s h n hn; exact ⟨hn, h⟩
  | raise e => intro Q E p s h n hn; exact h
  | unsupported _ => intro Q E p s h n hn; exact h
  | finish _ => intro Q E p s h n hn; exact h
  | rule _ k ih => intro Q E p s h n hn; exact ih _ h n hn
  | «at» _ k ih => intro Q E p s h n hn; exact ih _ h n hn
  | load a _ k ih => intro Q E p s h n hn; obtain ⟨o, ho, h⟩ := h; exact ⟨o, ho, ih _ h n hn⟩
  | update a _ f k ih => intro Q E p s h n hn; exact ⟨h.1, ih _ h.2 n hn⟩
  | alloc o k ih => intro Q E p s h n hn; exact ih _ h n hn
  | loadIfAlive a k ih => intro Q E p s h n hn; exact ih _ h n hn
  | point l k ih => intro Q E p s h n hn; exact ih _ h n hn
  | register a k ih => intro Q E p s h n hn; exact h
  | fresh k ih => intro Q E p s h n hn; exact ih _ h n (Nat.le_succ_of_le hn)
  | ask k ih => intro Q E p s h n hn; exact ih _ h n hn
  | choose src m k ih => intro Q E p s h n hn; exact ⟨h.1, ih _ h.2 n hn⟩
  | os q l k ih => intro Q E p s h n hn; exact ih _ h n hn
  | call c hd g l k ih =>
    intro Q E p s h n hn
    obtain ⟨r, s', hr, h⟩ := h
    exact ⟨r, s', hr, ih _ h n (Nat.le_trans hn (runs_toks hr))⟩
  | handled o k ih => intro Q E p s h n hn; exact ih _ h n hn
  | genState g k ih => intro Q E p s h n hn; obtain ⟨o, ho, h⟩ := h; exact ⟨o, ho, ih _ h n hn⟩
  | newGen c k ih => intro Q E p s h n hn; exact ih _ h n hn
  | resume g r l k ih =>
    intro Q E p s h n hn
    obtain ⟨r, s', hr, h⟩ := h
    exact ⟨r, s', hr, ih _ h n (Nat.le_trans hn (wakes_toks hr))⟩
  | yield v g l k ih => intro Q E p s h n hn; exact h
  | stack k ih => intro Q E p s h n hn; exact ih _ h n hn
  | fork c k ih => intro Q E p s h n hn; exact h
  | thread k ih => intro Q E p s h n hn; exact ih _ h n hn
  | await a t d l k ih => intro Q E p s h n hn; exact h
/-- the tokens drawn are never fewer behind a tree -/
theorem wpAny_toks {α : Type} {M : Model} {A : Around} {t : Sem α} {Q : α → Shared → Prop} {E : Value → Shared → Prop} {s : Shared} (h : wpAny M A t (fun a s' => s.toks ≤ s'.toks → Q a s') E s) : wpAny M A t Q E s :=
  fun Γ p hΓ => Sem.wp_mono M Γ t (fun _ _ _ x => x.2 x.1) (fun _ _ _ x => x) p s (wp_toks t (h Γ p hΓ) _ (Nat.le_refl _))
end Mine
end
section
open PySem PySem.W PyProof.Rows PySem.Flt PyProof.V PySem.Spec PySem.Calls
namespace Mine
/-- the loop of a comprehension whose target is kept at X, whatever X is -/
theorem loopG {α : Type} {prog : Program} {w : World} {A : Around} {h₀ : Heap} {L : Addr} {m : Str → Option Value} {env' : Env} {elt iter : PySem.Expr} {x : Str} {px pos : Pos} {scope : Scope} {s : Shared} {I : Addr} {fp : List Addr} {n : Nat} {P : Nat → Value → Prop} {St : Nat → Heap → Prop} {news : List (Addr × Obj)} {ks : List α}
    {X D : Addr} {Any : Obj → Prop} {Tk : Nat → Prop} {Own : Obj → Value → Prop} {Src Rel : α → Value → Prop} {RR : Result → Shared → Prop}
    (W : Walks prog w A I fp [I] n P St) (hsz : n ≤ sizeLine) (hIo : ∀ i h, St i h → ∃ o, h.get? I = some o)
    (hSt : ∀ i h h' o, St i h → h.get? I = some o → h'.get? I = some o → (∀ b o, h₀.get? b = some o → h'.get? b = some o) → News h₀ L h' news → St i h')
    (hks : ks.length = n) (hP : ∀ i v, i < n → P i v → ∃ k, ks[i]? = some k ∧ Src k v)
    (store : ∀ (s' : Shared) (v : Value) (Q : Unit → Shared → Prop) (E : Value → Shared → Prop), (∃ o, s'.heap.get? X = some o ∧ Any o) →
      (∀ h' tk, Tk tk → Heap.SameBut X s'.heap h' → (∃ o, h'.get? X = some o ∧ Any o ∧ Own o v) → Q () { s' with heap := h', toks := tk }) → wpAny (model prog w) A (assign (.Name x px) env' v) Q E s')
    (hst : St 0 s.heap) (hDf : D ∉ fp) (hXf : X ∉ fp) (F : Fr h₀ L s.heap m) (N : News h₀ L s.heap ((D, LCg.lst []) :: news)) (hX : ∃ o, s.heap.get? X = some o ∧ Any o)
    (hIL : L ≠ I) (hI₀ : h₀.get? I = none) (hXL : X ≠ L) (hX₀ : h₀.get? X = none) (hIX : I ≠ X) (hID : I ≠ D) (hXD : X ≠ D) (offI : ∀ p ∈ news, p.1 ≠ I) (offX : ∀ p ∈ news, p.1 ≠ X) (offD : ∀ p ∈ news, p.1 ≠ D)
    (turn : ∀ k v oI oX ys h tk (E' : Value → Shared → Prop), k ∈ ks → Src k v → Own oX v → Tk tk → Fr h₀ L h m → News h₀ L h ((I, oI) :: (X, oX) :: (D, LCg.lst ys) :: news) →
      wpAny (model prog w) A (eval elt env') (CtEnd h₀ L m s ((I, oI) :: (X, oX) :: (D, LCg.lst ys) :: news) (Rel k)) E' { s with heap := h, toks := tk })
    (hAny : ∀ o v, Own o v → Any o)
    (done : ∀ h tk (zs : List (α × Value)), zs.map (·.1) = ks → (∀ z ∈ zs, Rel z.1 z.2) → s.toks ≤ tk → Fr h₀ L h m → News h₀ L h ((D, LCg.lst (zs.map (·.2))) :: news) → (∃ o, h.get? X = some o ∧ Any o) → RR (.ok .next) { s with heap := h, toks := tk }) :
    codeAny (model prog w) A (.compStart (.ListComp elt [⟨.Name x px, iter, [], 0⟩] scope pos) 0 (.ref I) (.ref D) env') RR s := by
  have hIf : I ∈ fp := W.sub I (List.mem_singleton.mpr rfl)
  have loop : codeAny (model prog w) A (.compLoop (.ListComp elt [⟨.Name x px, iter, [], 0⟩] scope pos) 0 (.ref I) (.ref D) env') RR s := by
    refine codeAny_compLoop_tests
      (fun k s' => ∃ h' tk i, ∃ zs : List (α × Value), s' = { s with heap := h', toks := tk } ∧ i ≤ n ∧ k = n + 1 - i ∧ zs.map (·.1) = ks.take i ∧ (∀ z ∈ zs, Rel z.1 z.2) ∧ s.toks ≤ tk ∧ St i h' ∧ Fr h₀ L h' m ∧ (∃ o, h'.get? X = some o ∧ Any o) ∧ News h₀ L h' ((D, LCg.lst (zs.map (·.2))) :: news)) ?_ (n + 1)
      ⟨s.heap, s.toks, 0, [], rfl, Nat.zero_le _, rfl, rfl, (by intro z hz; cases hz), Nat.le_refl _, hst, F, hX, N⟩
    rintro k s' ⟨h', tk, i, zs, rfl, hi, rfl, hz, hr, htk, hst', F', hX', N'⟩
    by_cases hlt : i < n
    · refine wpAny_toks (W.item i _ _ _ hlt hst' fun v h₂ tk₂ hPv hst₂ hk₂ hle₂ => ?_)
      have hle₂ : tk ≤ tk₂ := hle₂
      obtain ⟨oX, heX, hoX⟩ := hX'
      obtain ⟨kk, hkk, hsrc⟩ := hP i v hlt hPv
      refine wpAny_toks (store _ v _ _ ⟨oX, hk₂ _ _ (by simpa using Ne.symm hIX) heX, hoX⟩ fun h₃ tk₃ hT₃ hs₃ hX₃ hle₃ => ?_)
      have hle₃ : tk₂ ≤ tk₃ := hle₃
      refine wpAny_tests_nil ?_
      simp only [if_true]
      obtain ⟨oX₃, heX₃, _, hown⟩ := hX₃
      have hst₃ : St (i + 1) h₃ := W.frame _ _ _ hst₂ fun b hb o e => hs₃.extBut b o (fun q => hXf (by have q' : b = X := q; rw [← q']; exact hb)) e
      obtain ⟨oI, heI⟩ := hIo _ _ hst₃
      have F₃ : Fr h₀ L h₃ m := (LCg.fr_but F' hk₂ hIL hI₀).change hs₃ hXL hX₀
      have N₂ : News h₀ L h₂ ((D, LCg.lst (zs.map (·.2))) :: news) := LCg.news_but N' hk₂ fun p hp => by
        rcases List.mem_cons.mp hp with rfl | hp
        · exact Ne.symm hID
        · exact offI p hp
      have N₃ : News h₀ L h₃ ((I, oI) :: (X, oX₃) :: (D, LCg.lst (zs.map (·.2))) :: news) := fun p hp => by
        rcases List.mem_cons.mp hp with rfl | hp
        · exact ⟨heI, Ne.symm hIL, hI₀⟩
        · rcases List.mem_cons.mp hp with rfl | hp
          · exact ⟨heX₃, hXL, hX₀⟩
          · have z := N₂ p hp
            refine ⟨hs₃.extBut _ _ ?_ z.1, z.2⟩
            rcases List.mem_cons.mp hp with rfl | hp
            · exact Ne.symm hXD
            · exact offX p hp
      refine wpAny_toks (wpAny_mono (turn kk v oI oX₃ _ h₃ tk₃ _ (List.mem_of_getElem? hkk) hsrc hown hT₃ F₃ N₃) (fun y s₄ h₄ hle₄ => ?_) fun _ _ e => e)
      obtain ⟨h₄, tk₄, rfl, F₄, N₄, hy⟩ := h₄
      have hle₄ : tk₃ ≤ tk₄ := hle₄
      have zI := (N₄ (I, oI) List.mem_cons_self).1
      have zX := (N₄ (X, oX₃) (List.mem_cons_of_mem _ List.mem_cons_self)).1
      have zD := N₄ (D, LCg.lst (zs.map (·.2))) (List.mem_cons_of_mem _ (List.mem_cons_of_mem _ List.mem_cons_self))
      have N₄' : News h₀ L h₄ news := fun p hp => N₄ p (List.mem_cons_of_mem _ (List.mem_cons_of_mem _ (List.mem_cons_of_mem _ hp)))
      have hst₄ : St (i + 1) h₄ := hSt _ _ _ _ hst₃ heI zI F₄.keep N₄'
      have hzl : zs.length = i := by rw [← List.length_map (f := (·.1)), hz, List.length_take]; omega
      refine wpAny_toks (append_at (hsz := by rw [List.size_toArray, List.length_map, hzl]; exact Nat.le_trans hi hsz) zD.1 fun h₅ hs₅ hD₅ hle₅ => ?_)
      refine ⟨n + 1 - (i + 1), by omega, h₅, tk₄, i + 1, zs ++ [(kk, y)], rfl, hlt, rfl, by rw [List.map_append, hz, List.take_add_one, hkk]; rfl, ?_, by omega,
        W.frame _ _ _ hst₄ fun b hb o e => hs₅.extBut b o (fun q => hDf (by have q' : b = D := q; rw [← q']; exact hb)) e, F₄.change hs₅ zD.2.1 zD.2.2, ⟨oX₃, hs₅.extBut _ _ hXD zX, hAny _ _ hown⟩, fun p hp => ?_⟩
      · intro z hz'
        rcases List.mem_append.mp hz' with hz' | hz'
        · exact hr z hz'
        · rw [List.mem_singleton.mp hz']; exact hy
      · rcases List.mem_cons.mp hp with rfl | hp
        · refine ⟨?_, zD.2.1, zD.2.2⟩
          rw [List.map_append]
          exact hD₅.trans (congrArg some (LCg.lst_snoc _ y))
        · exact ⟨hs₅.extBut _ _ (offD p hp) (N₄' p hp).1, (N₄' p hp).2⟩
    · obtain rfl : i = n := Nat.le_antisymm hi (Nat.not_lt.mp hlt)
      refine wpAny_toks (W.done _ _ _ hst' fun h₂ tk₂ hk₂ hle₂ => ?_)
      have hle₂ : tk ≤ tk₂ := hle₂
      obtain ⟨oX, heX, hoX⟩ := hX'
      exact done h₂ tk₂ zs (by rw [hz, ← hks, List.take_length]) hr (by omega) (LCg.fr_but F' hk₂ hIL hI₀) (LCg.news_but N' hk₂ fun p hp => by
        rcases List.mem_cons.mp hp with rfl | hp
        · exact Ne.symm hID
        · exact offI p hp) ⟨oX, hk₂ _ _ (by simpa using Ne.symm hIX) heX, hoX⟩
  exact codeAny_compStart_list loop (W.self 0 _ _ _ hst loop)
section
variable {prog : Program} {w : World} {A : Around} {E : Value → Shared → Prop} {s : Shared} {h₀ : Heap} {L : Addr} {m : Str → Option Value} {env : Env}
theorem off1_all {D : Addr} : ∀ {l : List (Addr × Obj)}, (∀ p ∈ l, p.1 ≠ D) → LCg.Off1 D l
  | [], _ => trivial
  | q :: r, h => ⟨h q (.head _), off1_all fun p hp => h p (.tail _ hp)⟩
/-- the block of a comprehension whose target is a name of its own -/
theorem block_L {α : Type} {elt iter : PySem.Expr} {x : Str} {px : Pos} {scope : Scope} {cl : List (Str × Addr)} {pos : Pos} {s₂ : Shared} {I : Addr} {fp : List Addr} {n : Nat} {P : Nat → Value → Prop} {St : Nat → Heap → Prop} {news : List (Addr × Obj)} {ks : List α} {Src Rel : α → Value → Prop} {Q : Value → Shared → Prop}
    (W : Walks prog w A I fp [I] n P St) (hsz : n ≤ sizeLine) (hIo : ∀ i h, St i h → ∃ o, h.get? I = some o)
    (hSt : ∀ i h h' o, St i h → h.get? I = some o → h'.get? I = some o → (∀ b o, h₀.get? b = some o → h'.get? b = some o) → News h₀ L h' news → St i h')
    (hks : ks.length = n) (hP : ∀ i v, i < n → P i v → ∃ k, ks[i]? = some k ∧ Src k v)
    (hcell : ∀ y ∈ scope.names, y.2 ≠ .cell) (hkind : scope.kind = .function) (hx : scope.names.lookup x = some .local) (hst : St 0 s₂.heap) (hfp : ∀ b ∈ fp, b < s₂.heap.objs.size)
    (F : Fr h₀ L s₂.heap m) (N : News h₀ L s₂.heap news) (hIL : L ≠ I) (hI₀ : h₀.get? I = none) (off : ∀ p ∈ news, p.1 ≠ I)
    (turn : ∀ k v I oI C oC D m₂ ys h tk (E' : Value → Shared → Prop), k ∈ ks → Src k v → LCg.NsObj oC m₂ → m₂ x = some v → 0 < tk → Fr h₀ L h m → News h₀ L h ((I, oI) :: (C, oC) :: (D, LCg.lst ys) :: news) →
      wpAny (model prog w) A (eval elt (compEnvC scope cl C env)) (CtEnd h₀ L m s₂ ((I, oI) :: (C, oC) :: (D, LCg.lst ys) :: news) (Rel k)) E' { s₂ with heap := h, toks := tk })
    (fin : ∀ zs : List (α × Value), zs.map (·.1) = ks → (∀ z ∈ zs, Rel z.1 z.2) → ∀ D h tk, Fr h₀ L h m → News h₀ L h ((D, LCg.lst (zs.map (·.2))) :: news) → LCg.Off1 D news → Q (.ref D) { s₂ with heap := h, toks := tk }) :
    wpAny (model prog w) A (newList []) (fun acc s₃ => wpAny (model prog w) A (newFunctionEnv scope env.globals cl [] env.qual none .none (some env)) (fun cenv s₄ =>
      codeAny (model prog w) A (.compStart (.ListComp elt [⟨.Name x px, iter, [], 0⟩] scope pos) 0 (.ref I) acc { cenv with scope := relabel scope env }) (compPost (model prog w) A E none Q acc cenv.locals) s₄) E s₃) E s₂ := by
  refine wpAny_newObj_type (wpAny_newFunctionEnv hcell (by intro y hy; simp at hy) (fun h₁ hns₁ hsb₁ => ?_) hkind)
  dsimp only at hns₁ hsb₁ ⊢
  generalize hH2 : s₂.heap.push { cls := .type "list", dict := none, data := .seq ([] : List Value).toArray } = H2 at hns₁ hsb₁ ⊢
  have hC : H2.objs.size = s₂.heap.objs.size + 1 := by rw [← hH2, Heap.size_push]
  have hDC : s₂.heap.objs.size ≠ H2.objs.size := by rw [hC]; exact Nat.ne_of_lt (Nat.lt_succ_self _)
  have below : ∀ b, b < s₂.heap.objs.size → b ≠ H2.objs.size ∧ b ≠ s₂.heap.objs.size := fun b hb => ⟨by rw [hC]; exact Nat.ne_of_lt (Nat.lt_succ_of_lt hb), Nat.ne_of_lt hb⟩
  have hDf : s₂.heap.objs.size ∉ fp := fun hm => Nat.lt_irrefl _ (hfp _ hm)
  have hCf : H2.objs.size ∉ fp := fun hm => by have := hfp _ hm; rw [hC] at this; exact Nat.lt_irrefl _ (Nat.lt_of_succ_lt this)
  have hIf : I ∈ fp := W.sub I (List.mem_singleton.mpr rfl)
  have hIlt : I < s₂.heap.objs.size := hfp I hIf
  have old : ∀ b o, s₂.heap.get? b = some o → h₁.get? b = some o := fun b o e => hsb₁.extBut b o (below b (Heap.lt_size e)).1 (Heap.get?_push_of_some _ (hH2 ▸ Heap.get?_push_of_some _ e))
  have hacc : h₁.get? s₂.heap.objs.size = some (LCg.lst []) := hsb₁.extBut _ _ hDC (Heap.get?_push_of_some _ (hH2 ▸ Heap.get?_push_size _ rfl))
  have hst₁ : St 0 h₁ := W.frame _ _ _ hst fun b _ o e => old b o e
  have fresh : ∀ a, s₂.heap.objs.size ≤ a → s₂.heap.get? a = none := fun a ha => by
    cases e : s₂.heap.get? a with
    | none => rfl
    | some o' => exact absurd (Heap.lt_size e) (Nat.not_lt.mpr ha)
  have fresh₀ : ∀ a, s₂.heap.objs.size ≤ a → h₀.get? a = none := fun a ha => by
    cases e : h₀.get? a with
    | none => rfl
    | some o' => have := F.keep a o' e; rw [fresh a ha] at this; cases this
  have hD₀ : h₀.get? s₂.heap.objs.size = none := fresh₀ _ (Nat.le_refl _)
  have hC₀ : h₀.get? H2.objs.size = none := fresh₀ _ (by rw [hC]; exact Nat.le_succ _)
  have hLlt : L < s₂.heap.objs.size := F.ns.lt
  have hDL : s₂.heap.objs.size ≠ L := Ne.symm (below L hLlt).2
  have hCL : H2.objs.size ≠ L := Ne.symm (below L hLlt).1
  have offs : ∀ p ∈ news, p.1 < s₂.heap.objs.size := fun p hp => Heap.lt_size (N p hp).1
  refine loopG (s := { s₂ with heap := h₁, toks := s₂.toks + ([] : List (Str × Value)).length }) (X := H2.objs.size) (D := s₂.heap.objs.size) (Any := fun o => ∃ m', LCg.NsObj o m') (Tk := fun tk => 0 < tk) (Own := fun o v => ∃ m', LCg.NsObj o m' ∧ m' x = some v) (ks := ks) (Src := Src) (Rel := Rel) (news := news)
    W hsz hIo hSt hks hP ?_ hst₁ hDf hCf (F.keeps old) (fun p hp => ?_) ?_ hIL hI₀ hCL hC₀ (below I hIlt).1 (below I hIlt).2 (Ne.symm hDC) off (fun p hp => (below _ (offs p hp)).1) (fun p hp => (below _ (offs p hp)).2)
    (fun k v oI oX ys h tk E' hk hv hown htk F' N' => ?_) (fun o v ho => ?_) (fun h tk zs hz hr htk F' N' hX => ?_)
  · rintro s' v Q' E' ⟨o, ho, m', hns⟩ h
    refine wpAny_assign_Name (wpAny_storeName_local (lookup_relabel_local hx) (hns.ns ho) (fun h₃ hn₃ hs₃ => ?_) (by simp [relabel, hkind]))
    obtain ⟨o₃, ho₃, hns₃⟩ := LCg.ns_obj hn₃
    exact h _ _ (Nat.succ_pos _) hs₃ ⟨o₃, ho₃, ⟨_, hns₃⟩, _, hns₃, by simp⟩
  · rcases List.mem_cons.mp hp with rfl | hp
    · exact ⟨hacc, hDL, hD₀⟩
    · exact ⟨old _ _ (N p hp).1, (N p hp).2⟩
  · obtain ⟨o, ho, hns⟩ := LCg.ns_obj hns₁
    exact ⟨o, ho, _, hns⟩
  · obtain ⟨m', hns, hx'⟩ := hown
    exact turn k v I oI _ oX _ m' ys h tk E' hk hv hns hx' htk F' N'
  · obtain ⟨m', hns, _⟩ := ho
    exact ⟨m', hns⟩
  · obtain ⟨o, ho, m', hns⟩ := hX
    refine ⟨m', hns.ns ho, fun h'' hs'' => fin zs hz hr _ h'' tk (F'.change hs'' hCL hC₀) (fun p hp => ?_) (off1_all fun p hp => (below _ (offs p hp)).2)⟩
    refine ⟨hs''.extBut _ _ ?_ (N' p hp).1, (N' p hp).2⟩
    rcases List.mem_cons.mp hp with rfl | hp
    · exact hDC
    · exact (below _ (offs p hp)).1
end
section
variable {prog : Program} {w : World} {A : Around} {E : Value → Shared → Prop} {s : Shared} {h₀ : Heap} {L : Addr} {m : Str → Option Value} {env : Env}
/-- a comprehension over a range, its target a name of its own: what is wanted behind the range -/
def OwnR (prog : Program) (w : World) (A : Around) (h₀ : Heap) (L : Addr) (m : Str → Option Value) (env : Env) (elt : PySem.Expr) (x : Str) (scope : Scope) (cl : List (Str × Addr)) (Q : Value → Shared → Prop) (xv : Value) (s₁ : Shared) : Prop :=
  ∃ (r : Addr) (a b : Int) (t u v : Tok) (n : Nat) (news : List (Addr × Obj)) (Rel : Nat → Value → Prop), xv = .ref r ∧ A.handled = none ∧ Fr h₀ L s₁.heap m ∧ News h₀ L s₁.heap news ∧ IsRange s₁.heap r a b 1 t u v ∧ Builtin.Range.small a b 1 = true ∧ Builtin.Range.rangeSize a b 1 = ((n : Nat) : Int) ∧ n ≤ sizeLine ∧
    (∀ (k : Nat) (t' : Tok) (I : Addr) (oI : Obj) (C : Addr) (oC : Obj) (D : Addr) (m₂ : Str → Option Value) (ys : List Value) (h : Heap) (tk : Nat) (E' : Value → Shared → Prop), k < n → LCg.NsObj oC m₂ → m₂ x = some (.int (a + (k : Int)) t') → 0 < tk → Fr h₀ L h m → News h₀ L h ((I, oI) :: (C, oC) :: (D, LCg.lst ys) :: news) →
      wpAny (model prog w) A (eval elt (compEnvC scope cl C env)) (CtEnd h₀ L m s₁ ((I, oI) :: (C, oC) :: (D, LCg.lst ys) :: news) (Rel k)) E' { s₁ with heap := h, toks := tk }) ∧
    (∀ zs : List (Nat × Value), zs.map (·.1) = List.range n → (∀ z ∈ zs, Rel z.1 z.2) → ∀ D h tk, Fr h₀ L h m → News h₀ L h ((D, LCg.lst (zs.map (·.2))) :: news) → LCg.Off1 D news → Q (.ref D) { s₁ with heap := h, toks := tk })
theorem ownR_intro {elt : PySem.Expr} {x : Str} {scope : Scope} {cl : List (Str × Addr)} {Q : Value → Shared → Prop} {s₁ : Shared} {r : Addr} {a b : Int} {t u v : Tok} {n : Nat} {news : List (Addr × Obj)} (Rel : Nat → Value → Prop)
    (hh : A.handled = none) (F : Fr h₀ L s₁.heap m) (N : News h₀ L s₁.heap news) (hr : IsRange s₁.heap r a b 1 t u v) (hsm : Builtin.Range.small a b 1 = true) (hn : Builtin.Range.rangeSize a b 1 = ((n : Nat) : Int)) (hsz : n ≤ sizeLine)
    (turn : ∀ (k : Nat) (t' : Tok) (I : Addr) (oI : Obj) (C : Addr) (oC : Obj) (D : Addr) (m₂ : Str → Option Value) (ys : List Value) (h : Heap) (tk : Nat) (E' : Value → Shared → Prop), k < n → LCg.NsObj oC m₂ → m₂ x = some (.int (a + (k : Int)) t') → 0 < tk → Fr h₀ L h m → News h₀ L h ((I, oI) :: (C, oC) :: (D, LCg.lst ys) :: news) →
      wpAny (model prog w) A (eval elt (compEnvC scope cl C env)) (CtEnd h₀ L m s₁ ((I, oI) :: (C, oC) :: (D, LCg.lst ys) :: news) (Rel k)) E' { s₁ with heap := h, toks := tk })
    (fin : ∀ zs : List (Nat × Value), zs.map (·.1) = List.range n → (∀ z ∈ zs, Rel z.1 z.2) → ∀ D h tk, Fr h₀ L h m → News h₀ L h ((D, LCg.lst (zs.map (·.2))) :: news) → LCg.Off1 D news → Q (.ref D) { s₁ with heap := h, toks := tk }) :
    OwnR prog w A h₀ L m env elt x scope cl Q (.ref r) s₁ := ⟨r, a, b, t, u, v, n, news, Rel, rfl, hh, F, N, hr, hsm, hn, hsz, turn, fin⟩
theorem ListComp_R {elt iter : PySem.Expr} {x : Str} {px : Pos} {scope : Scope} {cl : List (Str × Addr)} {pos : Pos} {Q : Value → Shared → Prop} (F₀ : Fr h₀ L s.heap m)
    (hclos : closureFor scope env = pure cl) (hcell : ∀ y ∈ scope.names, y.2 ≠ .cell) (hkind : scope.kind = .function)
    (hnames : ∀ y ∈ scope.names, y.2 = .local → scope.names.lookup y.1 = some .local) (hx : scope.names.lookup x = some .local)
    (h : wpAny (model prog w) A (eval iter env) (OwnR prog w A h₀ L m env elt x scope cl Q) E s)
    (hs : ∀ x, foldedSetIterable iter env x = pure x := by intro _; rfl) :
    wpAny (model prog w) A (eval (.ListComp elt [⟨.Name x px, iter, [], 0⟩] scope pos) env) Q E s := by
  rw [eval_ListComp]
  refine wpAny_comprehension_free (use := none) rfl hs hclos hkind hnames (wpAny_mono h (fun xv s₁ h₁ => ?_) fun _ _ e => e)
  obtain ⟨r, a, b, t, u, v, n, news, Rel, rfl, hh, F, N, hr, hsm, hn, hsz, turn, fin⟩ := h₁
  refine wpAny_pyIter_range hr hsm ?_
  refine block_L (ks := List.range n) (Src := fun (k : Nat) v => ∃ t, v = .int (a + (k : Int)) t) (Rel := Rel) (LCg.range_walks hh a n) hsz (fun i h st => ⟨_, st⟩) (fun i h h' o st e e' k N => LCg.range_st i h h' o news st e e' k N trivial) List.length_range (fun i v hi hv => ⟨i, by rw [List.getElem?_range hi], hv⟩)
    hcell hkind hx (by show IsRangeIter _ _ _ _ _; rw [hn]; simpa using Heap.get?_push_size _ rfl) (fun b hb => ?_)
    (F.keeps fun _ _ e => Heap.get?_push_of_some _ e) (N.grown fun _ _ e => Heap.get?_push_of_some _ e) (Nat.ne_of_lt F.ns.lt) (next_is_new F) (fun p hp => Nat.ne_of_lt (Heap.lt_size (N p hp).1)) ?_ ?_
  · rw [List.mem_singleton.mp hb]
    show s₁.heap.objs.size < (s₁.heap.push _).objs.size
    rw [Heap.size_push]; exact Nat.lt_succ_self _
  · rintro k v I oI C oC D m₂ ys h tk E' hk ⟨t', rfl⟩ hC hx' htk F' N'
    exact turn k t' I oI C oC D m₂ ys h tk E' (List.mem_range.mp hk) hC hx' htk F' N'
  · intro zs hz hr D h tk F' N' o1
    exact fin zs hz hr D h tk F' N' o1
end
end Mine
end
section
open PySem PySem.W PyProof.Rows PySem.Flt PyProof.V PySem.Spec PySem.Calls
namespace Mine
section
variable {prog : Program} {w : World} {A : Around} {h₀ : Heap} {L : Addr} {m : Str → Option Value} {env : Env} {ct elt : PySem.Expr} {x : Str} {scope : Scope} {cl : List (Str × Addr)} {s : Shared} {S : List (Addr × Obj) → Prop} {P : Nat → Value → Prop} {Fin : List Value → List (Addr × Obj) → Prop} {news : List (Addr × Obj)}
/-- a comprehension with a test whose turns leave the ledger as it was: the items told one by one -/
theorem comp_restT {α : Type} {n : Nat} {ks : List α} (q : α → Bool) (Src : α → Value → Prop) (Rel : α → Value → Prop) (hks : ks.length = n) (hP : ∀ i v, i < n → P i v → ∃ k, ks[i]? = some k ∧ Src k v) (hS : S news)
    (turn : ∀ k v I oI C oC D m₂ ys h tk (E' : Value → Shared → Prop), k ∈ ks → Src k v → LCg.NsObj oC m₂ → m₂ x = some v → Fr h₀ L h m → News h₀ L h ((I, oI) :: (C, oC) :: (D, LCg.lst ys) :: news) → LCg.Off3 I C D news → ((@Ne Nat I C) ∧ (@Ne Nat I D) ∧ (@Ne Nat C D)) →
      wpAny (model prog w) A (isTrue ct (compEnvC scope cl C env) (eval ct (compEnvC scope cl C env))) (fun ok s' => if ok = true then
        wpAny (model prog w) A (eval elt (compEnvC scope cl C env)) (CtEnd h₀ L m s ((I, oI) :: (C, oC) :: (D, LCg.lst ys) :: news) (fun y => q k = true ∧ Rel k y)) E' s'
        else CtEnd h₀ L m s ((I, oI) :: (C, oC) :: (D, LCg.lst ys) :: news) (fun _ => q k = false) Value.none s') E' { s with heap := h, toks := tk })
    (fin : ∀ zs : List (α × Value), zs.map (·.1) = ks.filter q → (∀ z ∈ zs, Rel z.1 z.2) → Fin (zs.map (·.2)) news) : LCt.CompRestT prog w A h₀ L m env ct elt x scope cl s S P Fin n 0 [] news := by
  have key : ∀ (j i : Nat) (zs : List (α × Value)), i + j = n → zs.map (·.1) = (ks.take i).filter q → (∀ z ∈ zs, Rel z.1 z.2) → LCt.CompRestT prog w A h₀ L m env ct elt x scope cl s S P Fin j i (zs.map (·.2)) news := by
    intro j
    induction j with
    | zero =>
      intro i zs hi hz hr
      have e : i = ks.length := by omega
      subst e
      rw [List.take_length] at hz
      exact LCt.CompRestT.zero (fin zs hz hr)
    | succ j ih =>
      intro i zs hi hz hr
      refine LCt.CompRestT.succ ?_
      intro v I oI C oC D m₂ h tk E' hv hC hx F N off ne
      obtain ⟨k, hk, hv'⟩ := hP i v (by omega) hv
      refine wpAny_mono (turn k v I oI C oC D m₂ _ h tk E' (List.mem_of_getElem? hk) hv' hC hx F N off ne) (fun ok s₂ hq => ?_) fun _ _ e => e
      cases ok with
      | true =>
        simp only [if_true] at hq ⊢
        refine wpAny_mono hq (fun y s₃ hq => ?_) fun _ _ e => e
        obtain ⟨h', tk', e, F', N', hy1, hy⟩ := hq
        refine ⟨h', tk', news, e, F', N', off, hS, ?_⟩
        have := ih (i + 1) (zs ++ [(k, y)]) (by omega) (by rw [List.map_append, hz, List.take_add_one, hk, List.filter_append]; simp [hy1]) (by
          intro z hz'
          rcases List.mem_append.mp hz' with hz' | hz'
          · exact hr z hz'
          · rw [List.mem_singleton.mp hz']; exact hy)
        rwa [List.map_append] at this
      | false =>
        simp only [Bool.false_eq_true, if_false] at hq ⊢
        obtain ⟨h', tk', e, F', N', hy⟩ := hq
        refine ⟨h', tk', news, e, F', N', off, hS, ?_⟩
        exact ih (i + 1) zs (by omega) (by rw [hz, List.take_add_one, hk, List.filter_append]; simp [hy]) hr
  exact key n 0 [] (by omega) (by simp) (fun _ h => nomatch h)
end
end Mine
end
section
open PySem PySem.W PyProof.Rows PySem.Flt PyProof.V PySem.Spec PySem.Calls
namespace Mine
section
variable {prog : Program} {w : World} {A : Around} {E : Value → Shared → Prop} {s : Shared} {h₀ : Heap} {L : Addr} {m : Str → Option Value} {env : Env}
theorem newEnv_cell {scope : Scope} {globals : Addr} {cl : List (Str × Addr)} {qual : Str} {x : Str} {Q : Env → Shared → Prop} (hcf : ∀ n, cellsFrom n scope.names cl = (x, n) :: cl) (hpc : ∀ h, pushCells h scope.names = h.push { cls := .type "cell", data := .cell none })
    (h : Q { scope, locals := s.heap.objs.size, globals, cells := (x, s.heap.objs.size + 1) :: cl, qual, func := none, code := env.code, frame := env.frame, builtins := env.builtins } { s with heap := (s.heap.push { cls := .type "dict", data := .dict #[] }).push { cls := .type "cell", data := .cell none } }) :
    wpAny (model prog w) A (newFunctionEnv scope globals cl [] qual none .none (some env)) Q E s := by
  simp only [newFunctionEnv, Option.isSome_some, if_true]
  refine wpAny_bind (wpAny_alloc ?_)
  refine wpAny_bind (wpAny_layCells _ (fun name kind cells => by cases hkc : kind == NameKind.cell <;> simp [hkc]) _ _ _ _ ?_)
  rw [hcf, hpc]
  rw [show ({ s with heap := s.heap.push { cls := .type "dict", data := .dict #[] } } : Shared).heap.objs.size = s.heap.objs.size + 1 from Heap.size_push ..]
  simp only [List.forIn_nil]
  exact wpAny_bind (wpAny_pure (wpAny_pure h))
/-- a comprehension over a list of the ledger, its target kept in a cell: what is wanted behind the list -/
def OwnC (prog : Program) (w : World) (A : Around) (h₀ : Heap) (L : Addr) (m : Str → Option Value) (env : Env) (elt : PySem.Expr) (x : Str) (scope : Scope) (cl : List (Str × Addr)) (Q : Value → Shared → Prop) (xv : Value) (s₁ : Shared) : Prop :=
  ∃ (ax : Addr) (vs : List Value) (ns : List Int) (k : Nat) (news : List (Addr × Obj)) (Rel : Int → Value → Prop), xv = .ref ax ∧ A.handled = none ∧ Fr h₀ L s₁.heap m ∧ News h₀ L s₁.heap news ∧ (ax, PySem.W.listOf vs.toArray k) ∈ news ∧ IntsAre vs ns ∧ ns.length ≤ sizeLine ∧
    (∀ (n : Int) (t' : Tok) (I : Addr) (oI : Obj) (K : Addr) (oK : Obj) (C : Addr) (oC : Obj) (D : Addr) (ys : List Value) (h : Heap) (tk : Nat) (E' : Value → Shared → Prop), n ∈ ns → oK.data = .cell (some (.int n t')) → Fr h₀ L h m → News h₀ L h ((I, oI) :: (K, oK) :: (D, LCg.lst ys) :: (C, oC) :: news) →
      wpAny (model prog w) A (eval elt (compEnvC scope ((x, K) :: cl) C env)) (CtEnd h₀ L m s₁ ((I, oI) :: (K, oK) :: (D, LCg.lst ys) :: (C, oC) :: news) (Rel n)) E' { s₁ with heap := h, toks := tk }) ∧
    (∀ zs : List (Int × Value), zs.map (·.1) = ns → (∀ z ∈ zs, Rel z.1 z.2) → ∀ D h tk, Fr h₀ L h m → News h₀ L h ((D, LCg.lst (zs.map (·.2))) :: news) → LCg.Off1 D news → Q (.ref D) { s₁ with heap := h, toks := tk })
theorem ownC_intro {elt : PySem.Expr} {x : Str} {scope : Scope} {cl : List (Str × Addr)} {Q : Value → Shared → Prop} {s₁ : Shared} {ax : Addr} {vs : List Value} {ns : List Int} {k : Nat} {news : List (Addr × Obj)} (Rel : Int → Value → Prop)
    (hh : A.handled = none) (F : Fr h₀ L s₁.heap m) (N : News h₀ L s₁.heap news) (hm : (ax, PySem.W.listOf vs.toArray k) ∈ news) (hI : IntsAre vs ns) (hsz : ns.length ≤ sizeLine)
    (turn : ∀ (n : Int) (t' : Tok) (I : Addr) (oI : Obj) (K : Addr) (oK : Obj) (C : Addr) (oC : Obj) (D : Addr) (ys : List Value) (h : Heap) (tk : Nat) (E' : Value → Shared → Prop), n ∈ ns → oK.data = .cell (some (.int n t')) → Fr h₀ L h m → News h₀ L h ((I, oI) :: (K, oK) :: (D, LCg.lst ys) :: (C, oC) :: news) →
      wpAny (model prog w) A (eval elt (compEnvC scope ((x, K) :: cl) C env)) (CtEnd h₀ L m s₁ ((I, oI) :: (K, oK) :: (D, LCg.lst ys) :: (C, oC) :: news) (Rel n)) E' { s₁ with heap := h, toks := tk })
    (fin : ∀ zs : List (Int × Value), zs.map (·.1) = ns → (∀ z ∈ zs, Rel z.1 z.2) → ∀ D h tk, Fr h₀ L h m → News h₀ L h ((D, LCg.lst (zs.map (·.2))) :: news) → LCg.Off1 D news → Q (.ref D) { s₁ with heap := h, toks := tk }) :
    OwnC prog w A h₀ L m env elt x scope cl Q (.ref ax) s₁ := ⟨ax, vs, ns, k, news, Rel, rfl, hh, F, N, hm, hI, hsz, turn, fin⟩
theorem ListComp_C {elt iter : PySem.Expr} {x : Str} {px : Pos} {scope : Scope} {cl : List (Str × Addr)} {pos : Pos} {Q : Value → Shared → Prop} (F₀ : Fr h₀ L s.heap m)
    (hclos : closureFor scope env = pure cl) (hcf : ∀ n, cellsFrom n scope.names cl = (x, n) :: cl) (hpc : ∀ h, pushCells h scope.names = h.push { cls := .type "cell", data := .cell none }) (hkind : scope.kind = .function)
    (hnames : ∀ y ∈ scope.names, y.2 = .local → scope.names.lookup y.1 = some .local) (hx : (relabel scope env).names.lookup x = some .cell)
    (h : wpAny (model prog w) A (eval iter env) (OwnC prog w A h₀ L m env elt x scope cl Q) E s)
    (hs : ∀ x, foldedSetIterable iter env x = pure x := by intro _; rfl) :
    wpAny (model prog w) A (eval (.ListComp elt [⟨.Name x px, iter, [], 0⟩] scope pos) env) Q E s := by
  rw [eval_ListComp]
  refine wpAny_comprehension_free (use := none) rfl hs hclos hkind hnames (wpAny_mono h (fun xv s₁ h₁ => ?_) fun _ _ e => e)
  obtain ⟨ax, vs, ns, k, news, Rel, rfl, hh, F, N, hm, hI, hsz, turn, fin⟩ := h₁
  have hl : s₁.heap.IsList ax vs.toArray := ⟨_, (N _ hm).1, rfl, k, rfl⟩
  have hltx : ax < s₁.heap.objs.size := Heap.lt_size (N _ hm).1
  refine wpAny_pyIter_list hl ?_
  refine wpAny_newObj_type (newEnv_cell (x := x) hcf hpc ?_)
  generalize hH0 : s₁.heap.push { cls := .type "list_iterator", data := .fields #[.ref ax, .int 0 0] } = H0
  dsimp only
  generalize hH1 : H0.push { cls := .type "list", dict := none, data := .seq ([] : List Value).toArray } = H1
  generalize hH2 : H1.push { cls := .type "dict", data := .dict #[] } = H2
  generalize hH3 : H2.push { cls := .type "cell", data := .cell none } = H3
  have z0 : H0.objs.size = s₁.heap.objs.size + 1 := by rw [← hH0, Heap.size_push]
  have z1 : H1.objs.size = H0.objs.size + 1 := by rw [← hH1, Heap.size_push]
  have z2 : H2.objs.size = H1.objs.size + 1 := by rw [← hH2, Heap.size_push]
  have up1 : ∀ b o, H0.get? b = some o → H1.get? b = some o := fun b o e => hH1 ▸ Heap.get?_push_of_some _ e
  have up2 : ∀ b o, H1.get? b = some o → H2.get? b = some o := fun b o e => hH2 ▸ Heap.get?_push_of_some _ e
  have up3 : ∀ b o, H2.get? b = some o → H3.get? b = some o := fun b o e => hH3 ▸ Heap.get?_push_of_some _ e
  have up0 : ∀ b o, s₁.heap.get? b = some o → H0.get? b = some o := fun b o e => hH0 ▸ Heap.get?_push_of_some _ e
  have up : ∀ b o, s₁.heap.get? b = some o → H3.get? b = some o := fun b o e => up3 _ _ (up2 _ _ (up1 _ _ (up0 _ _ e)))
  have gI : H3.get? s₁.heap.objs.size = some { cls := .type "list_iterator", data := .fields #[.ref ax, .int 0 0] } := up3 _ _ (up2 _ _ (up1 _ _ (hH0 ▸ Heap.get?_push_size _ rfl)))
  have gD : H3.get? H0.objs.size = some (LCg.lst []) := up3 _ _ (up2 _ _ (hH1 ▸ Heap.get?_push_size _ rfl))
  have gC : H3.get? H1.objs.size = some { cls := .type "dict", data := .dict #[] } := up3 _ _ (hH2 ▸ Heap.get?_push_size _ rfl)
  have gK : H3.get? (H1.objs.size + 1) = some { cls := .type "cell", data := .cell none } := by
    rw [← z2, ← hH3]; exact Heap.get?_push_size _ rfl
  have hLlt : @LT.lt Nat _ L s₁.heap.objs.size := F.ns.lt
  have hnlt : ∀ p ∈ news, p.1 < s₁.heap.objs.size := fun p hp => Heap.lt_size (N p hp).1
  have fresh₀ : ∀ a, s₁.heap.objs.size ≤ a → h₀.get? a = none := fun a ha => by
    cases e : h₀.get? a with
    | none => rfl
    | some o' => exact absurd (Heap.lt_size (F.keep a o' e)) (Nat.not_lt.mpr ha)
  have nlt : ∀ {a b : Addr}, @LT.lt Nat _ a b → a ≠ b := fun h => Nat.ne_of_lt h
  have lI : @LT.lt Nat _ s₁.heap.objs.size H0.objs.size := by omega
  have lD : @LT.lt Nat _ H0.objs.size H1.objs.size := by omega
  have lC : @LT.lt Nat _ H1.objs.size (H1.objs.size + 1) := Nat.lt_succ_self _
  have W := Walks.list (prog := prog) (w := w) hh s₁.heap.objs.size ax (Nat.ne_of_lt hltx) vs.toArray
  refine loopG (s := { s₁ with heap := H3 }) (m := m) (news := (H1.objs.size, { cls := .type "dict", data := .dict #[] }) :: news) (ks := ns) (X := H1.objs.size + 1) (D := H0.objs.size) (Any := fun o => ∃ v₀, o.data = .cell v₀) (Tk := fun _ => True) (Own := fun o v => o.data = .cell (some v)) (Src := fun (n : Int) v => ∃ t, v = .int n t) (Rel := Rel)
    W (by rw [List.size_toArray, hI.length]; exact hsz) (fun i h st => by obtain ⟨o, e, _⟩ := st.1; exact ⟨o, e⟩) ?hSt (by rw [List.size_toArray]; exact hI.length.symm) (fun i v _ hv => ?hP) ?store ⟨⟨_, gI, rfl, rfl⟩, hl.at fun o e => up ax o e⟩ ?hDf ?hXf (F.keeps up) (fun p hp => ?hN) ⟨_, gK, _, rfl⟩
    (nlt hLlt) (fresh₀ _ (Nat.le_refl _)) (Ne.symm (nlt (by omega))) (fresh₀ _ (show @LE.le Nat _ _ _ by omega)) (nlt (by omega)) (nlt lI) (Ne.symm (nlt (by omega))) (fun p hp => ?offI) (fun p hp => ?offX) (fun p hp => ?offD)
    (fun n v oI oX ys h tk E' hn hv hown _ F' N' => ?turn) (fun o v ho => ⟨_, ho⟩) (fun h tk zs hz hr htk F' N' hX => ?done)
  case hSt =>
    intro i h h' o st e e' kp N'
    exact ⟨by obtain ⟨o', q, r⟩ := st.1; rw [e] at q; cases q; exact ⟨o, e', r⟩, ⟨_, (N' _ (.tail _ hm)).1, rfl, k, rfl⟩⟩
  case hP =>
    obtain ⟨n, t, e, hn⟩ := IntsAre.at hI i v (by simpa using hv)
    exact ⟨n, hn, t, e⟩
  case store =>
    rintro s' v Q' E' ⟨o, ho, v₀, hd⟩ h
    refine wpAny_assign_Name (wpAny_storeName_cell (c := H1.objs.size + 1) (v₀ := v₀) (by simp [relabel, hkind]) hx (by simp) ⟨o, ho, hd⟩ fun h' hv hs => ?_)
    obtain ⟨o', ho', hd'⟩ := hv
    exact h h' _ trivial hs ⟨o', ho', ⟨_, hd'⟩, hd'⟩
  case hDf =>
    intro hmem
    rcases List.mem_cons.mp hmem with e | hmem
    · exact Ne.symm (nlt lI) e
    · exact Ne.symm (nlt (Nat.lt_trans hltx lI)) (List.mem_singleton.mp hmem)
  case hXf =>
    intro hmem
    rcases List.mem_cons.mp hmem with e | hmem
    · exact Ne.symm (nlt (show @LT.lt Nat _ _ _ by omega)) e
    · exact Ne.symm (nlt (Nat.lt_trans hltx (show @LT.lt Nat _ _ _ by omega))) (List.mem_singleton.mp hmem)
  case hN =>
    rcases List.mem_cons.mp hp with rfl | hp
    · exact ⟨gD, Ne.symm (nlt (Nat.lt_trans hLlt lI)), fresh₀ _ (Nat.le_of_lt lI)⟩
    · rcases List.mem_cons.mp hp with rfl | hp
      · exact ⟨gC, Ne.symm (nlt (show @LT.lt Nat _ _ _ by omega)), fresh₀ _ (show @LE.le Nat _ _ _ by omega)⟩
      · exact ⟨up _ _ (N p hp).1, (N p hp).2⟩
  case offI =>
    rcases List.mem_cons.mp hp with rfl | hp
    · exact Ne.symm (nlt (show @LT.lt Nat _ _ _ by omega))
    · exact nlt (hnlt p hp)
  case offX =>
    rcases List.mem_cons.mp hp with rfl | hp
    · exact nlt lC
    · exact nlt (Nat.lt_trans (hnlt p hp) (show @LT.lt Nat _ _ _ by omega))
  case offD =>
    rcases List.mem_cons.mp hp with rfl | hp
    · exact Ne.symm (nlt lD)
    · exact nlt (Nat.lt_trans (hnlt p hp) lI)
  case turn =>
    obtain ⟨t, rfl⟩ := hv
    exact turn n t _ oI _ oX _ _ _ ys h tk E' hn hown F' N'
  case done =>
    have NC := N' (H1.objs.size, { cls := .type "dict", data := .dict #[] }) (.tail _ (.head _))
    refine ⟨fun _ => none, ⟨_, #[], _, NC.1, rfl, fun x hx => by simp at hx, fun name => rfl⟩, fun h'' hs'' => fin zs hz hr _ h'' tk (F'.change hs'' NC.2.1 NC.2.2) (fun p hp => ?_) (off1_all fun p hp => nlt (Nat.lt_trans (hnlt p hp) lI))⟩
    have hp' : p ∈ (H0.objs.size, LCg.lst (zs.map (·.2))) :: (H1.objs.size, ({ cls := .type "dict", data := .dict #[] } : Obj)) :: news := by
      rcases List.mem_cons.mp hp with rfl | hp
      · exact .head _
      · exact .tail _ (.tail _ hp)
    refine ⟨hs''.extBut _ _ ?_ (N' p hp').1, (N' p hp').2⟩
    rcases List.mem_cons.mp hp with rfl | hp
    · exact nlt lD
    · exact nlt (Nat.lt_trans (hnlt p hp) (show @LT.lt Nat _ _ _ by omega))
end
end Mine
end
section
open PySem PySem.W PyProof.Rows PySem.Flt
namespace Mine
theorem ints_zip : ∀ (zs : List (Int × Value)), (∀ z ∈ zs, ∃ t, z.2 = Value.int (Int.fmod z.1 (10 ^ Int.toNat 6)) t) → IntsAre (zs.map (·.2)) (zs.map fun z => Int.fmod z.1 (10 ^ Int.toNat 6))
  | [], _ => .nil
  | z :: r, h => by
    obtain ⟨t, e⟩ := h z (.head _)
    simp only [List.map_cons]
    rw [e]
    exact .cons _ _ (ints_zip r fun y hy => h y (.tail _ hy))
theorem keep_head {a b c d e : Addr × Obj} {news : List (Addr × Obj)} : ∀ p ∈ a :: news, p ∈ a :: b :: c :: d :: e :: news := by
  intro p hp
  rcases List.mem_cons.mp hp with rfl | hp
  · exact .head _
  · exact .tail _ (.tail _ (.tail _ (.tail _ (.tail _ hp))))
theorem own_ints {t1 t2 t3 t4 t5 t6 t7 t8 t9 : Tok} : IntsAre [Value.int 18 t1, Value.int 140 t2, Value.int 5 t3, Value.int 0 t4, Value.int 10 t5, Value.int 3 t6, Value.int 15 t7, Value.int 6 t8, Value.int 9 t9] [18, 140, 5, 0, 10, 3, 15, 6, 9] :=
  .cons _ _ (.cons _ _ (.cons _ _ (.cons _ _ (.cons _ _ (.cons _ _ (.cons _ _ (.cons _ _ (.cons _ _ .nil))))))))
set_option maxRecDepth 100000 in
set_option maxHeartbeats 8000000 in
theorem numbers_ctr {prog : Program} {w : World} {p : Program} {loose : List Str} {mean : ExcName → Option Value} {mg mb : Str → Option Value}
    {sl : Addr} {svs : List Value} {sns : List Int} {news : List (Addr × Obj)}
    {dp un : Nat} {gd : Option (List Code)} {cn : Str} {cs : Scope} {a : Addr} {ccd : Value} {cl : List (Str × Addr)} {outer : List Env} {A₀ : Around} {base h₀ : Heap} {L : Addr} {m : Str → Option Value} {s : Shared} {Q E : Value → Shared → Prop}
    (hsl : h₀.IsList sl svs.toArray) (hsI : IntsAre svs sns) (hslen : sns.length ≤ 63)
    (B : Below A₀ base outer h₀) (F : Fr h₀ L s.heap m) (X : (hd.heap_39 w.params).In h₀) (N : News h₀ L s.heap news) (T : Top p loose mean mg mb h₀) (hk : cs.kind = .function)
    (hdp : dp + 3 < recursionLimit) (hun : un + 24 < cLine)
    (hret : ∀ D vs ns n h' tk', IntsAre vs ns → ns.length = 9 → (∀ x ∈ ns, 0 ≤ x ∧ x < 1000000) → Fr h₀ L h' m → News h₀ L h' ((D, listOf vs.toArray n) :: news) → (∀ q ∈ news, q.1 ≠ D) → Q (.ref D) { s with heap := h', toks := tk' }) :
    wpAny (model prog w) (ktrTop dp un gd cn cs L a ccd cl outer) (call (.ref 68) [.ref sl]) Q E s := by
  have hfill : PySem.Challenge.rw_rl0050_01 = PySem.Challenge.rw_rl0050_01 ∧ hd.heap_39 = hd.heap_39 := by
    k_fill
    exact ⟨rfl, rfl⟩
  clear hfill
  w_top off
  k_with_none
  k_with "eval ListComp" => (k_here; k_dflt (refine LCg.ListComp_U (F₀ := by k_asm) (by with_unfolding_all rfl) (by decide) (by rfl) (by decide) (by rfl) ?_))
  k_with "CompSrc" => (k_here; (rename IntsAre _ _ => hI9); k_dflt (refine' LCg.CompSrc.ledger (by rfl) ?F ?N (.head _) ?sz ?_; (case F => k_asm); (case N => k_asm); (case sz => (rw [List.size_toArray, IntsAre.length hI9, PySem.sizeLine_eq]; exact Nat.le_trans (List.length_take_le _ _) (by decide)))); intro g'; (refine' comp_rest (fun (k : Int) v => ∃ t, v = Value.int k t) (fun (k : Int) y => ∃ t, y = Value.int (Int.fmod k (10 ^ Int.toNat 6)) t) ?hks ?hP ?hS ?turn ?fin); (case hks => (rw [List.size_toArray]; exact hI9.length.symm)); (case hP => (intro i v hi hv; obtain ⟨k, t, e, hk⟩ := IntsAre.at hI9 i v (by simpa using hv); exact ⟨k, hk, t, e⟩)); (case hS => exact .inr ⟨_, .head _, rfl, _, rfl⟩); (case' turn => (rintro k' _ I' oI' C' oC' D' m' ys' h' tk' E' hk' ⟨t', rfl⟩ hC' hx' F' N' off' ne'; (try k_fold))); (case' fin => (intro zs' hz' hr')))
  k_with "CtEnd" => (exact ⟨_, _, rfl, by assumption, by assumption, _, rfl⟩)
  k_with "subscriptTail Name Slice ref ref" => (k_here; k_dflt (refine' kmk_slice_ints ?F ?N ?l (IsPart.int _ _) IsPart.none own_ints (kmk_from own_ints ?m) (List.length_drop ..) ?_ ?s ?t ?z; (case F => k_asm); (case N => k_asm); (case l => exact News.isList (by k_asm) (.head _)); (case m => omega); (case s => with_unfolding_all rfl); (case t => (intro _; with_unfolding_all rfl)); (case z => (rw [List.size_toArray, PySem.sizeLine_eq]; simp only [List.length_cons, List.length_nil]; decide))); intro D' ws' h' F' N' l1 hI' hC' hL'; (try k_lt l1); (try k_sweep))
  k_with "subscriptTail Name Slice ref ref" => (k_here; (rename IntsAre _ (sns ++ _) => hI9); k_dflt (refine' kmk_slice_ints ?F ?N ?l IsPart.none (IsPart.int _ _) hI9 (kmk_upto hI9 ?m) (List.length_take ..) ?_ ?s ?t ?z; (case F => k_asm); (case N => k_asm); (case l => exact News.isList (by k_asm) (.head _)); (case m => decide); (case s => with_unfolding_all rfl); (case t => (intro _; with_unfolding_all rfl)); (case z => (rw [List.size_toArray, hI9.length, PySem.sizeLine_eq, List.length_append, List.length_drop]; simp only [List.length_cons, List.length_nil]; omega))); intro D' ws' h' F' N' l1 hI' hC' hL'; (try k_lt l1); (try k_sweep))
  refine wpAny_call ?_
  k_dflt ktr_enter
  (rename Fr h₀ L _ m => FG9)
  have lifted := hsl.at fun o e => FG9.keep sl o e
  k_steps
  all_goals first
    | (refine' hret _ _ (zs'.map fun z => Int.fmod z.1 (10 ^ Int.toNat 6)) _ _ _ ?e0 ?e1 ?e2 ?e3 ?e4 ?e5; (case e3 => assumption); (case e4 => exact kst_newsOf (by assumption) keep_head); (case e0 => exact ints_zip zs' hr'); (case e1 => (rw [List.length_map, ← List.length_map (f := (·.1)) (as := zs'), hz', List.length_take, List.length_append, List.length_drop]; simp only [List.length_cons, List.length_nil]; omega)); (case e2 => (intro x hx; obtain ⟨z, _, rfl⟩ := List.mem_map.mp hx; exact ⟨Int.fmod_nonneg_of_pos _ (by decide), Int.lt_of_lt_of_le (Int.fmod_lt_of_pos _ (by decide)) (by decide)⟩)); (case e5 => (rename (_ ∧ _ ∧ _ ∧ _ ∧ LCg.Off1 _ _) => o9; exact off1_ne o9.2.2.2.2)))
end Mine
end
section
open PySem PySem.W PyProof.Rows PySem.Flt
namespace Mine
def lawStmts (k : Nat) : List Stmt := match PySem.Challenge.pw_rl0050_01.main.body.getLast? with
  | some (.FunctionDef _ _ b _ _ _ _ _ _ _) => b.drop k
  | _ => []
def lawScope : Scope := match PySem.Challenge.pw_rl0050_01.main.body.getLast? with
  | some (.FunctionDef _ _ _ _ _ _ s _ _ _) => s
  | _ => default
abbrev lawEnv (L fa : Addr) : Env := envOfC (Str.ofString "law") lawScope L fa (.ref 100)
abbrev lawA (L fa : Addr) : Around := callerA.deeper (lawEnv L fa)
abbrev cellsOf (L : Addr) (o1 o2 o3 o4 o5 o6 o7 o8 tab : Obj) (objs : List (Addr × Obj)) : List (Addr × Obj) :=
  (L + 1 + 1 + 1 + 1 + 1 + 1 + 1 + 1, o8) :: (L + 1 + 1 + 1 + 1 + 1 + 1 + 1, o7) :: (L + 1 + 1 + 1 + 1 + 1 + 1, o6) :: (L + 1 + 1 + 1 + 1 + 1, o5) :: (L + 1 + 1 + 1 + 1, o4) :: (L + 1 + 1 + 1, o3) :: (L + 1 + 1, o2) :: (L + 1, o1) :: (98, tab) :: objs
/-- objects that are no cell of the law's and not the table -/
def OffC (L : Addr) (objs : List (Addr × Obj)) : Prop := ∀ p ∈ objs, (@Ne Nat p.1 98) ∧ (@LE.le Nat _ p.1 L ∨ @LT.lt Nat _ (L + 8) p.1)
theorem OffC.ne {L d : Addr} {objs : List (Addr × Obj)} (h : OffC L objs) (hd : d = 98 ∨ (@LT.lt Nat _ L d ∧ @LE.le Nat _ d (L + 8))) : ∀ p ∈ objs, p.1 ≠ d := by
  intro p hp e
  have := h p hp
  rw [e] at this
  rcases hd with rfl | hd
  · exact this.1 rfl
  · rcases this.2 with h2 | h2
    · exact absurd (Nat.lt_of_lt_of_le hd.1 h2) (Nat.lt_irrefl _)
    · exact absurd (Nat.lt_of_lt_of_le h2 hd.2) (Nat.lt_irrefl _)
theorem OffC.nil {L : Addr} : OffC L [] := fun _ h => nomatch h
theorem OffC.cons {L : Addr} {a : Addr × Obj} {objs : List (Addr × Obj)} (h1 : (@Ne Nat a.1 98) ∧ (@LE.le Nat _ a.1 L ∨ @LT.lt Nat _ (L + 8) a.1)) (h : OffC L objs) : OffC L (a :: objs) := by
  intro p hp
  rcases List.mem_cons.mp hp with rfl | hp
  · exact h1
  · exact h p hp
theorem OffC.append {L : Addr} {l r : List (Addr × Obj)} (h1 : OffC L l) (h2 : OffC L r) : OffC L (l ++ r) := by
  intro p hp
  rcases List.mem_append.mp hp with hp | hp
  · exact h1 p hp
  · exact h2 p hp
theorem off1_of {D : Addr} : ∀ {l : List (Addr × Obj)}, (∀ p ∈ l, p.1 ≠ D) → LCg.Off1 D l
  | [], _ => trivial
  | q :: r, h => ⟨h q (.head _), off1_of fun p hp => h p (.tail _ hp)⟩
/-- what is apart from the cells, said of one -/
theorem offc_one {L D : Addr} {o1 o2 o3 o4 o5 o6 o7 o8 tab : Obj} {objs : List (Addr × Obj)} (h : ∀ p ∈ cellsOf L o1 o2 o3 o4 o5 o6 o7 o8 tab objs, p.1 ≠ D) : (@Ne Nat D 98) ∧ (@LE.le Nat _ D L ∨ @LT.lt Nat _ (L + 8) D) := by
  have h := off1_of h
  simp only [cellsOf, LCg.Off1] at h
  obtain ⟨a8, a7, a6, a5, a4, a3, a2, a1, a0, _⟩ := h
  exact ⟨Ne.symm a0, by omega⟩
theorem cells_mem {L : Addr} {o1 o2 o3 o4 o5 o6 o7 o8 tab : Obj} {objs : List (Addr × Obj)} {p : Addr × Obj} : p ∈ cellsOf L o1 o2 o3 o4 o5 o6 o7 o8 tab objs ↔ p ∈ cellsOf L o1 o2 o3 o4 o5 o6 o7 o8 tab [] ∨ p ∈ objs :=
  List.mem_append (s := cellsOf L o1 o2 o3 o4 o5 o6 o7 o8 tab []) (t := objs)
theorem fr_known {h₀ h : Heap} {L : Addr} {m : Str → Option Value} {x : Str} {v : Value} (F : Fr h₀ L h m) (e : m x = some v) : Fr h₀ L h (fun y => if y = x then some v else m y) := by
  have : (fun y => if y = x then some v else m y) = m := by
    funext y
    by_cases h : y = x
    · rw [if_pos h, h, e]
    · rw [if_neg h]
  rw [this]; exact F
end Mine
end
section
local macro_rules | `(tactic| walk_at "execs cons Assign cons") => `(tactic| k_extra "execs cons")
local macro_rules | `(tactic| walk_at "subscriptTail Call Name cons nil Constant ref int") => `(tactic| k_extra "subTup")
local macro_rules | `(tactic| walk_at "subscriptTail Name Constant ref int") => `(tactic| k_extra "subscriptTail")
local macro_rules | `(tactic| walk_at "execs cons If cons") => `(tactic| k_extra "execs cons")
local macro_rules | `(tactic| walk_at "execs cons If") => `(tactic| k_extra "execs cons")
local macro_rules | `(tactic| walk_at "binaryOp Mult int float") => `(tactic| k_extra "mulF")
local macro_rules | `(tactic| walk_at "subscriptTail Name Name ref int") => `(tactic| k_extra "subscriptTail")
local macro_rules | `(tactic| walk_at "binaryOp Sub int float") => `(tactic| k_extra "subF")
local macro_rules | `(tactic| walk_at "subscriptTail Name BinOp ref int") => `(tactic| k_extra "subscriptTail")
local macro_rules | `(tactic| walk_at "execs cons For cons") => `(tactic| k_extra "execs cons")
local macro_rules | `(tactic| walk_at "execs cons Return nil") => `(tactic| k_extra "execs cons")
local macro_rules | `(tactic| walk_at "execs cons Return") => `(tactic| k_extra "execs cons")
local macro_rules | `(tactic| k_mem) => `(tactic| (first | assumption | exact List.mem_cons_self .. | (refine List.mem_cons_of_mem _ ?_; k_mem) | (refine List.mem_append_left _ ?_; k_mem) | (refine List.mem_append_right _ ?_; k_mem)))
local macro_rules | `(tactic| k_all) => `(tactic| exact Mine.OffC.ne (by assumption) (by omega))
section
open PySem PySem.W PyProof.Rows PySem.Flt
namespace Mine
theorem size_two (n : Int) : ∃ z, (16 + 16 * Int.fmod n 2 = 16 ∧ z = 2) ∨ (16 + 16 * Int.fmod n 2 = 32 ∧ z = 1) := by
  have := fmod_in n (by decide : (0 : Int) < 2)
  rcases (by omega : Int.fmod n 2 = 0 ∨ Int.fmod n 2 = 1) with e | e
  · exact ⟨2, .inl ⟨by omega, rfl⟩⟩
  · exact ⟨1, .inr ⟨by omega, rfl⟩⟩
/-- a written menu of ints at a place within it -/
theorem item_menu {prog : Program} {w : World} {A : Around} {E : Value → Shared → Prop} {s : Shared} {Q : Value → Shared → Prop} {h₀ : Heap} {L : Addr} {news : List (Addr × Obj)} {row : Addr} {n : Nat} {t1 t2 t3 : Tok} {value slice : PySem.Expr} {x : Int} {u : Tok} (N : News h₀ L s.heap news)
    (hm : (row, listOf #[Value.int 5 t1, Value.int 7 t2, Value.int 3 t3] n) ∈ news) (h : ∀ ct t, (ct = 3 ∨ ct = 5 ∨ ct = 7) → Q (.int ct t) s)
    (hs : subscripted slice false (.ref row) (.int (Int.fmod x 3) u) = operate [.ref row, .int (Int.fmod x 3) u] (getItem (.ref row) (.int (Int.fmod x 3) u)) := by with_unfolding_all rfl)
    (hg : ∀ r, letTemporaryGo value (.ref row) r = pure () := by intro _; with_unfolding_all rfl) :
    wpAny (model prog w) A (subscriptTail value slice (.ref row) (.int (Int.fmod x 3) u)) Q E s := by
  have hl : s.heap.IsList row #[Value.int 5 t1, Value.int 7 t2, Value.int 3 t3] := ⟨_, (N _ hm).1, rfl, n, rfl⟩
  have hb := fmod_in x (by decide : (0 : Int) < 3)
  have key : ∃ ct t, (ct = 3 ∨ ct = 5 ∨ ct = 7) ∧ (#[Value.int 5 t1, Value.int 7 t2, Value.int 3 t3] : Array Value)[(Int.fmod x 3).toNat]? = some (.int ct t) := by
    rcases (by omega : Int.fmod x 3 = 0 ∨ Int.fmod x 3 = 1 ∨ Int.fmod x 3 = 2) with e | e | e <;> rw [e]
    · exact ⟨5, t1, by decide, rfl⟩
    · exact ⟨7, t2, by decide, rfl⟩
    · exact ⟨3, t3, by decide, rfl⟩
  obtain ⟨ct, t, h1, h2⟩ := key
  exact subscriptTail_builtin hl.typeIs slot_list_getitem.lookup (wpAny_getItem_list hl hb.1 (by omega) h2 (h ct t h1)) hs hg
def Leave (p : Prop) : Prop := p
theorem leave_it {p : Prop} (h : Leave p) : p := h
/-- what is known of the drawn numbers, the wheel and the row -/
structure At1 (vs9 : List Value) (ns9 : List Int) (n0 n1 sz : Int) (z : Nat) (ct : Int) (PT : UInt64) (tl : List (Addr × Obj)) (cols : List (Addr × Nat)) : Prop where
  hI9 : IntsAre vs9 ns9
  hlen9 : ns9.length = 9
  hn0 : ns9[(0 : Int).toNat]? = some n0
  hn1 : ns9[(1 : Int).toNat]? = some n1
  hp0 : 0 ≤ n0 ∧ n0 < 1000000
  hp1 : 0 ≤ n1 ∧ n1 < 1000000
  hz : (sz = 16 ∧ z = 2) ∨ (sz = 32 ∧ z = 1)
  hct : ct = 3 ∨ ct = 5 ∨ ct = 7
  hPT : Flt.Hid (partOf sz.toNat = PT)
  hS : RowS tl (plOf z sz ct n0 n1) ct.toNat cols
theorem keep1 {L : Addr} {o1 o2 o3 o4 o5 o6 o7 o8 tab : Obj} {tl : List (Addr × Obj)} {r d a b c : Addr × Obj} : ∀ p ∈ cellsOf L o1 o2 o3 o4 o5 o6 o7 o8 tab (r :: d :: tl), p ∈ r :: (tl ++ a :: b :: c :: d :: cellsOf L o1 o2 o3 o4 o5 o6 o7 o8 tab []) := by
  intro p hp
  rcases cells_mem.mp hp with h | h
  · exact .tail _ (List.mem_append_right _ (.tail _ (.tail _ (.tail _ (.tail _ h)))))
  · rcases List.mem_cons.mp h with rfl | h
    · exact .head _
    · rcases List.mem_cons.mp h with rfl | h
      · exact .tail _ (List.mem_append_right _ (.tail _ (.tail _ (.tail _ (.head _)))))
      · exact .tail _ (List.mem_append_left _ h)
theorem neA {L D9 row : Addr} {o1 o2 o3 o4 o5 o6 o7 o8 tab d : Obj} {tl : List (Addr × Obj)} {a b c : Addr × Obj} (h : ∀ p ∈ tl ++ a :: b :: c :: (D9, d) :: cellsOf L o1 o2 o3 o4 o5 o6 o7 o8 tab [], p.1 ≠ row) : ∀ p ∈ (D9, d) :: tl, p.1 ≠ row := by
  intro p hp
  rcases List.mem_cons.mp hp with rfl | hp
  · exact h _ (List.mem_append_right _ (.tail _ (.tail _ (.tail _ (.head _)))))
  · exact h _ (List.mem_append_left _ hp)
theorem offA {L D9 row : Addr} {o1 o2 o3 o4 o5 o6 o7 o8 tab d r p1 p2 p3 p4 : Obj} {tl : List (Addr × Obj)} {a b c : Addr × Obj} (hup : ∀ p ∈ tl, ∀ q ∈ a :: b :: c :: (D9, d) :: cellsOf L o1 o2 o3 o4 o5 o6 o7 o8 tab [], q.1 < p.1) (hne : ∀ p ∈ tl ++ a :: b :: c :: (D9, d) :: cellsOf L o1 o2 o3 o4 o5 o6 o7 o8 tab [], p.1 ≠ row) (h9 : ∀ p ∈ cellsOf L p1 p2 p3 p4 o5 o6 o7 o8 tab [], p.1 ≠ D9) :
    OffC L ((row, r) :: (D9, d) :: tl) := by
  refine OffC.cons (offc_one (o1 := o1) (o2 := o2) (o3 := o3) (o4 := o4) (o5 := o5) (o6 := o6) (o7 := o7) (o8 := o8) (tab := tab) (objs := []) fun p hp => hne p (List.mem_append_right _ (.tail _ (.tail _ (.tail _ (.tail _ hp)))))) (OffC.cons (offc_one h9) fun p hp => ?_)
  have h8 := hup p hp (L + 1 + 1 + 1 + 1 + 1 + 1 + 1 + 1, o8) (.tail _ (.tail _ (.tail _ (.tail _ (.head _)))))
  have h0 := hup p hp (98, tab) (.tail _ (.tail _ (.tail _ (.tail _ (.tail _ (.tail _ (.tail _ (.tail _ (.tail _ (.tail _ (.tail _ (.tail _ (.head _)))))))))))))
  exact ⟨Ne.symm (Nat.ne_of_lt h0), .inr h8⟩
set_option maxRecDepth 100000 in
set_option maxHeartbeats 8000000 in
theorem segA {prog : Program} {w : World} {p : Program} {loose : List Str} {mean : ExcName → Option Value} {mg mb : Str → Option Value} {h₀ : Heap} {L fa sl : Addr} {svs : List Value} {sns : List Int} {m : Str → Option Value} {s : Shared} {Q : Flow → Shared → Prop} {E : Value → Shared → Prop}
    {o1 o2 o3 o4 o5 o6 o7 o8 tab : Obj} {v1 v2 v3 v4 v5 v6 v7 v8 : Option Value}
    (B : Below callerA h₀ [] h₀) (X : (hd.heap_39 w.params).In h₀) (T : Top p loose mean mg mb h₀) (hsl : h₀.IsList sl svs.toArray) (hsI : IntsAre svs sns) (hslen : sns.length ≤ 63) (h98 : @LT.lt Nat _ 98 L)
    (d1 : o1.data = .cell v1) (d2 : o2.data = .cell v2) (d3 : o3.data = .cell v3) (d4 : o4.data = .cell v4) (d5 : o5.data = .cell v5) (d6 : o6.data = .cell v6) (d7 : o7.data = .cell v7) (d8 : o8.data = .cell v8)
    (F : Fr h₀ L s.heap (fun y => if y = Str.ofString "script" then some (.ref sl) else m y)) (N : News h₀ L s.heap (cellsOf L o1 o2 o3 o4 o5 o6 o7 o8 tab []))
    (hnext : ∀ D9 row vs9 ns9 n9 n0 n1 sz z ct PT tl cols nr o1 o2 o3 o4 t2 t3 t4 h' tk', At1 vs9 ns9 n0 n1 sz z ct PT tl cols →
      o1.data = .cell (some (.ref D9)) → o2.data = .cell (some (.int sz t2)) → o3.data = .cell (some (.int ct t3)) → o4.data = .cell (some (.float PT t4)) →
      OffC L ((row, rowObj cols nr) :: (D9, listOf vs9.toArray n9) :: tl) → (∀ p ∈ (D9, listOf vs9.toArray n9) :: tl, p.1 ≠ row) → (∀ p ∈ tl, @LT.lt Nat _ D9 p.1) →
      Fr h₀ L h' (fun y => if y = Str.ofString "row" then some (.ref row) else if y = Str.ofString "script" then some (.ref sl) else m y) →
      News h₀ L h' (cellsOf L o1 o2 o3 o4 o5 o6 o7 o8 tab ((row, rowObj cols nr) :: (D9, listOf vs9.toArray n9) :: tl)) →
      wpAny (model prog w) (lawA L fa) (execs (lawStmts 4) (lawEnv L fa)) Q E { s with heap := h', toks := tk' }) :
    wpAny (model prog w) (lawA L fa) (execs (lawStmts 0) (lawEnv L fa)) Q E s := by
  have hfill : PySem.Challenge.rw_rl0050_01 = PySem.Challenge.rw_rl0050_01 ∧ hd.heap_39 = hd.heap_39 := by
    k_fill
    exact ⟨rfl, rfl⟩
  clear hfill
  w_top off
  have hQT : Flt.Hid (partOf (4 : Int).toNat = partOf (4 : Int).toNat) := ⟨rfl⟩
  have hoff0 : OffC L [] := OffC.nil
  generalize e9 : partOf (4 : Int).toNat = QT at hQT
  replace hQT : Flt.Hid (partOf (4 : Int).toNat = QT) := ⟨e9⟩
  clear e9
  k_with_none
  k_with "execs cons" => ((with_reducible show wpAny _ _ (execs [_, _, _, _, _, _, _, _, _] _) _ _ _); (show wpAny _ _ (execs (lawStmts 4) _) _ _ _); refine leave_it ?_)
  k_with "call ref" => (k_here; (with_reducible show wpAny _ _ (call (Value.ref 68) [Value.ref _] _) _ _ _); k_dflt (refine' numbers_ctr hsl hsI hslen ?B ?F ?X ?N ?T ?hk ?hdp ?hun ?_; (case B => k_asm); (case F => k_asm); (case X => k_asm); (case N => k_asm); (case T => k_asm); (case hk => first | exact rfl | assumption); (case hdp => ktr_room); (case hun => ktr_units)); intro D9 vs9 ns9 n9 h' tk' hI9 hlen9 hpos9 F' N' o9; (have o9' := off1_of o9); (simp only [cellsOf, LCg.Off1, and_true] at o9'); (obtain ⟨n0, hn0⟩ : ∃ n0, ns9[(0 : Int).toNat]? = some n0 := ⟨ns9[0]'(by omega), by simp [hlen9]⟩); (obtain ⟨n1, hn1⟩ : ∃ n1, ns9[(1 : Int).toNat]? = some n1 := ⟨ns9[1]'(by omega), by simp [hlen9]⟩); (have hp0 := hpos9 _ (List.mem_of_getElem? hn0)); (have hp1 := hpos9 _ (List.mem_of_getElem? hn1)); (try dsimp only); (try k_fold); (try k_sweep))
  k_with "subscriptTail" => (k_here; (with_reducible show wpAny _ _ (subscriptTail _ _ (Value.ref D9) (Value.int 0 _)) _ _ _); k_dflt (refine' item_intsK ?k1 ?hm hI9 hn0 (by decide) (by omega) ?_; (case k1 => k_asm); (case hm => k_mem)); intro t'; (try dsimp only))
  k_with "subscriptTail" => (k_here; (with_reducible show wpAny _ _ (subscriptTail _ _ (Value.ref _) (Value.int (Int.fmod _ 3) _)) _ _ _); k_dflt (refine kba_turn (value' := PySem.Expr.Name (PySem.Str.ofString "_") ⟨0, 0, 0, 0⟩) (fun _ => rfl) ?_); k_dflt (refine' item_menu ?k1 (.head _) ?_; (case k1 => k_asm)); intro ct' t' hct'; (have hz' := size_two n0); (generalize 16 + 16 * Int.fmod n0 2 = sz' at hz' ⊢); (obtain ⟨z', hz'⟩ := hz'); (try dsimp only))
  k_with "call ref" => (k_here; (with_reducible show wpAny _ _ (call (Value.ref 48) [Value.int _ _, Value.int _ _, Value.int _ _] _) _ _ _); (have hPT : Flt.Hid (partOf sz'.toNat = partOf sz'.toNat) := ⟨rfl⟩); (generalize e9 : partOf sz'.toNat = PT at hPT); (replace hPT : Flt.Hid (partOf sz'.toNat = PT) := ⟨e9⟩); clear e9; k_dflt (refine' rgbI_ctr (v := sz') ?v1 ?v2 hPT ?B ?F ?X ?N ?T ?hk ?hdp ?hun ?_; (case v1 => omega); (case v2 => omega); (case B => k_asm); (case F => k_asm); (case X => k_asm); (case N => k_asm); (case T => k_asm); (case hk => first | exact rfl | assumption); (case hdp => ktr_room); (case hun => ktr_units)); intro D8 H' t1' t2' t3' c' h' tk' F' N' l1; (try dsimp only); (try k_fold); (try k_lt l1); (try k_sweep))
  k_with "call ref" => (k_here; (with_reducible show wpAny _ _ (call (Value.ref 89) _ _) _ _ _); k_dflt (refine' row_ctr (vs := vs9) ?hnum hI9 hlen9 hpos9 hz' hct' hPT hQT ?B ?F ?X ?N ?T ?hk ?hdp ?hun hn0 hn1 ?_; (case F => k_asm); (case N => k_asm); (case hnum => k_mem); (case B => k_asm); (case X => k_asm); (case T => k_asm); (case hk => first | exact rfl | assumption); (case hdp => ktr_room); (case hun => ktr_units)); intro row' cols' n' tl' h' tk' hS' hne' hup' F' N'; (try dsimp only); (try k_fold); (try k_sweep))
  k_with "subTup" => (k_dflt (refine kba_turn (value' := PySem.Expr.Name (PySem.Str.ofString "_") ⟨0, 0, 0, 0⟩) (fun _ => rfl) ?_); k_dflt (refine' item_tupleT ?t ?a ?b ?c ?d ?_; (case t => exact News.isTup (by k_asm) (.head _)); (case a => decide); (case b => decide); (case c => rfl); (case d => rfl)); (try dsimp only))
  show wpAny _ _ (execs [_, _, _, _, _, _, _, _, _, _, _, _, _] _) _ _ _
  k_steps
  unfold Leave
  (refine' hnext D9 row' vs9 ns9 n9 n0 n1 sz' z' ct' PT tl' cols' n' _ _ _ _ _ _ _ _ _ ⟨hI9, hlen9, hn0, hn1, hp0, hp1, hz', hct', hPT, hS'⟩ ?q1 ?q2 ?q3 ?q4 ?q5 ?q6 ?q7 ?q8 ?q9); (case q9 => exact kst_newsOf (by assumption) keep1); (case q8 => assumption); (case q1 => assumption); (case q2 => assumption); (case q3 => assumption); (case q4 => assumption); (case q5 => exact offA hup' hne' o9); (case q6 => exact neA hne'); (case q7 => (intro p hp; exact hup' p hp (D9, _) (.tail _ (.tail _ (.tail _ (.head _))))))
end Mine
end
section
open PySem PySem.W PyProof.Rows PySem.Flt
namespace Mine
/-- a list of hues, told by the items -/
theorem cells_of {α : Type} (g : α → Nat) : ∀ zs : List (α × Value), (∀ z ∈ zs, ∃ H t, z.2 = Value.float H t ∧ IsMk (g z.1) H ∧ t ≠ 0) →
    ∃ hc : List FCell, zs.map (·.2) = hc.map fval ∧ hc.map (·.2) = zs.map (fun z => g z.1) ∧ (∀ c ∈ hc, IsMk c.2 c.1.1) ∧ ∀ c ∈ hc, c.1.2 ≠ 0
  | [], _ => ⟨[], rfl, rfl, (by intro _ h; cases h), (by intro _ h; cases h)⟩
  | z :: r, h => by
    obtain ⟨hc, e1, e2, e3, e6⟩ := cells_of g r fun y hy => h y (.tail _ hy)
    obtain ⟨H, t, e4, e5, e7⟩ := h z (.head _)
    refine ⟨((H, t), g z.1) :: hc, ?_, ?_, ?_, ?_⟩
    · simp only [List.map_cons]; rw [e1, e4]
    · simp only [List.map_cons]; rw [e2]
    · intro c hc'
      rcases List.mem_cons.mp hc' with rfl | hc'
      · exact e5
      · exact e3 c hc'
    · intro c hc'
      rcases List.mem_cons.mp hc' with rfl | hc'
      · exact e7
      · exact e6 c hc'
/-- the hues of the row and the marks of the wheel -/
structure At2 (cols : List (Addr × Nat)) (sz : Int) (z : Nat) (hc mc : List FCell) : Prop where
  hpl : hc.map (·.2) = cols.map (·.2)
  hIs : ∀ c ∈ hc, IsMk c.2 c.1.1
  mpl : mc.map (·.2) = (List.range sz.toNat).map (z * ·)
  mIs : ∀ c ∈ mc, IsMk c.2 c.1.1
  hTk : ∀ c ∈ hc, c.1.2 ≠ 0
  mTk : ∀ c ∈ mc, c.1.2 ≠ 0
theorem at2_of {cols : List (Addr × Nat)} {sz : Int} {z : Nat} {zsH : List ((Addr × Nat) × Value)} {zsM : List (Nat × Value)} (e1 : zsH.map (·.1) = cols) (h1 : ∀ z ∈ zsH, ∃ H t, z.2 = Value.float H t ∧ IsMk z.1.2 H ∧ t ≠ 0)
    (e2 : zsM.map (·.1) = List.range sz.toNat) (h2 : ∀ y ∈ zsM, ∃ H t, y.2 = Value.float H t ∧ IsMk (z * y.1) H ∧ t ≠ 0) :
    ∃ hc mc, zsH.map (·.2) = hc.map fval ∧ zsM.map (·.2) = mc.map fval ∧ At2 cols sz z hc mc := by
  obtain ⟨hc, a1, a2, a3, a4⟩ := cells_of (fun c : Addr × Nat => c.2) zsH h1
  obtain ⟨mc, b1, b2, b3, b4⟩ := cells_of (fun k : Nat => z * k) zsM h2
  refine ⟨hc, mc, a1, b1, ?_, a3, ?_, b3, a4, b4⟩
  · rw [a2, ← e1, List.map_map]; rfl
  · rw [b2, ← e2, List.map_map]; rfl
theorem offB {L H M : Addr} {o1 o2 o3 o4 o5 o6 o7 o8 tab oh om : Obj} {objs objs2 : List (Addr × Obj)} (h : OffC L objs)
    (a : ∀ p ∈ cellsOf L o1 o2 o3 o4 o5 o6 o7 o8 tab objs2, p.1 ≠ H) (b : ∀ p ∈ cellsOf L o1 o2 o3 o4 o5 o6 o7 o8 tab objs2, p.1 ≠ M) : OffC L ((H, oh) :: (M, om) :: objs) :=
  OffC.cons (offc_one a) (OffC.cons (offc_one b) h)
end Mine
end
section
open PySem PySem.W PyProof.Rows PySem.Flt
namespace Mine
theorem off_nine {L D : Nat} {R : Prop} (h : L + 1 + 1 + 1 + 1 + 1 + 1 + 1 + 1 ≠ D ∧ L + 1 + 1 + 1 + 1 + 1 + 1 + 1 ≠ D ∧ L + 1 + 1 + 1 + 1 + 1 + 1 ≠ D ∧ L + 1 + 1 + 1 + 1 + 1 ≠ D ∧ L + 1 + 1 + 1 + 1 ≠ D ∧ L + 1 + 1 + 1 ≠ D ∧ L + 1 + 1 ≠ D ∧ L + 1 ≠ D ∧ 98 ≠ D ∧ R) : D ≠ 98 ∧ (D ≤ L ∨ L + 8 < D) := by
  obtain ⟨a1, a2, a3, a4, a5, a6, a7, a8, a9, _⟩ := h
  omega
theorem and_tl {A C : Prop} (h : A ∧ C) : C := h.2
theorem sz_rng {sz : Int} {z : Nat} (hz : (sz = 16 ∧ z = 2) ∨ (sz = 32 ∧ z = 1)) : -(2 ^ 62) ≤ sz ∧ sz < 2 ^ 62 ∧ sz.toNat ≤ 16777216 ∧ sz.toNat < 1000 := by omega
theorem fit_rng {k : Nat} (h : k < 1000) : (0 + (k : Int)).natAbs < 2 ^ 1023 := fit_small (by omega)
theorem mark_is {sz : Int} {z k : Nat} {PT : UInt64} (hz : (sz = 16 ∧ z = 2) ∨ (sz = 32 ∧ z = 1)) (hPT : Flt.Hid (partOf sz.toNat = PT)) (h : k < sz.toNat) : IsMk (z * k) (Float64.mul (Float64.ofInt (0 + (k : Int))) PT) := by
  refine ⟨by rcases hz with ⟨rfl, rfl⟩ | ⟨rfl, rfl⟩ <;> simp at h <;> omega, ?_⟩
  rw [Int.zero_add, mul_part hz hPT (by omega) (by omega), Int.toNat_natCast]
theorem keepB {L : Addr} {o1 o2 o3 o4 o5 o6 o7 o8 tab : Obj} {tl : List (Addr × Obj)} {t h k r d : Addr × Obj} : ∀ p ∈ cellsOf L o1 o2 o3 o4 o5 o6 o7 o8 tab (h :: k :: r :: d :: tl), p ∈ t :: k :: h :: cellsOf L o1 o2 o3 o4 o5 o6 o7 o8 tab (r :: d :: tl) := by
  intro p hp
  rcases cells_mem.mp hp with h | hp
  · exact .tail _ (.tail _ (.tail _ (cells_mem.mpr (.inl h))))
  · rcases List.mem_cons.mp hp with rfl | hp
    · exact .tail _ (.tail _ (.head _))
    · rcases List.mem_cons.mp hp with rfl | hp
      · exact .tail _ (.head _)
      · exact .tail _ (.tail _ (.tail _ (cells_mem.mpr (.inr hp))))
set_option maxRecDepth 100000 in
set_option maxHeartbeats 8000000 in
theorem segB1 {prog : Program} {w : World} {p : Program} {loose : List Str} {mean : ExcName → Option Value} {mg mb : Str → Option Value} {h₀ : Heap} {L fa : Addr} {m : Str → Option Value} {s : Shared} {Q : Flow → Shared → Prop} {E : Value → Shared → Prop}
    {o1 o2 o3 o4 o5 o6 o7 o8 tab : Obj} {v5 v6 v7 v8 : Option Value} {D9 row : Addr} {vs9 : List Value} {ns9 : List Int} {n9 nr z : Nat} {n0 n1 sz ct : Int} {PT : UInt64} {tl : List (Addr × Obj)} {cols : List (Addr × Nat)} {t2 t3 t4 : Tok}
    (B : Below callerA h₀ [] h₀) (X : (hd.heap_39 w.params).In h₀) (T : Top p loose mean mg mb h₀) (h98 : @LT.lt Nat _ 98 L)
    (a1 : At1 vs9 ns9 n0 n1 sz z ct PT tl cols)
    (d1 : o1.data = .cell (some (.ref D9))) (d2 : o2.data = .cell (some (.int sz t2))) (d3 : o3.data = .cell (some (.int ct t3))) (d4 : o4.data = .cell (some (.float PT t4)))
    (d5 : o5.data = .cell v5) (d6 : o6.data = .cell v6) (d7 : o7.data = .cell v7) (d8 : o8.data = .cell v8)
    (hoff : OffC L ((row, rowObj cols nr) :: (D9, listOf vs9.toArray n9) :: tl))
    (F : Fr h₀ L s.heap (fun y => if y = Str.ofString "row" then some (.ref row) else m y)) (N : News h₀ L s.heap (cellsOf L o1 o2 o3 o4 o5 o6 o7 o8 tab ((row, rowObj cols nr) :: (D9, listOf vs9.toArray n9) :: tl)))
    (hnext : ∀ HU MK hc mc nh nm o5 h' tk', At2 cols sz z hc mc → o5.data = .cell (some (.ref MK)) → OffC L ((HU, fltObj hc nh) :: (MK, fltObj mc nm) :: (row, rowObj cols nr) :: (D9, listOf vs9.toArray n9) :: tl) →
      Fr h₀ L h' (fun y => if y = Str.ofString "hues" then some (.ref HU) else if y = Str.ofString "row" then some (.ref row) else m y) →
      News h₀ L h' (cellsOf L o1 o2 o3 o4 o5 o6 o7 o8 tab ((HU, fltObj hc nh) :: (MK, fltObj mc nm) :: (row, rowObj cols nr) :: (D9, listOf vs9.toArray n9) :: tl)) →
      wpAny (model prog w) (lawA L fa) (execs (lawStmts 5) (lawEnv L fa)) Q E { s with heap := h', toks := tk' }) :
    wpAny (model prog w) (lawA L fa) (execs (lawStmts 4) (lawEnv L fa)) Q E s := by
  have hfill : PySem.Challenge.rw_rl0050_01 = PySem.Challenge.rw_rl0050_01 ∧ hd.heap_39 = hd.heap_39 := by
    k_fill
    exact ⟨rfl, rfl⟩
  clear hfill
  w_top off
  obtain ⟨hI9, hlen9, hn0, hn1, hp0, hp1, hz, hct, hPT, hS⟩ := a1
  have hcl := hS.len
  k_with_none
  k_with "execs cons" => ((with_reducible show wpAny _ _ (execs [_, _, _, _, _, _, _, _] _) _ _ _); (show wpAny _ _ (execs (lawStmts 5) _) _ _ _); refine leave_it ?_)
  k_with "eval ListComp" => (k_here; (with_reducible show wpAny _ _ (eval (PySem.Expr.ListComp (PySem.Expr.Call _ _ _ _) _ _ _) _) _ _ _); k_dflt (refine LCg.ListComp_U (F₀ := by k_asm) (by with_unfolding_all rfl) (by decide) (by rfl) (by decide) (by rfl) ?_))
  k_with "eval ListComp" => (k_here; (with_reducible show wpAny _ _ (eval (PySem.Expr.ListComp (PySem.Expr.BinOp _ _ _ _) _ _ _) _) _ _ _); k_dflt (refine ListComp_R (F₀ := by k_asm) (by with_unfolding_all rfl) (by decide) (by rfl) (by decide) (by rfl) ?_))
  k_with "CompSrc" => (k_here; (with_reducible show LCg.CompSrc _ _ _ _ _ _ _ _ _ _ _ _ (Value.ref row) _); k_dflt (refine' LCg.CompSrc.ledger (by rfl) ?F ?N (show (row, rowObj cols nr) ∈ _ from ?mem) ?sz ?_; (case F => k_asm); (case N => k_asm); (case mem => k_mem); (case sz => (rw [List.size_toArray, List.length_map, PySem.sizeLine_eq]; omega))); intro g'; (refine' comp_rest (ks := cols) (fun c v => v = Value.ref c.1) (fun c y => ∃ H t, y = Value.float H t ∧ IsMk c.2 H ∧ t ≠ 0) ?hks ?hP ?hS ?turn ?fin); (case hks => (rw [List.size_toArray, List.length_map])); (case hP => (intro i v hi hv; simp only [List.getElem?_toArray, List.getElem?_map, Option.map_eq_some_iff] at hv; obtain ⟨c, hc, e⟩ := hv; exact ⟨c, hc, e.symm⟩)); (case hS => exact .inr ⟨_, (show (row, rowObj cols nr) ∈ _ from by k_mem), rfl, _, rfl⟩); (case' turn => (rintro c' _ I' oI' C' oC' D' m' ys' h' tk' E' hk' rfl hC' hx' F' N' off' ne'; (try k_fold))); (case' fin => (intro zsH hzH hrH)))
  k_with "CtEnd" => (exact ⟨_, _, rfl, by assumption, by assumption, _, _, rfl, by assumption, by assumption⟩)
  k_with "OwnR" => (k_here; k_dflt (refine' ownR_intro (n := (sz).toNat) (fun k y => ∃ H t, y = Value.float H t ∧ IsMk (z * k) H ∧ t ≠ 0) (by rfl) ?F ?N ?hr ?sm ?rs ?sz ?turn1 ?fin1; (case F => k_asm); (case N => k_asm); (case hr => assumption); (case sm => exact small_one (by decide) (by decide) (sz_rng hz).1 (sz_rng hz).2.1); (case rs => exact (rangeSize_nat _ _).trans (by rw [Int.sub_zero])); (case sz => (rw [PySem.sizeLine_eq]; exact (sz_rng hz).2.2.1))); (case' turn1 => (intro k' t' I' oI' C' oC' D' m' ys' h' tk' E' hk9 hC' hx' htk9 F' N'; (have hf9 : k' < 1000 := Nat.lt_trans hk9 (sz_rng hz).2.2.2); (try dsimp only); (try k_fold))); (case' fin1 => (intro zsM hzM hrM D9' h' tk' F' N' o1'; (try simp only [LCg.Off1, and_true] at o1'); (try simp only [List.nil_append, List.cons_append] at N'); (try dsimp only))))
  k_with "CtEnd" => (exact ⟨_, _, rfl, by assumption, by assumption, _, _, rfl, mark_is hz hPT hk9, Nat.ne_of_gt htk9⟩)
  k_with "subscriptTail" => (k_here; (with_reducible show wpAny _ _ (subscriptTail _ _ (Value.ref D9) (Value.int 0 _)) _ _ _); k_dflt (refine' item_intsK ?k1 (show (D9, listOf vs9.toArray n9) ∈ _ from ?hm) hI9 hn0 (by decide) (by omega) ?_; (case k1 => k_asm); (case hm => k_mem)); intro t'; (try dsimp only))
  k_with "mulF" => (refine mul_if_fits (fit_rng hf9) ?_; (try dsimp only))
  k_with "call ref" => (k_here; (with_reducible show wpAny _ _ (call (Value.ref 75) [Value.ref _] _) _ _ _); k_dflt (refine' hue_col ?ok ?B ?F ?X ?N ?T ?hk ?hdp ?hun ?_; (case F => k_asm); (case N => k_asm); (case B => k_asm); (case X => k_asm); (case T => k_asm); (case hk => first | exact rfl | assumption); (case hdp => ktr_room); (case hun => ktr_units); (case ok => exact (hS.at_ _ hk').mono (fun p hp => by k_mem))); intro H' t1' h' tk' iM' tn' F' N'; (try dsimp only); (try k_fold); (try k_sweep))
  show wpAny _ _ (execs [_, _, _, _, _, _, _, _, _] _) _ _ _
  k_steps
  unfold Leave
  obtain ⟨hc, mc, eH, eM, hat⟩ := at2_of hzH hrH hzM hrM
  (rename News _ _ _ _ => N9)
  rw [eH, eM] at N9
  refine' hnext _ _ hc mc (hc.map fval).length (mc.map fval).length _ _ _ hat ?d ?off ?F ?N
  (case F => assumption)
  (case d => assumption)
  (case N => exact kst_newsOf N9 keepB)
  (case off => exact OffC.cons (off_nine (by assumption)) (OffC.cons (off_nine (and_tl (by assumption))) hoff))
end Mine
end
section
open PySem PySem.W PyProof.Rows PySem.Flt
namespace Mine
theorem ct_rng {ct : Int} (hct : ct = 3 ∨ ct = 5 ∨ ct = 7) : -(2 ^ 62) ≤ ct ∧ ct < 2 ^ 62 ∧ ct.toNat ≤ 16777216 ∧ ct.toNat < 1000 := by omega
/-- the drawn places -/
def placesOf (n0 sz ct : Int) : List Int := (List.range ct.toNat).map fun (k : Nat) => Int.fmod (Int.fdiv n0 6 + Int.fdiv ((0 + (k : Int)) * sz) ct) sz
theorem ints_of {α : Type} (g : α → Int) : ∀ zs : List (α × Value), (∀ z ∈ zs, ∃ t, z.2 = Value.int (g z.1) t) → IntsAre (zs.map (·.2)) (zs.map fun z => g z.1)
  | [], _ => .nil
  | z :: r, h => by
    obtain ⟨t, e⟩ := h z (.head _)
    simp only [List.map_cons]
    rw [e]
    exact .cons _ _ (ints_of g r fun y hy => h y (.tail _ hy))
theorem keepP {L : Addr} {o1 o2 o3 o4 o5 o6 o7 o8 tab : Obj} {tl : List (Addr × Obj)} {t : Addr × Obj} : ∀ p ∈ cellsOf L o1 o2 o3 o4 o5 o6 o7 o8 tab (t :: tl), p ∈ t :: cellsOf L o1 o2 o3 o4 o5 o6 o7 o8 tab tl := by
  intro p hp
  rcases cells_mem.mp hp with h | hp
  · exact .tail _ (cells_mem.mpr (.inl h))
  · rcases List.mem_cons.mp hp with rfl | hp
    · exact .head _
    · exact .tail _ (cells_mem.mpr (.inr hp))
set_option maxRecDepth 100000 in
set_option maxHeartbeats 8000000 in
theorem segB2 {prog : Program} {w : World} {p : Program} {loose : List Str} {mean : ExcName → Option Value} {mg mb : Str → Option Value} {h₀ : Heap} {L fa : Addr} {m : Str → Option Value} {s : Shared} {Q : Flow → Shared → Prop} {E : Value → Shared → Prop}
    {o1 o2 o3 o4 o5 o6 o7 o8 tab : Obj} {v6 v7 v8 : Option Value} {D9 HU MK row : Addr} {vs9 : List Value} {ns9 : List Int} {n9 nr nh nm z : Nat} {n0 n1 sz ct : Int} {PT : UInt64} {tl : List (Addr × Obj)} {cols : List (Addr × Nat)} {hc mc : List FCell} {t2 t3 t4 : Tok}
    (B : Below callerA h₀ [] h₀) (X : (hd.heap_39 w.params).In h₀) (T : Top p loose mean mg mb h₀) (h98 : @LT.lt Nat _ 98 L)
    (a1 : At1 vs9 ns9 n0 n1 sz z ct PT tl cols)
    (d1 : o1.data = .cell (some (.ref D9))) (d2 : o2.data = .cell (some (.int sz t2))) (d3 : o3.data = .cell (some (.int ct t3))) (d4 : o4.data = .cell (some (.float PT t4)))
    (d5 : o5.data = .cell (some (.ref MK))) (d6 : o6.data = .cell v6) (d7 : o7.data = .cell v7) (d8 : o8.data = .cell v8)
    (hoff : OffC L ((HU, fltObj hc nh) :: (MK, fltObj mc nm) :: (row, rowObj cols nr) :: (D9, listOf vs9.toArray n9) :: tl))
    (F : Fr h₀ L s.heap m) (N : News h₀ L s.heap (cellsOf L o1 o2 o3 o4 o5 o6 o7 o8 tab ((HU, fltObj hc nh) :: (MK, fltObj mc nm) :: (row, rowObj cols nr) :: (D9, listOf vs9.toArray n9) :: tl)))
    (hnext : ∀ PL vsP np o8 h' tk', IntsAre vsP (placesOf n0 sz ct) → o8.data = .cell (some (.ref PL)) → OffC L ((PL, listOf vsP.toArray np) :: (HU, fltObj hc nh) :: (MK, fltObj mc nm) :: (row, rowObj cols nr) :: (D9, listOf vs9.toArray n9) :: tl) →
      Fr h₀ L h' m →
      News h₀ L h' (cellsOf L o1 o2 o3 o4 o5 o6 o7 o8 tab ((PL, listOf vsP.toArray np) :: (HU, fltObj hc nh) :: (MK, fltObj mc nm) :: (row, rowObj cols nr) :: (D9, listOf vs9.toArray n9) :: tl)) →
      wpAny (model prog w) (lawA L fa) (execs (lawStmts 6) (lawEnv L fa)) Q E { s with heap := h', toks := tk' }) :
    wpAny (model prog w) (lawA L fa) (execs (lawStmts 5) (lawEnv L fa)) Q E s := by
  have hfill : PySem.Challenge.rw_rl0050_01 = PySem.Challenge.rw_rl0050_01 ∧ hd.heap_39 = hd.heap_39 := by
    k_fill
    exact ⟨rfl, rfl⟩
  clear hfill
  w_top off
  obtain ⟨hI9, hlen9, hn0, hn1, hp0, hp1, hz, hct, hPT, hS⟩ := a1
  k_with_none
  k_with "execs cons" => ((with_reducible show wpAny _ _ (execs [_, _, _, _, _, _, _] _) _ _ _); (show wpAny _ _ (execs (lawStmts 6) _) _ _ _); refine leave_it ?_)
  k_with "eval ListComp" => (k_here; k_dflt (refine LCg.ListComp_U (F₀ := by k_asm) (by with_unfolding_all rfl) (by decide) (by rfl) (by decide) (by rfl) ?_))
  k_with "CompSrc" => (k_here; (with_reducible show LCg.CompSrc _ _ _ _ _ _ _ (PySem.Expr.BinOp (PySem.Expr.BinOp _ _ _ _) _ (PySem.Expr.Name _ _) _) _ _ _ _ (Value.ref _) _); k_dflt (refine' LCg.CompSrc.range (n := (ct).toNat) (by rfl) ?F ?N ?hr ?sm ?rs ?sz ?_; (case F => k_asm); (case N => k_asm); (case hr => assumption); (case sm => exact small_one (by decide) (by decide) (ct_rng hct).1 (ct_rng hct).2.1); (case rs => exact (rangeSize_nat _ _).trans (by rw [Int.sub_zero])); (case sz => (rw [PySem.sizeLine_eq]; exact (ct_rng hct).2.2.1))); intro g'; (refine' comp_rest (ks := List.range (ct).toNat) (fun k v => ∃ t, v = Value.int (0 + (k : Int)) t) (fun k y => ∃ t, y = Value.int (Int.fmod (Int.fdiv n0 6 + Int.fdiv ((0 + (k : Int)) * sz) ct) sz) t) ?hks2 ?hP2 ?hS2 ?turn2 ?fin2); (case hks2 => exact List.length_range); (case hP2 => (rintro i v hi ⟨t, e⟩; exact ⟨i, by rw [List.getElem?_range hi], t, e⟩)); (case hS2 => trivial); (case' turn2 => (rintro k' _ I' oI' C' oC' D' m' ys' h' tk' E' hk' ⟨t', rfl⟩ hC' hx' F' N' off' ne'; (have hk9 := List.mem_range.mp hk'); (have hf9 : k' < 1000 := Nat.lt_trans hk9 (ct_rng hct).2.2.2); (try k_fold))); (case' fin2 => (intro zsP hzP hrP)))
  k_with "CtEnd" => (exact ⟨_, _, rfl, by assumption, by assumption, _, rfl⟩)
  k_with "subscriptTail" => (k_here; (with_reducible show wpAny _ _ (subscriptTail _ _ (Value.ref D9) (Value.int 0 _)) _ _ _); k_dflt (refine' item_intsK ?k1 (show (D9, listOf vs9.toArray n9) ∈ _ from ?hm) hI9 hn0 (by decide) (by omega) ?_; (case k1 => k_asm); (case hm => k_mem)); intro t'; (try dsimp only))
  show wpAny _ _ (execs [_, _, _, _, _, _, _, _] _) _ _ _
  k_steps
  unfold Leave
  (rename News _ _ _ _ => N9)
  have hI9 := ints_of (fun k : Nat => Int.fmod (Int.fdiv n0 6 + Int.fdiv ((0 + (k : Int)) * sz) ct) sz) zsP hrP
  have ePL : (zsP.map fun z => Int.fmod (Int.fdiv n0 6 + Int.fdiv ((0 + (z.1 : Int)) * sz) ct) sz) = placesOf n0 sz ct := by
    unfold placesOf
    rw [← hzP, List.map_map]
    rfl
  rw [ePL] at hI9
  refine' hnext _ (zsP.map (·.2)) (zsP.map (·.2)).length _ _ _ hI9 ?d ?off ?F ?N
  (case d => assumption)
  (case F => assumption)
  (case N => exact kst_newsOf N9 keepP)
  (case off => exact OffC.cons (off_nine (by assumption)) hoff)
end Mine
end
section
open PySem PySem.W PyProof.Rows
namespace Mine
set_option maxRecDepth 100000
def eqOk (P : Nat) : Bool := match Float64.cmp (mkH P) (mkH P) with
  | some .eq => true
  | _ => false
theorem eq_all : all2 32 eqOk = true := by decide +kernel
theorem mk_eq {P : Nat} (h : P < 32) : (Float64.cmp (mkH P) (mkH P) == some .eq) = true := by
  have h := all2_of eq_all P h
  unfold eqOk at h
  split at h
  · rename_i e; rw [e]; rfl
  · cases h
theorem isSame_float {M : Model} {A : Around} {E : Value → Shared → Prop} {s : Shared} {y z : UInt64} {u v : Tok} {Q : Bool → Shared → Prop}
    (hu : u ≠ 0) (hv : v ≠ 0) (hb : NoneBooked s.heap) (hq : ∀ b, Q b s) : wpAny M A (isSame (.float y u) (.float z v)) Q E s := by
  show wpAny M A (isSame.created (y == z && !Float64.isNaN y) u v) Q E s
  have h0 : (u == 0 || v == 0) = false := by simp [hu, hv]
  unfold isSame.created
  refine wpAny_ite ?_
  split
  · rename_i h; rw [h0] at h; exact absurd h Bool.false_ne_true
  refine wpAny_ite ?_
  split
  · exact wpAny_pure (hq _)
  refine wpAny_ite ?_
  split
  · exact wpAny_pure (hq _)
  refine wpAny_bind (wpAny_sharingNotTold_none hb ?_)
  first | rw [if_neg Bool.false_ne_true] | simp only [Bool.false_eq_true, if_false]
  refine wpAny_bind (wpAny_sharingNotTold_none hb ?_)
  first | rw [if_neg Bool.false_ne_true] | simp only [Bool.false_eq_true, if_false]
  exact wpAny_bind (wpAny_rule (wpAny_bind (wpAny_askSetting (wpAny_pure (hq _)))))
theorem eqAt_float {A : Around} {s : Shared} {H : UInt64} {t u : Tok} (ht : t ≠ 0) (hu : u ≠ 0) (hb : NoneBooked s.heap) (hc : (Float64.cmp H H == some .eq) = true) : SeqAt.EqAt A s (.float H t) (.float H u) true := fun prog w E Q h => by
  unfold eqBool
  refine wpAny_holding ?_
  refine wpAny_ite_split (fun _ => ?_) (fun _ => ?_)
  · exact wpAny_bind (wpAny_rule (wpAny_pure h))
  · refine wpAny_bind (isSame_float ht hu hb fun b => ?_)
    cases b with
    | true => exact wpAny_pure h
    | false =>
      refine wpAny_bind ?_
      have := AutoFloatOps.eq_0 (prog := prog) (w := w) (A := A) (E := E) (s := s) (a := H) (b := H) (t := t) (u := u) (Q := fun v s' => wpAny (model prog w) A (truthOfDropped v) Q E s')
        (wpAny_truthy_bool (by rw [hc]; exact h))
      exact this
end Mine
end
section
open PySem PySem.W PyProof.Rows
namespace Mine
set_option maxRecDepth 100000
theorem booked_none {w : World} {h₀ h : Heap} {L : Addr} {m : Str → Option Value} (X : (hd.heap_39 w.params).In h₀) (F : Fr h₀ L h m) : NoneBooked h := by
  have e : h₀.get? 2 = some { cls := Value.none, data := Data.dict #[] } := X 2 _ (by unfold hd.heap_39; rfl)
  exact ⟨fun _ => none, ⟨_, #[], _, F.keep _ _ e, rfl, fun x hx => by simp at hx, fun name => rfl⟩, rfl⟩
theorem cells_get {xs : List FCell} {j : Nat} (h1 : j < (xs.map fval).toArray.size) : ∃ c, xs[j]? = some c ∧ (xs.map fval).toArray[j] = fval c := by
  have h : j < xs.length := by simpa using h1
  exact ⟨xs[j], by simp [h], by simp⟩
theorem ne_cells {prog : Program} {w : World} {A : Around} {E : Value → Shared → Prop} {s : Shared} {Q : Value → Shared → Prop} {h₀ : Heap} {L : Addr} {news : List (Addr × Obj)} {a b : Addr} {xs ys : List FCell} {n k : Nat}
    (N : News h₀ L s.heap news) (ha : (a, fltObj xs n) ∈ news) (hb : (b, fltObj ys k) ∈ news) (hm : xs.map (·.2) = ys.map (·.2)) (hx : ∀ c ∈ xs, IsMk c.2 c.1.1) (hy : ∀ c ∈ ys, IsMk c.2 c.1.1) (hxt : ∀ c ∈ xs, c.1.2 ≠ 0) (hyt : ∀ c ∈ ys, c.1.2 ≠ 0)
    (hbk : NoneBooked s.heap) (hu : A.units < cLine) (h : Q (.bool false) s) : wpAny (model prog w) A (compareOp .NotEq (.ref a) (.ref b)) Q E s := by
  have hlen : xs.length = ys.length := by have := congrArg List.length hm; simpa using this
  have hl : s.heap.IsList a (xs.map fval).toArray := ⟨_, (N _ ha).1, rfl, n, rfl⟩
  have hl2 : s.heap.IsList b (ys.map fval).toArray := ⟨_, (N _ hb).1, rfl, k, rfl⟩
  refine SeqAt.RcNeAt.lists (e := fun _ => true) hl hl2 (by simp [hlen]) hu (fun j h1 h2 => ?_) prog w E Q ?_
  · obtain ⟨c, hc, e1⟩ := cells_get h1
    obtain ⟨d, hd', e2⟩ := cells_get h2
    rw [e1, e2]
    have hc' := List.mem_of_getElem? hc
    have hd'' := List.mem_of_getElem? hd'
    have e3 : c.2 = d.2 := by
      have := congrArg (fun l => l[j]?) hm
      simp only [List.getElem?_map, hc, hd', Option.map_some, Option.some.injEq] at this
      exact this
    have i1 := hx c hc'
    have i2 := hy d hd''
    have e4 : c.1.1 = d.1.1 := by rw [← i1.eq, ← i2.eq, e3]
    obtain ⟨⟨H, t⟩, P⟩ := c
    obtain ⟨⟨J, u⟩, R⟩ := d
    simp only at e4
    subst e4
    refine eqAt_float (hxt _ hc') (hyt _ hd'') hbk ?_
    have := i1.eq
    simp only at this
    rw [← this]
    exact mk_eq i1.lt
  · have : ((List.range (xs.map fval).toArray.size).all fun _ => true) = true := by simp
    rw [this]
    exact h
end Mine
end
section
open PySem PySem.W PyProof.Rows PySem.Flt
namespace Mine
theorem src_led {h₀ : Heap} {ax : Addr} {its : Array Value} {k : Nat} {news : List (Addr × Obj)} (h : (ax, listOf its k) ∈ news) : LCg.SrcAt h₀ ax its news := Or.inr ⟨_, h, rfl, _, rfl⟩
theorem At2.markAt {cols : List (Addr × Nat)} {sz : Int} {z : Nat} {hc mc : List FCell} (h : At2 cols sz z hc mc) {i : Int} {c : FCell} (e : mc[i.toNat]? = some c) : IsMk (z * i.toNat) c.1.1 ∧ c.1.2 ≠ 0 := by
  have hm := List.mem_of_getElem? e
  have h1 := congrArg (fun l => l[i.toNat]?) h.mpl
  simp only [List.getElem?_map, e, Option.map_some] at h1
  have h2 : i.toNat < sz.toNat := by
    have : i.toNat < mc.length := (List.getElem?_eq_some_iff.mp e).1
    have hl := congrArg List.length h.mpl
    simp at hl
    omega
  rw [List.getElem?_range h2] at h1
  simp only [Option.map_some, Option.some.injEq] at h1
  rw [← h1]
  exact ⟨h.mIs _ hm, h.mTk _ hm⟩
theorem At2.mlen {cols : List (Addr × Nat)} {sz : Int} {z : Nat} {hc mc : List FCell} (h : At2 cols sz z hc mc) : mc.length = sz.toNat := by
  have hl := congrArg List.length h.mpl
  simpa using hl
set_option maxRecDepth 100000 in
set_option maxHeartbeats 8000000 in
theorem segC {prog : Program} {w : World} {p : Program} {loose : List Str} {mean : ExcName → Option Value} {mg mb : Str → Option Value} {h₀ : Heap} {L fa : Addr} {m : Str → Option Value} {s : Shared} {Q : Flow → Shared → Prop} {E : Value → Shared → Prop}
    {o1 o2 o3 o4 o5 o6 o7 o8 tab : Obj} {v1 v2 v3 v4 v6 v7 : Option Value} {HU MK PL : Addr} {objs : List (Addr × Obj)} {vsP : List Value} {nsP : List Int} {nh nm np z : Nat} {sz ct : Int} {cols : List (Addr × Nat)} {hc mc : List FCell}
    (B : Below callerA h₀ [] h₀) (X : (hd.heap_39 w.params).In h₀) (T : Top p loose mean mg mb h₀) (h98 : @LT.lt Nat _ 98 L)
    (hHU : (HU, fltObj hc nh) ∈ objs) (hMK : (MK, fltObj mc nm) ∈ objs) (hPL : (PL, listOf vsP.toArray np) ∈ objs) (a2 : At2 cols sz z hc mc) (hIP : IntsAre vsP nsP) (hPlen : nsP.length ≤ 7) (hPb : ∀ x ∈ nsP, 0 ≤ x ∧ x < sz) (hsz : sz ≤ 32)
    (hsame : ∀ ns' : List Int, ns'.Perm nsP → ns'.Pairwise (· ≤ ·) → hc.map (·.2) = ns'.map fun x => z * x.toNat)
    (d1 : o1.data = .cell v1) (d2 : o2.data = .cell v2) (d3 : o3.data = .cell v3) (d4 : o4.data = .cell v4)
    (d5 : o5.data = .cell (some (.ref MK))) (d6 : o6.data = .cell v6) (d7 : o7.data = .cell v7) (d8 : o8.data = .cell (some (.ref PL)))
    (hoff : OffC L objs)
    (F : Fr h₀ L s.heap (fun y => if y = Str.ofString "hues" then some (.ref HU) else m y)) (N : News h₀ L s.heap (cellsOf L o1 o2 o3 o4 o5 o6 o7 o8 tab objs))
    (hnext : ∀ h' tk', Fr h₀ L h' (fun y => if y = Str.ofString "hues" then some (.ref HU) else m y) →
      News h₀ L h' (cellsOf L o1 o2 o3 o4 o5 o6 o7 o8 tab objs) →
      wpAny (model prog w) (lawA L fa) (execs (lawStmts 7) (lawEnv L fa)) Q E { s with heap := h', toks := tk' }) :
    wpAny (model prog w) (lawA L fa) (execs (lawStmts 6) (lawEnv L fa)) Q E s := by
  have hfill : PySem.Challenge.rw_rl0050_01 = PySem.Challenge.rw_rl0050_01 ∧ hd.heap_39 = hd.heap_39 := by
    k_fill
    exact ⟨rfl, rfl⟩
  clear hfill
  w_top off
  have hml := a2.mlen
  k_with_none
  k_with "execs cons" => ((with_reducible show wpAny _ _ (execs [_, _, _, _, _, _] _) _ _ _); (show wpAny _ _ (execs (lawStmts 7) _) _ _ _); refine leave_it ?_)
  k_with "eval ListComp" => (k_here; k_dflt (refine LCg.ListComp_U (F₀ := by k_asm) (by with_unfolding_all rfl) (by decide) (by rfl) (by decide) (by rfl) ?_))
  k_with "call builtin:sorted" => (k_here; k_dflt (refine' kso_sorted (l := PL) (vs := vsP) ?k1 ?k2 ?k3 hIP (by omega) ?_; (case k1 => k_asm); (case k2 => k_asm); (case k3 => exact News.isList (by k_asm) (show (PL, listOf vsP.toArray np) ∈ _ from by k_mem))); intro DS vsS nsS cS h' F' N' l1 iS eS pS oS _; (try dsimp only); (try k_fold); (try k_sweep))
  k_with "CompSrc" => (k_here; k_dflt (refine' LCg.CompSrc.ledger (by rfl) ?F ?N (.head _) ?sz ?_; (case F => k_asm); (case N => k_asm); (case sz => (rw [List.size_toArray, iS.length, eS, PySem.sizeLine_eq]; omega))); intro g'; (refine' comp_rest (ks := nsS) (fun k v => ∃ t, v = Value.int k t) (fun k y => ∃ H t, y = Value.float H t ∧ IsMk (z * k.toNat) H ∧ t ≠ 0) ?hks ?hP ?hS ?turn ?fin); (case hks => (rw [List.size_toArray]; exact iS.length.symm)); (case hP => (intro i v hi hv; obtain ⟨k, t, e, hk⟩ := IntsAre.at iS i v (by simpa using hv); exact ⟨k, hk, t, e⟩)); (case hS => exact src_led List.mem_cons_self); (case' turn => (rintro k' _ I' oI' C' oC' D' m' ys' h' tk' E' hk' ⟨t', rfl⟩ hC' hx' F' N' off' ne'; (have hb9 := hPb _ (pS.mem_iff.mp hk')); (try k_fold))); (case' fin => (intro zsM hzM hrM)))
  k_with "subscriptTail" => (k_here; (with_reducible show wpAny _ _ (subscriptTail _ _ (Value.ref MK) (Value.int _ _)) _ _ _); k_dflt (refine' item_led (f := fval) (cs := mc) ?k1 (show (MK, fltObj mc nm) ∈ _ from ?hm) (by omega) (by omega) (by omega) ?_; (case k1 => k_asm); (case hm => k_mem)); intro c' hc'; (have hma' := a2.markAt hc'); (try dsimp only))
  k_with "CtEnd" => (exact ⟨_, _, rfl, by assumption, by assumption, _, _, rfl, hma'.1, hma'.2⟩)
  k_with "compareOp NotEq ref ref" => (k_here; (have hcs := cells_of (fun k : Int => z * k.toNat) zsM hrM); (obtain ⟨xs', x1', x2', x3', x4'⟩ := hcs); (rename News _ _ _ _ => N9); (rename Fr _ _ _ _ => F9); rw [x1'] at N9; k_dflt (refine' ne_cells (xs := hc) (ys := xs') (n := nh) (k := (xs'.map fval).length) N9 ?k1 ?k2 ?k3 a2.hIs x3' a2.hTk x4' (booked_none X F9) ?k4 ?_; (case k1 => exact (show (HU, fltObj hc nh) ∈ _ from by k_mem)); (case k2 => exact .head _); (case k3 => (rw [x2']; (have e9 := hsame _ pS oS); rw [← hzM, List.map_map] at e9; k_dflt (exact e9))); (case k4 => ktr_units)); (try dsimp only))
  show wpAny _ _ (execs [_, _, _, _, _, _, _] _) _ _ _
  k_steps
  unfold Leave
  (rename News _ _ _ (_ :: _ :: _) => N9)
  refine' hnext _ _ ?F ?N
  (case F => assumption)
  (case N => exact kst_newsOf N9 fun p hp => .tail _ (.tail _ hp))
end Mine
end
section
open PySem PySem.W PyProof.Rows PySem.Flt
namespace Mine
/-- step k + 1 is in the chord -/
def stepQ (n1 : Int) (k : Nat) : Bool := Int.fmod (Int.fdiv n1 (2 ^ (k + 1))) 2 == 1
def stepsOf (n1 ct : Int) : List Int := ((List.range (ct - 1).toNat).filter (stepQ n1)).map fun (k : Nat) => 1 + (k : Int)
theorem step_yes {n1 : Int} {k : Nat} (h : (n1.fdiv (2 ^ (1 + (k : Int)).toNat)).fmod 2 = 1) : stepQ n1 k = true := by
  unfold stepQ
  rw [show (1 + (k : Int)).toNat = k + 1 by omega] at h
  rw [h]; rfl
theorem step_no {n1 : Int} {k : Nat} (h : ¬(n1.fdiv (2 ^ (1 + (k : Int)).toNat)).fmod 2 = 1) : stepQ n1 k = false := by
  unfold stepQ
  rw [show (1 + (k : Int)).toNat = k + 1 by omega] at h
  simpa using h
set_option maxRecDepth 100000 in
set_option maxHeartbeats 8000000 in
theorem segD {prog : Program} {w : World} {p : Program} {loose : List Str} {mean : ExcName → Option Value} {mg mb : Str → Option Value} {h₀ : Heap} {L fa : Addr} {m : Str → Option Value} {s : Shared} {Q : Flow → Shared → Prop} {E : Value → Shared → Prop}
    {o1 o2 o3 o4 o5 o6 o7 o8 tab : Obj} {v2 v4 v5 v6 v7 v8 : Option Value} {D9 : Addr} {objs : List (Addr × Obj)} {vs9 : List Value} {ns9 : List Int} {n9 : Nat} {n1 ct : Int} {t3 : Tok}
    (B : Below callerA h₀ [] h₀) (X : (hd.heap_39 w.params).In h₀) (T : Top p loose mean mg mb h₀) (h98 : @LT.lt Nat _ 98 L)
    (hD9 : (D9, listOf vs9.toArray n9) ∈ objs) (hI9 : IntsAre vs9 ns9) (hlen9 : ns9.length = 9) (hn1 : ns9[(1 : Int).toNat]? = some n1) (hp1 : 0 ≤ n1 ∧ n1 < 1000000) (hct : ct = 3 ∨ ct = 5 ∨ ct = 7)
    (d1 : o1.data = .cell (some (.ref D9))) (d2 : o2.data = .cell v2) (d3 : o3.data = .cell (some (.int ct t3))) (d4 : o4.data = .cell v4)
    (d5 : o5.data = .cell v5) (d6 : o6.data = .cell v6) (d7 : o7.data = .cell v7) (d8 : o8.data = .cell v8)
    (hoff : OffC L objs)
    (F : Fr h₀ L s.heap m) (N : News h₀ L s.heap (cellsOf L o1 o2 o3 o4 o5 o6 o7 o8 tab objs))
    (hnext : ∀ ST vsT nt o6 h' tk', IntsAre vsT (stepsOf n1 ct) → o6.data = .cell (some (.ref ST)) → OffC L ((ST, listOf vsT.toArray nt) :: objs) → (∀ p ∈ objs, p.1 ≠ ST) → Fr h₀ L h' m →
      News h₀ L h' (cellsOf L o1 o2 o3 o4 o5 o6 o7 o8 tab ((ST, listOf vsT.toArray nt) :: objs)) →
      wpAny (model prog w) (lawA L fa) (execs (lawStmts 8) (lawEnv L fa)) Q E { s with heap := h', toks := tk' }) :
    wpAny (model prog w) (lawA L fa) (execs (lawStmts 7) (lawEnv L fa)) Q E s := by
  have hfill : PySem.Challenge.rw_rl0050_01 = PySem.Challenge.rw_rl0050_01 ∧ hd.heap_39 = hd.heap_39 := by
    k_fill
    exact ⟨rfl, rfl⟩
  clear hfill
  w_top off
  k_with_none
  k_with "execs cons" => ((with_reducible show wpAny _ _ (execs [_, _, _, _, _] _) _ _ _); (show wpAny _ _ (execs (lawStmts 8) _) _ _ _); refine leave_it ?_)
  k_with "eval ListComp" => (k_here; k_dflt (refine LCt.ListComp_T (F₀ := by k_asm) (by with_unfolding_all rfl) (by decide) (by rfl) (by decide) (by rfl) ?_))
  k_with "CompSrcT" => (k_here; k_dflt (refine' LCt.CompSrcT.range (n := (ct - 1).toNat) (by rfl) ?F ?N ?hr ?sm ?rs ?sz ?_; (case F => k_asm); (case N => k_asm); (case hr => assumption); (case sm => exact small_one (by omega) (by omega) (by omega) (by omega)); (case rs => exact (rangeSize_nat _ _)); (case sz => (rw [PySem.sizeLine_eq]; omega))); intro g'; (refine' comp_restT (ks := List.range (ct - 1).toNat) (stepQ n1) (fun k v => ∃ t, v = Value.int (1 + (k : Int)) t) (fun k y => ∃ t, y = Value.int (1 + (k : Int)) t) ?hks2 ?hP2 ?hS2 ?turn2 ?fin2); (case hks2 => exact List.length_range); (case hP2 => (rintro i v hi ⟨t, e⟩; exact ⟨i, by rw [List.getElem?_range hi], t, e⟩)); (case hS2 => trivial); (case' turn2 => (rintro k' _ I' oI' C' oC' D' m' ys' h' tk' E' hk' ⟨t', rfl⟩ hC' hx' F' N' off' ne'; (have hk9 := List.mem_range.mp hk'); (have hf9 : k' < 6 := by omega); (try k_fold))); (case' fin2 => (intro zsP hzP hrP)))
  k_with "subscriptTail" => (k_here; (with_reducible show wpAny _ _ (subscriptTail _ _ (Value.ref D9) (Value.int 1 _)) _ _ _); k_dflt (refine' item_intsK ?k1 (show (D9, listOf vs9.toArray n9) ∈ _ from ?hm) hI9 hn1 (by decide) (by omega) ?_; (case k1 => k_asm); (case hm => k_mem)); intro t'; (try dsimp only))
  k_with "CtEnd" => (exact ⟨_, _, rfl, by assumption, by assumption, step_yes (by assumption), _, rfl⟩)
  k_with "CtEnd" => (exact ⟨_, _, rfl, by assumption, by assumption, step_no (by assumption)⟩)
  show wpAny _ _ (execs [_, _, _, _, _, _] _) _ _ _
  k_steps
  unfold Leave
  (rename News _ _ _ _ => N9)
  (rename _ ∧ _ ∧ _ ∧ _ ∧ _ ∧ _ ∧ _ ∧ _ ∧ _ ∧ LCg.Off1 _ _ => o9)
  have hIT := ints_of (fun k : Nat => 1 + (k : Int)) zsP hrP
  have eT : (zsP.map fun z => 1 + ((z.1 : Nat) : Int)) = stepsOf n1 ct := by
    unfold stepsOf
    rw [← hzP, List.map_map]
    rfl
  rw [eT] at hIT
  refine' hnext _ (zsP.map (·.2)) (zsP.map (·.2)).length _ _ _ hIT ?d ?off ?ne ?F ?N
  (case d => assumption)
  (case F => assumption)
  (case N => exact kst_newsOf N9 keepP)
  (case off => exact OffC.cons (off_nine (by assumption)) hoff)
  (case ne => exact off1_ne o9.2.2.2.2.2.2.2.2.2)
end Mine
end
section
open PySem PySem.W PyProof.Rows PySem.Flt
namespace Mine
theorem turned_col {prog : Program} {w : World} {p : Program} {loose : List Str} {mean : ExcName → Option Value} {mg mb : Str → Option Value}
    {c : Addr} {P R : Nat} {way : UInt64} {tw : Tok} {news : List (Addr × Obj)} (hc : ColAt news c P) (hR : R ≤ 32) (hway : way = mkH R)
    {dp un : Nat} {gd : Option (List Code)} {cn : Str} {cs : Scope} {a : Addr} {ccd : Value} {cl : List (Str × Addr)} {outer : List Env} {A₀ : Around} {base h₀ : Heap} {L : Addr} {m : Str → Option Value} {s : Shared} {Q E : Value → Shared → Prop}
    (B : Below A₀ base outer h₀) (F : Fr h₀ L s.heap m) (X : (hd.heap_39 w.params).In h₀) (N : News h₀ L s.heap news) (T : Top p loose mean mg mb h₀) (hk : cs.kind = .function)
    (hdp : dp + 2 < recursionLimit) (hun : un + 16 < cLine)
    (hret : ∀ D obj h' tk', ColAt [(D, obj)] D ((P + R) % 32) → Fr h₀ L h' m → News h₀ L h' ((D, obj) :: news) → (∀ q ∈ news, q.1 < D) → Q (.ref D) { s with heap := h', toks := tk' }) :
    wpAny (model prog w) (ktrTop dp un gd cn cs L a ccd cl outer) (call (.ref 82) [.ref c, .float way tw]) Q E s := by
  obtain ⟨r, g, b, tr, tg, tb, n, hm, hP, sh, lv, h1, h2, h3, h4, e⟩ := hc
  obtain ⟨k1, k2, k3, k4⟩ := col_facts hP h1 h2 h3 h4 e
  subst hway
  have e1 : Float64.add (mkH P) (mkH R) = mkH (P + R) := mk_add hP hR
  have ok2 : OkHsv (Float64.add (mkH P) (mkH R)) (qu sh) := ⟨by rw [e1]; exact hsv_ok (by omega) h1 h2⟩
  have e2 : colr (P + R) sh lv = colr ((P + R) % 32) sh lv := by
    by_cases h : P + R < 32
    · rw [Nat.mod_eq_of_lt h]
    · have h5 : (P + R) % 32 = P + R - 32 := by omega
      rw [h5]
      have := mk_turn (P := P + R - 32) (by omega) h1 h2 h3 h4
      rwa [show P + R - 32 + 32 = P + R by omega] at this
  have ris : RgbIs (Float64.add (mkH P) (mkH R)) (qu sh) (qu lv) (colr ((P + R) % 32) sh lv).1 (colr ((P + R) % 32) sh lv).2.1 (colr ((P + R) % 32) sh lv).2.2 := ⟨by rw [e1, ← e2]; rfl⟩
  exact turned_ctr hm ⟨k1⟩ ⟨k2, k3, k4⟩ ok2 ris B F X N T hk hdp hun fun D t1 t2 t3 c h' tk' F' N' l' =>
    hret D _ h' tk' ⟨_, _, _, t1, t2, t3, c, .head _, Nat.mod_lt _ (by decide), sh, lv, h1, h2, h3, h4, rfl⟩ F' N' l'
/-- how many of the places lie before x -/
def before (pls : List Nat) (x : Nat) : Nat := (pls.filter fun p => decide (p < x)).length
theorem bis_before {cells : List FCell} {x : Nat} {j : Int} (h : BisL cells x j j) : j = (before (cells.map (·.2)) x : Nat) := by
  have h0 := h.lo0
  have h1 := h.top
  have e : cells.map (·.2) = (cells.take j.toNat).map (·.2) ++ (cells.drop j.toNat).map (·.2) := by rw [← List.map_append, List.take_append_drop]
  unfold before
  rw [e, List.filter_append, List.length_append]
  have a1 : ((cells.take j.toNat).map (·.2)).filter (fun p => decide (p < x)) = (cells.take j.toNat).map (·.2) := by
    rw [List.filter_eq_self]
    intro p hp
    obtain ⟨c, hc, rfl⟩ := List.mem_map.mp hp
    obtain ⟨i, hi⟩ := List.mem_iff_getElem?.mp hc
    have hlt : i < (cells.take j.toNat).length := (List.getElem?_eq_some_iff.mp hi).1
    rw [List.length_take] at hlt
    rw [List.getElem?_take_of_lt (by omega)] at hi
    exact decide_eq_true (h.left i c (by omega) hi)
  have a2 : ((cells.drop j.toNat).map (·.2)).filter (fun p => decide (p < x)) = [] := by
    rw [List.filter_eq_nil_iff]
    intro p hp
    obtain ⟨c, hc, rfl⟩ := List.mem_map.mp hp
    obtain ⟨i, hi⟩ := List.mem_iff_getElem?.mp hc
    rw [List.getElem?_drop] at hi
    have := h.right (j.toNat + i) c (by omega) hi
    simp; omega
  rw [a1, a2]
  simp
  omega
theorem bis_mark {cells : List FCell} {z n y : Nat} {j : Int} (hm : cells.map (·.2) = (List.range n).map (z * ·)) (hz : 0 < z) (hy : y < n) (h : BisL cells (z * y) j j) : j = (y : Int) := by
  have h0 := h.lo0
  have h1 := h.top
  have hl : cells.length = n := by have := congrArg List.length hm; simpa using this
  have at_ : ∀ i, i < n → ∃ c, cells[i]? = some c ∧ c.2 = z * i := by
    intro i hi
    have hi' : i < cells.length := by omega
    refine ⟨cells[i], by simp [hi'], ?_⟩
    have := congrArg (fun l => l[i]?) hm
    simp only [List.getElem?_map, List.getElem?_range hi, List.getElem?_eq_getElem hi', Option.map_some, Option.some.injEq] at this
    exact this
  rcases Int.lt_trichotomy j y with hlt | heq | hgt
  · obtain ⟨c, e1, e2⟩ := at_ j.toNat (by omega)
    have := h.right j.toNat c (by omega) e1
    rw [e2] at this
    have := Nat.le_of_mul_le_mul_left this hz
    omega
  · exact heq
  · obtain ⟨c, e1, e2⟩ := at_ y hy
    have := h.left y c (by omega) e1
    rw [e2] at this
    exact absurd this (Nat.lt_irrefl _)
end Mine
end
section
open PySem PySem.W PyProof.Rows PySem.Flt PyProof.V PySem.Spec
namespace Mine
theorem allObj_of : ∀ {ws : List (Addr × String)} {k : List (Addr × Obj) → Prop}, (∀ its : List (Addr × Obj), its.map (·.1) = ws.map (·.1) → k its) → AllObj ws k
  | [], k, h => AllObj.nil (h [] rfl)
  | w :: r, k, h => AllObj.cons fun o _ => allObj_of fun its e => h ((w.1, o) :: its) (by simp only [List.map_cons]; rw [e])
section
variable {prog : Program} {w : World} {A : Around} {E : Value → Shared → Prop} {s : Shared} {env : Env} {h₀ : Heap} {body : List Stmt} {Q : Flow → Shared → Prop}
def ToldPost (h₀ : Heap) (L TL : Addr) (base its : List (Addr × Obj)) (r u : Str) (stored : List Str) (m₀ : Str → Option Value) (x : Str) (ws : List (Str × Tok)) (s₁ : Shared) (f : Flow) (s₂ : Shared) : Prop :=
  match f with
  | .next => ∃ h' tk' m' t n', s₂ = { s₁ with heap := h', toks := tk' } ∧ Fr h₀ L h' m' ∧ News h₀ L h' ((TL, strObj (ws ++ [(x, t)]) n') :: (its ++ base)) ∧ (∀ z, z ≠ r → z ≠ u → stored.contains z = false → m' z = m₀ z)
  | _ => False
/-- the loop over the colours and their hues, that lays one text a turn into a list -/
theorem told_loop {r u : Str} {pr pu pos : Pos} {k : Nat} {l1 l2 TL : Addr} {cols : List (Addr × Nat)} {hc : List FCell} {n1 n2 : Nat} {m₀ : Str → Option Value} {base : List (Addr × Obj)} (stored : List Str) (word : Nat → Str)
    (hh : A.handled = none) (hru : r ≠ u) (hkr : env.kindOf r = some .local) (hku : env.kindOf u = some .local) (hp : (env.scope.kind == .class || (env.scope.kind == .module && env.locals != env.globals)) = false)
    (F : Fr h₀ env.locals s.heap m₀) (N : News h₀ env.locals s.heap ((TL, strObj [] 0) :: base)) (hm1 : (l1, rowObj cols n1) ∈ base) (hm2 : (l2, fltObj hc n2) ∈ base) (hlen : hc.length = cols.length) (hoff : ∀ p ∈ base, p.1 ≠ TL)
    (turn : ∀ (i : Nat) c d ws n its (v : Str → Option Value) h tk, cols[i]? = some c → hc[i]? = some d → ws.map (·.1) = (List.range i).map word → ws.length = i → (∀ p ∈ its ++ base, p.1 ≠ TL) →
      Fr h₀ env.locals h (fun z => if z = u then some (fval d) else if z = r then some (.ref c.1) else if stored.contains z then v z else m₀ z) → News h₀ env.locals h ((TL, strObj ws n) :: (its ++ base)) →
      wpAny (model prog w) A (execs body env) (ToldPost h₀ env.locals TL base its r u stored m₀ (word i) ws { s with heap := h, toks := tk }) E { s with heap := h, toks := tk })
    (done : ∀ (v : Str → Option Value) ws n h tk, ws.map (·.1) = (List.range cols.length).map word → Fr h₀ env.locals h (fun z => if z = u then v z else if z = r then v z else if stored.contains z then v z else m₀ z) → News h₀ env.locals h ((TL, strObj ws n) :: base) → Q .next { s with heap := h, toks := tk }) :
    wpAny (model prog w) A (call (.type "zip") [.ref l1, .ref l2]) (fun xv s₁ => wpAny (model prog w) A (pyIter xv) (fun it s₂ => TurnsAt prog w A h₀ env (.Tuple [.Name r pr, .Name u pu] k pos) body Q E it s₂) E s₁) E s := by
  refine ktu_zip (xs := cols.map fun c => Value.ref c.1) (ys := hc.map fval) hh F N (.tail _ hm1) rfl rfl (.tail _ hm2) rfl rfl fun I hI => ?_
  have key : ∀ (cs : List (Addr × Nat)) (ds : List FCell) (i : Nat) (ws : List (Str × Tok)) (n : Nat) (m₁ : Str → Option Value), cols.drop i = cs → hc.drop i = ds → cs.length = ds.length → i + cs.length = cols.length → ws.map (·.1) = (List.range i).map word → ws.length = i →
      (∀ z, z ≠ r → z ≠ u → stored.contains z = false → m₁ z = m₀ z) →
      ItemsRest prog w A E h₀ env (.Tuple [.Name r pr, .Name u pu] k pos) body Q s [(I + 4, "zip"), (I + 2, "tuple"), (I + 3, "tuple"), (I, "list_iterator"), (I + 1, "list_iterator")] [(l1, rowObj cols n1), (l2, fltObj hc n2)] (zipItems (cs.map fun c => Value.ref c.1) (ds.map fval)) m₁ ((TL, strObj ws n) :: base) := by
    intro cs
    induction cs with
    | nil =>
      intro ds i ws n m₁ e1 e2 e3 e4 hw hwl hm
      refine ItemsRest.zero fun h tk F' N' => ?_
      have e5 : i = cols.length := by simpa using e4
      subst e5
      refine done m₁ ws n h tk hw ?_ N'
      have e : (fun z => if z = u then m₁ z else if z = r then m₁ z else if stored.contains z then m₁ z else m₀ z) = m₁ := by
        funext z
        by_cases h1 : z = u
        · simp [h1]
        · by_cases h2 : z = r
          · simp [h2]
          · simp only [if_neg h1, if_neg h2]
            cases h3 : stored.contains z with
            | true => simp
            | false => simp only [Bool.false_eq_true, if_false]; exact (hm z h2 h1 h3).symm
      rw [e]; exact F'
    | cons c cs ih =>
      intro ds i ws n m₁ e1 e2 e3 e4 hw hwl hm
      obtain ⟨d, ds, rfl⟩ : ∃ d ds', ds = d :: ds' := by
        cases ds with
        | nil => simp at e3
        | cons d ds => exact ⟨d, ds, rfl⟩
      have hc1 : cols[i]? = some c := by
        have := congrArg (fun l => l[0]?) e1
        simpa using this
      have hd1 : hc[i]? = some d := by
        have := congrArg (fun l => l[0]?) e2
        simpa using this
      simp only [List.map_cons, zipItems]
      refine ItemsRest.pair fun T t h tk hT F' => allObj_of fun its hits N' => ?_
      have hge : ∀ p ∈ its, I ≤ p.1 := by
        intro p hp
        have : p.1 ∈ its.map (·.1) := List.mem_map.mpr ⟨p, hp, rfl⟩
        rw [hits] at this
        simp only [List.map_cons, List.map_nil, List.mem_cons, List.not_mem_nil, or_false] at this
        rcases this with e | e | e | e | e <;> rw [e] <;> first | exact Nat.le_refl _ | exact Nat.le_add_right _ _
      have hlt : ∀ p ∈ (TL, strObj ws n) :: base, p.1 < I := by
        intro p hp
        rcases List.mem_cons.mp hp with rfl | hp
        · exact hI (TL, strObj [] 0) (.head _)
        · exact hI p (.tail _ hp)
      have hap : ∀ p ∈ its ++ base, p.1 ≠ TL := by
        intro p hp
        rcases List.mem_append.mp hp with hp | hp
        · exact Ne.symm (Nat.ne_of_lt (Nat.lt_of_lt_of_le (hlt (TL, strObj ws n) (.head _)) (hge p hp)))
        · exact hoff p hp
      have N₁ : News h₀ env.locals h ((TL, strObj ws n) :: (its ++ base)) := fun p hp => N' p (by
        rcases List.mem_cons.mp hp with rfl | hp
        · exact List.mem_append_right _ (.head _)
        · rcases List.mem_append.mp hp with hp | hp
          · exact List.mem_append_left _ hp
          · exact List.mem_append_right _ (.tail _ hp))
      refine unpackN_ F' N₁ hT hh rfl rfl fun h₁ F₁ N₁ => ?_
      show wpAny _ _ (assignInOrder [assign (.Name r pr) env, assign (.Name u pu) env] [Value.ref c.1, fval d]) _ _ _
      refine assignInOrder_cons ?_
      refine wpAny_assign_Name (wpAny_storeName_local hkr F₁.ns (fun h₂ hn₂ hs₂ => ?_) hp)
      have F₂ := F₁.set hn₂ hs₂
      have N₂ := N₁.set hs₂
      refine assignInOrder_cons ?_
      refine wpAny_assign_Name (wpAny_storeName_local hku F₂.ns (fun h₃ hn₃ hs₃ => ?_) hp)
      have F₃ := F₂.set hn₃ hs₃
      have N₃ := N₂.set hs₃
      refine assignInOrder_nil ?_
      have e : (fun z => if z = u then some (fval d) else if z = r then some (Value.ref c.1) else m₁ z) = fun z => if z = u then some (fval d) else if z = r then some (.ref c.1) else if stored.contains z then m₁ z else m₀ z := by
        funext z
        by_cases h1 : z = u
        · simp [h1]
        · by_cases h2 : z = r
          · simp [h2, hru]
          · simp only [if_neg h1, if_neg h2]
            cases h3 : stored.contains z with
            | true => simp
            | false => simp only [Bool.false_eq_true, if_false]; exact hm z h2 h1 h3
      rw [e] at F₃
      refine wpAny_mono (turn i c d ws n its m₁ h₃ _ hc1 hd1 hw hwl hap F₃ N₃) (fun f s₂ q => ?_) fun _ _ x => x
      cases f with
      | next =>
        obtain ⟨h', tk', m', t', n', rfl, F₄, N₄, hm'⟩ := q
        refine ⟨h', tk', m', (TL, strObj (ws ++ [(word i, t')]) n') :: base, rfl, F₄, fun p hp => N₄ p ?_, ?_, ⟨.tail _ hm1, .tail _ hm2, trivial⟩, ?_⟩
        · rcases List.mem_append.mp hp with hp | hp
          · exact .tail _ (List.mem_append_left _ hp)
          · rcases List.mem_cons.mp hp with rfl | hp
            · exact .head _
            · exact .tail _ (List.mem_append_right _ hp)
        · intro p hp q hq
          have h1 : p.1 < I := by
            rcases List.mem_cons.mp hp with rfl | hp
            · exact hlt (TL, strObj ws n) (.head _)
            · exact hlt p (.tail _ hp)
          exact Nat.ne_of_lt (Nat.lt_of_lt_of_le h1 (hge q hq))
        · refine ih ds (i + 1) (ws ++ [(word i, t')]) n' m' ?_ ?_ (by simpa using e3) (by simp only [List.length_cons] at e4; omega) ?_ (by rw [List.length_append, hwl]; rfl) hm'
          · rw [← List.drop_drop, e1]; rfl
          · rw [← List.drop_drop, e2]; rfl
          · rw [List.map_append, hw, List.range_succ, List.map_append]; rfl
      | brk => exact q.elim
      | cont => exact q.elim
      | ret v => exact q.elim
  exact key cols hc 0 [] 0 m₀ rfl rfl hlen.symm (by simp) rfl rfl fun _ _ _ _ => rfl
end
end Mine
end
section
open PySem PySem.W PyProof.Rows PySem.Flt PyProof.V PySem.Spec
namespace Mine
section
variable {prog : Program} {w : World} {A : Around} {E : Value → Shared → Prop} {s : Shared} {env : Env} {h₀ : Heap} {x : Str} {body : List Stmt} {Q : Flow → Shared → Prop}
def FvPost (h₀ : Heap) (L : Addr) (rest own : List (Addr × Obj)) (x y : Str) (stored : List Str) (m₀ : Str → Option Value) (n : Int) (s₁ : Shared) (f : Flow) (s₂ : Shared) : Prop :=
  match f with
  | .next => ∃ h' tk' m' t, s₂ = { s₁ with heap := h', toks := tk' } ∧ Fr h₀ L h' m' ∧ News h₀ L h' (rest ++ own) ∧ m' y = some (.int n t) ∧ ∀ z, z ≠ x → z ≠ y → stored.contains z = false → m' z = m₀ z
  | _ => False
/-- a loop over a list of ints of the ledger that turns one int -/
theorem int_loop {l : Addr} {vs : List Value} {ns : List Int} {nn : Nat} {m₀ : Str → Option Value} {rest : List (Addr × Obj)} {y : Str} (stored : List Str) (fv : Nat → Int)
    (hh : A.handled = none) (hxy : y ≠ x) (hl : (l, listOf vs.toArray nn) ∈ rest) (hi : IntsAre vs ns) (F : Fr h₀ env.locals s.heap m₀) (N : News h₀ env.locals s.heap rest) (hm0 : ∃ t, m₀ y = some (.int (fv 0) t))
    (turn : ∀ (i : Nat) n t t' (v : Str → Option Value) own h tk, ns[i]? = some n → (∀ p ∈ own, ∀ q ∈ rest, p.1 ≠ q.1) →
      Fr h₀ env.locals h (fun z => if z = x then some (.int n t) else if z = y then some (.int (fv i) t') else if stored.contains z then v z else m₀ z) → News h₀ env.locals h (rest ++ own) →
      wpAny (model prog w) A (execs body env) (FvPost h₀ env.locals rest own x y stored m₀ (fv (i + 1)) { s with heap := h, toks := tk }) E { s with heap := h, toks := tk })
    (done : ∀ t (v : Str → Option Value) h tk, Fr h₀ env.locals h (fun z => if z = y then some (.int (fv ns.length) t) else if z = x then v z else if stored.contains z then v z else m₀ z) → News h₀ env.locals h rest → Q .next { s with heap := h, toks := tk }) :
    wpAny (model prog w) A (pyIter (.ref l)) (fun it s₂ => LoopAtV prog w A h₀ env x body Q E it s₂) E s := by
  refine iter_invNL (fun i m nx => nx = rest ∧ (∃ t, m y = some (.int (fv i) t)) ∧ ∀ z, z ≠ x → z ≠ y → stored.contains z = false → m z = m₀ z)
    hh hl hi F N ⟨rfl, hm0, fun _ _ _ _ => rfl⟩ ?_ ?_
  · rintro i n t m₁ nx h tk own hn hadr hown hmem ⟨rfl, ⟨t', ht'⟩, hm⟩ F₁ N₁
    have e : (fun z => if z = x then some (Value.int n t) else m₁ z) = fun z => if z = x then some (Value.int n t) else if z = y then some (.int (fv i) t') else if stored.contains z then m₁ z else m₀ z := by
      funext z
      by_cases h1 : z = x
      · simp [h1]
      · simp only [if_neg h1]
        by_cases h2 : z = y
        · simp [h2, ht']
        · simp only [if_neg h2]
          cases h3 : stored.contains z with
          | true => simp
          | false => simp only [Bool.false_eq_true, if_false]; exact hm z h1 h2 h3
    rw [e] at F₁
    refine wpAny_mono (turn i n t t' m₁ own h tk hn (fun p hp q hq => hown p hp _ (List.mem_map.mpr ⟨q, hq, rfl⟩)) F₁ N₁) (fun f s₂ q => ?_) fun _ _ x => x
    cases f with
    | next =>
      obtain ⟨h', tk', m', t₂, rfl, F', N', hy, hm'⟩ := q
      exact ⟨h', tk', m', _, nx, rfl, F', N', fun p hp => List.mem_append_left _ hp, fun p hp => List.mem_append_right _ hp, rfl, hl, rfl, ⟨t₂, hy⟩, hm'⟩
    | brk => exact q.elim
    | cont => exact q.elim
    | ret v => exact q.elim
  · rintro m₁ nx h tk _ ⟨rfl, ⟨t', ht'⟩, hm⟩ F₁ N₁
    refine done t' m₁ h tk ?_ N₁
    have e : (fun z => if z = y then some (Value.int (fv ns.length) t') else if z = x then m₁ z else if stored.contains z then m₁ z else m₀ z) = m₁ := by
      funext z
      by_cases h2 : z = y
      · simp [h2, ht']
      · simp only [if_neg h2]
        by_cases h1 : z = x
        · simp [h1]
        · simp only [if_neg h1]
          cases h3 : stored.contains z with
          | true => simp
          | false => simp only [Bool.false_eq_true, if_false]; exact (hm z h1 h2 h3).symm
    rw [e]; exact F₁
end
end Mine
end
section
open PySem PySem.W PyProof.Rows PySem.Flt
namespace Mine
def lawTurn : List Stmt := match lawStmts 9 with
  | .For _ _ b _ _ :: _ => b
  | _ => []
def lawStep : List Stmt := match lawTurn.drop 1 with
  | .For _ _ b _ _ :: _ => b
  | _ => []
/-- the place that a step aims at, from a root at P -/
def aimOf (z : Nat) (sz ct : Int) (P : Nat) (n : Int) : Nat := (P + z * (Int.fdiv (n * sz) ct).toNat) % 32
/-- the place of the first colour at or behind a, behind the last one the first -/
def toneOf (pls : List Nat) (ct : Int) (a : Nat) : Nat := pls.getD (Int.fmod ((before pls a : Nat) : Int) ct).toNat 0
/-- the note, turned back by the root -/
def noteOf (pls : List Nat) (z : Nat) (sz ct : Int) (P : Nat) (n : Int) : Nat := (toneOf pls ct (aimOf z sz ct P n) + (32 - P)) % 32 / z
theorem colAt_head {D : Addr} {obj : Obj} {P : Nat} {news : List (Addr × Obj)} (h : ColAt [(D, obj)] D P) : ColAt ((D, obj) :: news) D P :=
  h.mono fun p hp => by rw [List.mem_singleton.mp hp]; exact List.mem_cons_self
theorem fdiv_step {n sz ct : Int} (hn : 1 ≤ n ∧ n < ct) (hz : sz = 16 ∨ sz = 32) (hct : ct = 3 ∨ ct = 5 ∨ ct = 7) : 0 ≤ Int.fdiv (n * sz) ct ∧ Int.fdiv (n * sz) ct ≤ sz := by
  rw [Int.fdiv_eq_ediv_of_nonneg _ (by omega)]
  rcases hz with rfl | rfl <;> rcases hct with rfl | rfl | rfl <;> omega
theorem z_note {z x : Nat} (hz : z = 2 ∨ z = 1) (h : x % z = 0) : x = z * (x / z) := by
  rcases hz with rfl | rfl <;> omega
theorem z_sum {z a b : Nat} (hz : z = 2 ∨ z = 1) (ha : a % z = 0) (hb : b % z = 0) (hb2 : b < 32) : ((a + (32 - b)) % 32) % z = 0 := by
  rcases hz with rfl | rfl <;> omega
theorem y_lt {z : Nat} {sz : Int} (x : Nat) (hz : (sz = 16 ∧ z = 2) ∨ (sz = 32 ∧ z = 1)) : x % 32 / z < sz.toNat := by
  rcases hz with ⟨rfl, rfl⟩ | ⟨rfl, rfl⟩ <;> simp <;> omega
theorem note_is {cols : List (Addr × Nat)} {z P : Nat} {sz ct j1 n : Int} {c1 : Addr × Nat} (h : cols[(j1.fmod ct).toNat]? = some c1) (hj : j1 = ((before (cols.map (·.2)) ((P + z * (Int.fdiv (n * sz) ct).toNat) % 32) : Nat) : Int)) :
    (c1.2 + (32 - P)) % 32 / z = noteOf (cols.map (·.2)) z sz ct P n := by
  unfold noteOf toneOf aimOf
  rw [← hj]
  simp [h]
theorem At2.sortM {cols : List (Addr × Nat)} {sz : Int} {z : Nat} {hc mc : List FCell} (h : At2 cols sz z hc mc) : SortedL mc := by
  intro i j q r hij hq hr
  have at_ : ∀ i q, mc[i]? = some q → q.2 = z * i := by
    intro i q hq
    have := congrArg (fun l => l[i]?) h.mpl
    have hi : i < sz.toNat := by
      have h1 : i < mc.length := (List.getElem?_eq_some_iff.mp hq).1
      have := h.mlen
      omega
    simp only [List.getElem?_map, hq, List.getElem?_range hi, Option.map_some, Option.some.injEq] at this
    exact this
  rw [at_ i q hq, at_ j r hr]
  exact Nat.mul_le_mul_left _ hij
set_option maxRecDepth 100000 in
set_option maxHeartbeats 8000000 in
theorem step_turn {prog : Program} {w : World} {p : Program} {loose : List Str} {mean : ExcName → Option Value} {mg mb : Str → Option Value} {h₀ : Heap} {L fa : Addr} {m : Str → Option Value} {s : Shared} {Q : Flow → Shared → Prop} {E : Value → Shared → Prop}
    {o2 o3 o4 o5 : Obj} {HU MK row : Addr} {news : List (Addr × Obj)} {nh nm nr z : Nat} {sz ct n f : Int} {PT : UInt64} {t2 t3 t4 tn tf : Tok} {cols : List (Addr × Nat)} {hc mc : List FCell} {c : Addr × Nat} {d : FCell}
    (B : Below callerA h₀ [] h₀) (X : (hd.heap_39 w.params).In h₀) (T : Top p loose mean mg mb h₀)
    (hz : (sz = 16 ∧ z = 2) ∨ (sz = 32 ∧ z = 1)) (hct : ct = 3 ∨ ct = 5 ∨ ct = 7) (hPT : Flt.Hid (partOf sz.toNat = PT)) (a2 : At2 cols sz z hc mc) (hsort : SortedL hc) (hlen : cols.length = ct.toNat) (hdiv : ∀ c ∈ cols, c.2 % z = 0)
    (hn : 1 ≤ n ∧ n < ct) (hc' : c ∈ cols) (hd' : d ∈ hc) (hcd : d.2 = c.2)
    (hHU : (HU, fltObj hc nh) ∈ news) (hMK : (MK, fltObj mc nm) ∈ news) (hrow : (row, rowObj cols nr) ∈ news) (hcol : ∀ c ∈ cols, ColAt news c.1 c.2)
    (c2 : (L + 1 + 1, o2) ∈ news) (c3 : (L + 1 + 1 + 1, o3) ∈ news) (c4 : (L + 1 + 1 + 1 + 1, o4) ∈ news) (c5 : (L + 1 + 1 + 1 + 1 + 1, o5) ∈ news)
    (d2 : o2.data = .cell (some (.int sz t2))) (d3 : o3.data = .cell (some (.int ct t3))) (d4 : o4.data = .cell (some (.float PT t4))) (d5 : o5.data = .cell (some (.ref MK)))
    (F : Fr h₀ L s.heap (fun y => if y = Str.ofString "step" then some (.int n tn) else if y = Str.ofString "flags" then some (.int f tf) else if y = Str.ofString "hue" then some (.float d.1.1 d.1.2) else if y = Str.ofString "root" then some (.ref c.1) else if y = Str.ofString "hues" then some (.ref HU) else if y = Str.ofString "row" then some (.ref row) else m y)) (N : News h₀ L s.heap news)
    (hret : ∀ h' tk' m' t, Fr h₀ L h' m' → News h₀ L h' news → m' (Str.ofString "flags") = some (.int (f + ((2 ^ noteOf (cols.map (·.2)) z sz ct c.2 n : Nat) : Int)) t) →
      (∀ y, y ≠ Str.ofString "flags" → y ≠ Str.ofString "aim" → y ≠ Str.ofString "tone" → m' y = (if y = Str.ofString "step" then some (.int n tn) else if y = Str.ofString "flags" then some (.int f tf) else if y = Str.ofString "hue" then some (.float d.1.1 d.1.2) else if y = Str.ofString "root" then some (.ref c.1) else if y = Str.ofString "hues" then some (.ref HU) else if y = Str.ofString "row" then some (.ref row) else m y)) → Q .next { s with heap := h', toks := tk' }) :
    wpAny (model prog w) (lawA L fa) (execs lawStep (lawEnv L fa)) Q E s := by
  have hfill : PySem.Challenge.rw_rl0050_01 = PySem.Challenge.rw_rl0050_01 ∧ hd.heap_39 = hd.heap_39 := by
    k_fill
    exact ⟨rfl, rfl⟩
  clear hfill
  w_top off
  have hml := a2.mlen
  have hst := fdiv_step (sz := sz) hn (by omega) hct
  have hz2 : z = 2 ∨ z = 1 := by omega
  have hP : IsMk c.2 d.1.1 := hcd ▸ a2.hIs d hd'
  have hPd := hdiv c hc'
  have hcl := hcol c hc'
  have hhl : hc.length = cols.length := by have := congrArg List.length a2.hpl; simpa using this
  have hwa : Float64.mul (Float64.ofInt (Int.fdiv (n * sz) ct)) PT = mkH (z * (Int.fdiv (n * sz) ct).toNat) := mul_part hz hPT hst.1 hst.2
  have hwb : Float64.sub (Float64.ofInt 1) d.1.1 = mkH (32 - c.2) := by rw [← hP.eq]; exact mk_back hP.lt
  have hR1 : z * (Int.fdiv (n * sz) ct).toNat ≤ 32 := by rcases hz with ⟨rfl, rfl⟩ | ⟨rfl, rfl⟩ <;> omega
  have hR2 : 32 - c.2 ≤ 32 := Nat.sub_le _ _
  k_with_none
  k_with "mulF" => (refine mul_if_fits (fit_small (by omega)) ?_; (try dsimp only))
  k_with "subF" => (refine sub_if_fits (fit_small (by decide)) ?_; (try dsimp only))
  k_with "call ref" => (k_here; (with_reducible show wpAny _ _ (call (Value.ref 82) [Value.ref _, Value.float (Float64.mul _ _) _] _) _ _ _); k_dflt (refine' turned_col ?ok hR1 hwa ?B ?F ?X ?N ?T ?hk ?hdp ?hun ?_; (case ok => exact hcl); (case F => k_asm); (case N => k_asm); (case B => k_asm); (case X => k_asm); (case T => k_asm); (case hk => first | exact rfl | assumption); (case hdp => ktr_room); (case hun => ktr_units)); intro D1 obj1 h' tk' hA1 F' N' l1; (try dsimp only); (try k_fold); (try k_sweep))
  k_with "call ref" => (k_here; (with_reducible show wpAny _ _ (call (Value.ref 75) [Value.ref D1] _) _ _ _); k_dflt (refine' hue_col (colAt_head hA1) ?B ?F ?X ?N ?T ?hk ?hdp ?hun ?_; (case F => k_asm); (case N => k_asm); (case B => k_asm); (case X => k_asm); (case T => k_asm); (case hk => first | exact rfl | assumption); (case hdp => ktr_room); (case hun => ktr_units)); intro H1 t1' h' tk' iM1 tn' F' N'; (try dsimp only); (try k_fold); (try k_sweep))
  k_with "call ref" => (k_here; (with_reducible show wpAny _ _ (call (Value.ref 41) [Value.ref HU, Value.float _ _] _) _ _ _); k_dflt (refine' bisectL_ctr (cells := hc) (n := nh) ?m a2.hIs hsort ?fit iM1 ?B ?F ?X ?N ?T ?hk ?hdp ?hun ?_; (case F => k_asm); (case N => k_asm); (case m => k_mem); (case fit => omega); (case B => k_asm); (case X => k_asm); (case T => k_asm); (case hk => first | exact rfl | assumption); (case hdp => ktr_room); (case hun => ktr_units)); intro j1 t1' h' tk' hb1 F' N'; (have hj1 := bis_before hb1); rw [a2.hpl] at hj1; (try dsimp only); (try k_fold); (try k_sweep))
  k_with "subscriptTail" => (k_here; (with_reducible show wpAny _ _ (subscriptTail _ _ (Value.ref row) (Value.int _ _)) _ _ _); (have hf9 := fmod_in j1 (show 0 < ct by omega)); k_dflt (refine kba_turn (value' := PySem.Expr.Name (PySem.Str.ofString "_") ⟨0, 0, 0, 0⟩) (fun _ => rfl) ?_); k_dflt (refine' item_led (f := fun c : Addr × Nat => Value.ref c.1) (cs := cols) (n := nr) ?k1 ?hm hf9.1 (by omega) (by omega) ?_; (case k1 => k_asm); (case hm => k_mem)); intro c1 hc1; (have hcl1 := hcol c1 (List.mem_of_getElem? hc1)); (try dsimp only))
  k_with "call ref" => (k_here; (with_reducible show wpAny _ _ (call (Value.ref 82) [Value.ref _, Value.float (Float64.sub _ _) _] _) _ _ _); k_dflt (refine' turned_col ?ok hR2 hwb ?B ?F ?X ?N ?T ?hk ?hdp ?hun ?_; (case F => k_asm); (case N => k_asm); (case ok => exact hcl1.mono (fun p hp => by k_mem)); (case B => k_asm); (case X => k_asm); (case T => k_asm); (case hk => first | exact rfl | assumption); (case hdp => ktr_room); (case hun => ktr_units)); intro D2 obj2 h' tk' hA2 F' N' l1; (try dsimp only); (try k_fold); (try k_sweep))
  k_with "call ref" => (k_here; (with_reducible show wpAny _ _ (call (Value.ref 75) [Value.ref D2] _) _ _ _); k_dflt (refine' hue_col (colAt_head hA2) ?B ?F ?X ?N ?T ?hk ?hdp ?hun ?_; (case F => k_asm); (case N => k_asm); (case B => k_asm); (case X => k_asm); (case T => k_asm); (case hk => first | exact rfl | assumption); (case hdp => ktr_room); (case hun => ktr_units)); intro H2 t2' h' tk' iM2 tn' F' N'; (try dsimp only); (try k_fold); (try k_sweep))
  k_with "call ref" => (k_here; (with_reducible show wpAny _ _ (call (Value.ref 41) [Value.ref MK, Value.float _ _] _) _ _ _); (have hx9 := z_sum hz2 (hdiv c1 (List.mem_of_getElem? hc1)) hPd hP.lt); (have hx8 := z_note hz2 hx9); k_dflt (refine' bisectL_ctr (cells := mc) (n := nm) ?m a2.mIs (a2.sortM) ?fit iM2 ?B ?F ?X ?N ?T ?hk ?hdp ?hun ?_; (case F => k_asm); (case N => k_asm); (case m => k_mem); (case fit => omega); (case B => k_asm); (case X => k_asm); (case T => k_asm); (case hk => first | exact rfl | assumption); (case hdp => ktr_room); (case hun => ktr_units)); intro j2 t2' h' tk' hb2 F' N'; rw [hx8] at hb2; (have hy9 := y_lt (c1.2 + (32 - c.2)) hz); (have hj2 := bis_mark a2.mpl (by omega) hy9 hb2); (have hk9 := note_is hc1 hj1); rw [hk9] at hj2 hy9; (generalize noteOf (cols.map (·.2)) z sz ct c.2 n = note at hj2 hy9 hret); (have hy8 : 0 ≤ j2 ∧ j2 < 32 := by omega); (try dsimp only); (try k_fold); (try k_sweep))
  show wpAny _ _ (execs [_, _, _] _) _ _ _
  k_steps
  subst hj2
  (rename Fr h₀ L _ _ => F9)
  refine' hret _ _ _ _ F9 ?N ?fl ?rest
  (case N => exact kst_newsOf (by assumption) fun p hp => .tail _ (.tail _ hp))
  (case fl => exact (if_pos rfl).trans (by rw [Int.toNat_natCast, Int.natCast_pow]; rfl))
  (case rest => (intro y h1 h2 h3; simp only [if_neg h1, if_neg h2, if_neg h3]))
end Mine
end
section
open PySem PySem.W PyProof.Rows PySem.Flt
namespace Mine
theorem known_eq {m : Str → Option Value} {x : Str} {v : Value} (e : m x = some v) : (fun y => if y = x then some v else m y) = m := by
  funext y
  by_cases h : y = x
  · rw [if_pos h, h, e]
  · rw [if_neg h]
/-- the flags behind i steps -/
def flagN (pls : List Nat) (z : Nat) (sz ct : Int) (P : Nat) (ns : List Int) (i : Nat) : Nat := 1 + ((ns.take i).map fun n => 2 ^ noteOf pls z sz ct P n).sum
theorem flagN_succ {pls : List Nat} {z : Nat} {sz ct : Int} {P : Nat} {ns : List Int} {i : Nat} {n : Int} (h : ns[i]? = some n) : ((flagN pls z sz ct P ns i : Nat) : Int) + ((2 ^ noteOf pls z sz ct P n : Nat) : Int) = ((flagN pls z sz ct P ns (i + 1) : Nat) : Int) := by
  unfold flagN
  rw [List.take_add_one, h]
  simp
  omega
theorem step_turn2 {prog : Program} {w : World} {p : Program} {loose : List Str} {mean : ExcName → Option Value} {mg mb : Str → Option Value} {h₀ : Heap} {L fa : Addr} {m : Str → Option Value} {s : Shared} {Q : Flow → Shared → Prop} {E : Value → Shared → Prop}
    {o2 o3 o4 o5 : Obj} {HU MK row : Addr} {news : List (Addr × Obj)} {nh nm nr z : Nat} {sz ct n f : Int} {PT : UInt64} {t2 t3 t4 tn tf : Tok} {cols : List (Addr × Nat)} {hc mc : List FCell} {c : Addr × Nat} {d : FCell}
    (B : Below callerA h₀ [] h₀) (X : (hd.heap_39 w.params).In h₀) (T : Top p loose mean mg mb h₀)
    (hz : (sz = 16 ∧ z = 2) ∨ (sz = 32 ∧ z = 1)) (hct : ct = 3 ∨ ct = 5 ∨ ct = 7) (hPT : Flt.Hid (partOf sz.toNat = PT)) (a2 : At2 cols sz z hc mc) (hsort : SortedL hc) (hlen : cols.length = ct.toNat) (hdiv : ∀ c ∈ cols, c.2 % z = 0)
    (hn : 1 ≤ n ∧ n < ct) (hc' : c ∈ cols) (hd' : d ∈ hc) (hcd : d.2 = c.2)
    (hHU : (HU, fltObj hc nh) ∈ news) (hMK : (MK, fltObj mc nm) ∈ news) (hrow : (row, rowObj cols nr) ∈ news) (hcol : ∀ c ∈ cols, ColAt news c.1 c.2)
    (c2 : (L + 1 + 1, o2) ∈ news) (c3 : (L + 1 + 1 + 1, o3) ∈ news) (c4 : (L + 1 + 1 + 1 + 1, o4) ∈ news) (c5 : (L + 1 + 1 + 1 + 1 + 1, o5) ∈ news)
    (d2 : o2.data = .cell (some (.int sz t2))) (d3 : o3.data = .cell (some (.int ct t3))) (d4 : o4.data = .cell (some (.float PT t4))) (d5 : o5.data = .cell (some (.ref MK)))
    (e1 : m (Str.ofString "step") = some (.int n tn)) (e2 : m (Str.ofString "flags") = some (.int f tf)) (e3 : m (Str.ofString "hue") = some (.float d.1.1 d.1.2)) (e4 : m (Str.ofString "root") = some (.ref c.1)) (e5 : m (Str.ofString "hues") = some (.ref HU)) (e6 : m (Str.ofString "row") = some (.ref row))
    (F : Fr h₀ L s.heap m) (N : News h₀ L s.heap news)
    (hret : ∀ h' tk' m' t, Fr h₀ L h' m' → News h₀ L h' news → m' (Str.ofString "flags") = some (.int (f + ((2 ^ noteOf (cols.map (·.2)) z sz ct c.2 n : Nat) : Int)) t) →
      (∀ y, y ≠ Str.ofString "flags" → y ≠ Str.ofString "aim" → y ≠ Str.ofString "tone" → m' y = m y) → Q .next { s with heap := h', toks := tk' }) :
    wpAny (model prog w) (lawA L fa) (execs lawStep (lawEnv L fa)) Q E s := by
  have k6 := known_eq e6
  have k5 := known_eq e5
  have k4 := known_eq e4
  have k3 := known_eq e3
  have k2 := known_eq e2
  have k1 := known_eq e1
  have k : (fun y => if y = Str.ofString "step" then some (Value.int n tn) else if y = Str.ofString "flags" then some (.int f tf) else if y = Str.ofString "hue" then some (.float d.1.1 d.1.2) else if y = Str.ofString "root" then some (.ref c.1) else if y = Str.ofString "hues" then some (.ref HU) else if y = Str.ofString "row" then some (.ref row) else m y) = m := by
    funext y
    have a6 : (if y = Str.ofString "row" then _ else m y) = m y := congrFun k6 y
    have a5 : (if y = Str.ofString "hues" then _ else m y) = m y := congrFun k5 y
    have a4 : (if y = Str.ofString "root" then _ else m y) = m y := congrFun k4 y
    have a3 : (if y = Str.ofString "hue" then _ else m y) = m y := congrFun k3 y
    have a2 : (if y = Str.ofString "flags" then _ else m y) = m y := congrFun k2 y
    have a1 : (if y = Str.ofString "step" then _ else m y) = m y := congrFun k1 y
    rw [a6, a5, a4, a3, a2, a1]
  refine step_turn B X T hz hct hPT a2 hsort hlen hdiv hn hc' hd' hcd hHU hMK hrow hcol c2 c3 c4 c5 d2 d3 d4 d5 (m := m) (tn := tn) (tf := tf) (f := f) (by rw [k]; exact F) N fun h' tk' m' t F' N' e' r' => hret h' tk' m' t F' N' e' fun y h1 h2 h3 => (r' y h1 h2 h3).trans (congrFun k y)
set_option maxRecDepth 100000 in
set_option maxHeartbeats 8000000 in
theorem turn_told {prog : Program} {w : World} {p : Program} {loose : List Str} {mean : ExcName → Option Value} {mg mb : Str → Option Value} {h₀ : Heap} {L fa : Addr} {m v : Str → Option Value} {s : Shared} {Q : Flow → Shared → Prop} {E : Value → Shared → Prop}
    {o2 o3 o4 o5 o6 o7 : Obj} {HU MK row ST TL : Addr} {news : List (Addr × Obj)} {ws : List (Str × Tok)} {vsT : List Value} {stp : List Int} {nh nm nr nt nw z : Nat} {sz ct : Int} {PT : UInt64} {t2 t3 t4 : Tok} {cols : List (Addr × Nat)} {hc mc : List FCell} {c : Addr × Nat} {d : FCell}
    (hE : PassesOwn (model prog w) (lawA L fa) (lawEnv L fa) E) (B : Below callerA h₀ [] h₀) (X : (hd.heap_39 w.params).In h₀) (T : Top p loose mean mg mb h₀)
    (hz : (sz = 16 ∧ z = 2) ∨ (sz = 32 ∧ z = 1)) (hct : ct = 3 ∨ ct = 5 ∨ ct = 7) (hPT : Flt.Hid (partOf sz.toNat = PT)) (a2 : At2 cols sz z hc mc) (hsort : SortedL hc) (hlen : cols.length = ct.toNat) (hdiv : ∀ c ∈ cols, c.2 % z = 0)
    (hstp : ∀ n ∈ stp, 1 ≤ n ∧ n < ct) (hc' : c ∈ cols) (hd' : d ∈ hc) (hcd : d.2 = c.2)
    (hHU : (HU, fltObj hc nh) ∈ news) (hMK : (MK, fltObj mc nm) ∈ news) (hrow : (row, rowObj cols nr) ∈ news) (hcol : ∀ c ∈ cols, ColAt news c.1 c.2)
    (hST : (ST, listOf vsT.toArray nt) ∈ news) (hIT : IntsAre vsT stp) (hoff : ∀ p ∈ news, p.1 ≠ TL) (hwl : ws.length ≤ 100)
    (c2 : (L + 1 + 1, o2) ∈ news) (c3 : (L + 1 + 1 + 1, o3) ∈ news) (c4 : (L + 1 + 1 + 1 + 1, o4) ∈ news) (c5 : (L + 1 + 1 + 1 + 1 + 1, o5) ∈ news) (c6 : (L + 1 + 1 + 1 + 1 + 1 + 1, o6) ∈ news) (c7 : (L + 1 + 1 + 1 + 1 + 1 + 1 + 1, o7) ∈ news)
    (d2 : o2.data = .cell (some (.int sz t2))) (d3 : o3.data = .cell (some (.int ct t3))) (d4 : o4.data = .cell (some (.float PT t4))) (d5 : o5.data = .cell (some (.ref MK))) (d6 : o6.data = .cell (some (.ref ST))) (d7 : o7.data = .cell (some (.ref TL)))
    (hfl : 0 < flagN (cols.map (·.2)) z sz ct c.2 stp stp.length ∧ flagN (cols.map (·.2)) z sz ct c.2 stp stp.length < 2 ^ 32)
    (F : Fr h₀ L s.heap (fun y => if y = Str.ofString "hue" then some (.float d.1.1 d.1.2) else if y = Str.ofString "root" then some (.ref c.1) else if [Str.ofString "flags", Str.ofString "step", Str.ofString "aim", Str.ofString "tone"].contains y then v y else if y = Str.ofString "hues" then some (.ref HU) else if y = Str.ofString "row" then some (.ref row) else m y)) (N : News h₀ L s.heap ((TL, strObj ws nw) :: news))
    (hret : ∀ h' tk' m' t n', Fr h₀ L h' m' → News h₀ L h' ((TL, strObj (ws ++ [(sayOf (bitsTo (flagN (cols.map (·.2)) z sz ct c.2 stp stp.length) 32), t)]) n') :: news) →
      (∀ y, y ≠ Str.ofString "root" → y ≠ Str.ofString "hue" → [Str.ofString "flags", Str.ofString "step", Str.ofString "aim", Str.ofString "tone"].contains y = false → m' y = (if y = Str.ofString "hues" then some (.ref HU) else if y = Str.ofString "row" then some (.ref row) else m y)) → Q .next { s with heap := h', toks := tk' }) :
    wpAny (model prog w) (lawA L fa) (execs lawTurn (lawEnv L fa)) Q E s := by
  have hfill : PySem.Challenge.rw_rl0050_01 = PySem.Challenge.rw_rl0050_01 ∧ hd.heap_39 = hd.heap_39 := by
    k_fill
    exact ⟨rfl, rfl⟩
  clear hfill
  w_top off
  k_with_none
  k_with "exec For Name Name cons nil" => (k_here; (rename Fr _ _ _ _ => lF'); (with_unfolding_all refine' For_invVF lF' ?k1 ?k2 ?_; (case k1 => exact rfl); (case k2 => exact rfl); k_whole))
  k_with "pyIter ref" => (k_here; (rename Fr _ _ _ _ => lF'); (rename News _ _ _ _ => lN'); (with_unfolding_all refine' int_loop (l := ST) (y := Str.ofString "flags") [Str.ofString "aim", Str.ofString "tone"] (fun i => ((flagN (cols.map (·.2)) z sz ct c.2 stp i : Nat) : Int)) rfl ?ne ?hl hIT lF' lN' ?m0 ?turn ?done); (case ne => decide); (case hl => exact List.mem_cons_of_mem _ hST); (case m0 => exact ⟨_, rfl⟩); (case turn => (clear lF' lN'; intro i' n' t' t2' v' own' h' tk' hn' hoff' F' N'; (have hb' := hstp _ (List.mem_of_getElem? hn')); k_dflt (refine' step_turn2 B X T hz hct hPT a2 hsort hlen hdiv hb' hc' hd' hcd (List.mem_append_left _ (List.mem_cons_of_mem _ hHU)) (List.mem_append_left _ (List.mem_cons_of_mem _ hMK)) (List.mem_append_left _ (List.mem_cons_of_mem _ hrow)) (fun c hc => (hcol c hc).mono fun p hp => List.mem_append_left _ (List.mem_cons_of_mem _ hp)) (List.mem_append_left _ (List.mem_cons_of_mem _ c2)) (List.mem_append_left _ (List.mem_cons_of_mem _ c3)) (List.mem_append_left _ (List.mem_cons_of_mem _ c4)) (List.mem_append_left _ (List.mem_cons_of_mem _ c5)) d2 d3 d4 d5 ?e1 ?e2 ?e3 ?e4 ?e5 ?e6 F' N' (fun h9 tk9 m9 t9 F9 N9 x9 r9 => ⟨h9, tk9, m9, t9, rfl, F9, N9, ?x, ?r⟩); (case e1 => rfl); (case e2 => rfl); (case e3 => rfl); (case e4 => rfl); (case e5 => rfl); (case e6 => rfl); (case x => (rw [← flagN_succ hn']; exact x9)); (case r => (intro y q1 q2 q3; (simp only [List.contains_cons, List.contains_nil, Bool.or_false, Bool.or_eq_false_iff, beq_eq_false_iff_ne, ne_eq] at q3); (rw [r9 y q2 q3.1 q3.2]); simp [q1, q2, q3]))))); (case' done => (clear lF' lN'; intro t' v' h' tk' F' N'; (try dsimp only); (try k_fold))))
  k_with "call ref" => (k_here; (with_reducible show wpAny _ _ (call (Value.ref 63) [Value.int _ _] _) _ _ _); k_dflt (refine' flags_ctr hfl.1 hfl.2 ?B ?F ?X ?N ?T ?hk ?hdp ?hun ?_; (case F => k_asm); (case N => k_asm); (case B => k_asm); (case X => k_asm); (case T => k_asm); (case hk => first | exact rfl | assumption); (case hdp => ktr_room); (case hun => ktr_units)); intro t1' h' tk' F' N'; (try dsimp only); (try k_fold); (try k_sweep))
  k_with "call builtin:list.append" => (k_here; k_dflt (refine' append_word (ws := ws) (n := nw) ?k1 ?k2 hoff ?k3 ?_; (case k1 => k_asm); (case k2 => k_asm); (case k3 => omega)); intro h' F' N'; (try k_sweep))
  show wpAny _ _ (execs [_, _, _] _) _ _ _
  k_steps
  (rename Fr h₀ L _ _ => F9)
  (rename News h₀ L _ _ => N9)
  refine' hret _ _ _ _ _ F9 N9 ?r
  (case r => (intro y h1 h2 h3; (simp only [List.contains_cons, List.contains_nil, Bool.or_false, Bool.or_eq_false_iff, beq_eq_false_iff_ne, ne_eq] at h3); simp [h1, h2, h3]))
end Mine
end
section
open PySem PySem.W PyProof.Rows PySem.Flt
namespace Mine
/-- the text told of the i-th root -/
def wordAt (pls : List Nat) (z : Nat) (sz ct : Int) (stp : List Int) (i : Nat) : Str := sayOf (bitsTo (flagN pls z sz ct (pls.getD i 0) stp stp.length) 32)
theorem lt_base {D : Addr} {l : List (Addr × Obj)} (h : AllLt D l) : ∀ p ∈ l, p.1 ≠ D := fun p hp => Nat.ne_of_lt (ktn_ltOf h p hp)
set_option maxRecDepth 100000 in
set_option maxHeartbeats 8000000 in
theorem segE {prog : Program} {w : World} {p : Program} {loose : List Str} {mean : ExcName → Option Value} {mg mb : Str → Option Value} {h₀ : Heap} {L fa : Addr} {m : Str → Option Value} {s : Shared} {Q : Flow → Shared → Prop} {E : Value → Shared → Prop}
    {o1 o2 o3 o4 o5 o6 o7 o8 tab : Obj} {v1 v7 v8 : Option Value} {HU MK row ST : Addr} {objs : List (Addr × Obj)} {vsT : List Value} {stp : List Int} {nh nm nr nt z : Nat} {sz ct : Int} {PT : UInt64} {t2 t3 t4 : Tok} {cols : List (Addr × Nat)} {hc mc : List FCell}
    (hE : PassesOwn (model prog w) (lawA L fa) (lawEnv L fa) E) (B : Below callerA h₀ [] h₀) (X : (hd.heap_39 w.params).In h₀) (T : Top p loose mean mg mb h₀) (h98 : @LT.lt Nat _ 98 L)
    (hz : (sz = 16 ∧ z = 2) ∨ (sz = 32 ∧ z = 1)) (hct : ct = 3 ∨ ct = 5 ∨ ct = 7) (hPT : Flt.Hid (partOf sz.toNat = PT)) (a2 : At2 cols sz z hc mc) (hsort : SortedL hc) (hlen : cols.length = ct.toNat) (hdiv : ∀ c ∈ cols, c.2 % z = 0)
    (hstp : ∀ n ∈ stp, 1 ≤ n ∧ n < ct)
    (hHU : (HU, fltObj hc nh) ∈ objs) (hMK : (MK, fltObj mc nm) ∈ objs) (hrow : (row, rowObj cols nr) ∈ objs) (hcol : ∀ c ∈ cols, ColAt objs c.1 c.2)
    (hST : (ST, listOf vsT.toArray nt) ∈ objs) (hIT : IntsAre vsT stp)
    (hfl : ∀ c ∈ cols, 0 < flagN (cols.map (·.2)) z sz ct c.2 stp stp.length ∧ flagN (cols.map (·.2)) z sz ct c.2 stp stp.length < 2 ^ 32)
    (d1 : o1.data = .cell v1) (d2 : o2.data = .cell (some (.int sz t2))) (d3 : o3.data = .cell (some (.int ct t3))) (d4 : o4.data = .cell (some (.float PT t4))) (d5 : o5.data = .cell (some (.ref MK))) (d6 : o6.data = .cell (some (.ref ST))) (d7 : o7.data = .cell v7) (d8 : o8.data = .cell v8)
    (hoff : OffC L objs)
    (F : Fr h₀ L s.heap (fun y => if y = Str.ofString "hues" then some (.ref HU) else if y = Str.ofString "row" then some (.ref row) else m y)) (N : News h₀ L s.heap (cellsOf L o1 o2 o3 o4 o5 o6 o7 o8 tab objs))
    (hnext : ∀ TL wsT nw o7 m' h' tk', wsT.map (·.1) = (List.range ct.toNat).map (wordAt (cols.map (·.2)) z sz ct stp) → o7.data = .cell (some (.ref TL)) → OffC L ((TL, strObj wsT nw) :: objs) → Fr h₀ L h' m' →
      News h₀ L h' (cellsOf L o1 o2 o3 o4 o5 o6 o7 o8 tab ((TL, strObj wsT nw) :: objs)) →
      wpAny (model prog w) (lawA L fa) (execs (lawStmts 10) (lawEnv L fa)) Q E { s with heap := h', toks := tk' }) :
    wpAny (model prog w) (lawA L fa) (execs (lawStmts 8) (lawEnv L fa)) Q E s := by
  have hfill : PySem.Challenge.rw_rl0050_01 = PySem.Challenge.rw_rl0050_01 ∧ hd.heap_39 = hd.heap_39 := by
    k_fill
    exact ⟨rfl, rfl⟩
  clear hfill
  w_top off
  have hhl : hc.length = cols.length := by have := congrArg List.length a2.hpl; simpa using this
  have hcd : ∀ {i : Nat} {c : Addr × Nat} {d : FCell}, cols[i]? = some c → hc[i]? = some d → d.2 = c.2 ∧ (cols.map (·.2)).getD i 0 = c.2 := by
    intro i c d h1 h2
    have := congrArg (fun l => l[i]?) a2.hpl
    simp only [List.getElem?_map, h1, h2, Option.map_some, Option.some.injEq] at this
    exact ⟨this, by simp [h1]⟩
  k_with_none
  k_with "execs cons" => ((with_reducible show wpAny _ _ (execs [_, _, _] _) _ _ _); (show wpAny _ _ (execs (lawStmts 10) _) _ _ _); refine leave_it ?_)
  k_with "exec For Tuple Call cons nil" => (k_here; (rename Fr _ _ _ _ => lF'); (with_unfolding_all refine' For_turns lF' ?_; k_whole))
  k_with "call type:zip" => (k_here; (rename Fr _ _ _ _ => lF'); (rename News _ _ _ _ => lN'); (rename _ ∧ _ ∧ _ ∧ _ ∧ _ ∧ _ ∧ _ ∧ _ ∧ _ ∧ AllLt _ _ => l9); (with_unfolding_all refine' told_loop (cols := cols) (hc := hc) (n1 := nr) (n2 := nh) [Str.ofString "flags", Str.ofString "step", Str.ofString "aim", Str.ofString "tone"] (wordAt (cols.map (·.2)) z sz ct stp) rfl ?ru ?kr ?ku ?hp lF' lN' ?hm1 ?hm2 hhl ?off ?turn ?done); (case ru => decide); (case kr => k_dflt rfl); (case ku => k_dflt rfl); (case hp => k_dflt rfl); (case hm1 => k_mem); (case hm2 => k_mem); (case off => k_dflt (refine lt_base ?_; exact l9)); (case turn => (clear lF' lN'; intro i' c' d' ws' n' its' v' h' tk' hc' hd' hw' hwl' hne' F' N'; (have hcd' := hcd hc' hd'); k_dflt (refine' turn_told hE B X T hz hct hPT a2 hsort hlen hdiv hstp (List.mem_of_getElem? hc') (List.mem_of_getElem? hd') hcd'.1 ?q1 ?q2 ?q3 ?q4 ?q5 hIT hne' ?q6 ?c2 ?c3 ?c4 ?c5 ?c6 ?c7 d2 d3 d4 d5 d6 ?d7 (hfl _ (List.mem_of_getElem? hc')) F' N' (fun h9 tk9 m9 t9 n9 F9 N9 r9 => ⟨h9, tk9, m9, t9, n9, rfl, F9, ?nn, r9⟩); (case nn => (unfold wordAt; rw [hcd'.2]; exact N9)); (case q1 => k_mem); (case q2 => k_mem); (case q3 => k_mem); (case q4 => exact fun c hc => (hcol c hc).mono fun p hp => by k_mem); (case q5 => k_mem); (case q6 => (have := (List.getElem?_eq_some_iff.mp hc').1; omega)); (case c2 => k_mem); (case c3 => k_mem); (case c4 => k_mem); (case c5 => k_mem); (case c6 => k_mem); (case c7 => k_mem); (case d7 => assumption)))); (case' done => (clear lF' lN'; intro v' ws' n' h' tk' hw' F' N'; (try dsimp only); (try k_fold))))
  show wpAny _ _ (execs [_, _, _, _, _] _) _ _ _
  k_steps
  unfold Leave
  (rename Fr _ _ _ _ => F9)
  (rename News _ _ _ _ => N9)
  refine' hnext _ ws' n' _ _ _ _ ?w ?d ?off F9 ?N
  (case w => (rw [← hlen]; exact hw'))
  (case d => assumption)
  (case N => exact kst_newsOf N9 keepP)
  (case off => exact OffC.cons ⟨Ne.symm (Nat.ne_of_lt l9.2.2.2.2.2.2.2.2.1), .inr l9.1⟩ hoff)
end Mine
end
section
open PySem PySem.W PyProof.Rows PySem.Flt
namespace Mine
abbrev sval (c : Str × Tok) : Value := Value.str c.1 c.2
/-- the k-th text stands for the first time -/
def newAt (texts : List Str) (k : Nat) : Bool := !(texts.take k).any fun a => a == texts.getD k (Str.ofString "")
theorem pick_upto (ws : List (Str × Tok)) (k : Nat) : kms_pick (ws.map sval).toArray.toList none (some (0 + (k : Int))) = (ws.take k).map sval := by
  unfold kms_pick kms_hi kms_lo
  simp only [if_neg (show ¬ (0 + (k : Int) < 0) by omega), List.drop_zero, Nat.sub_zero, List.toList_toArray, List.map_take]
  rw [show (0 + (k : Int)).toNat = k by omega, kmk_take_min]
theorem notin_strs {prog : Program} {w : World} {A : Around} {E : Value → Shared → Prop} {s : Shared} {Q : Value → Shared → Prop} {h₀ : Heap} {L : Addr} {news : List (Addr × Obj)} {a : Addr} {ws : List (Str × Tok)} {n : Nat} {x : Str} {t : Tok}
    (N : News h₀ L s.heap news) (ha : (a, strObj ws n) ∈ news) (h : Q (.bool (!(ws.map (·.1)).any fun y => y == x)) s) : wpAny (model prog w) A (compareOp .NotIn (.str x t) (.ref a)) Q E s := by
  have hl : s.heap.IsList a (ws.map sval).toArray := ⟨_, (N _ ha).1, rfl, n, rfl⟩
  refine SeqAt.notIn_listAt (fun v => match v with | .str y _ => y == x | _ => false) hl (fun y hy => ?_) ?_
  · have hy' : y ∈ ws.map sval := by simpa using hy
    obtain ⟨c, _, rfl⟩ := List.mem_map.mp hy'
    exact SeqAt.EqAt.str_str c.1 c.2 x t
  · have e : (ws.map sval).toArray.any (fun v => match v with | .str y _ => y == x | _ => false) = (ws.map (·.1)).any fun y => y == x := by
      rw [List.any_toArray, List.any_map, List.any_map]
      rfl
    rw [e]
    exact h
theorem new_yes {wsT : List (Str × Tok)} {k : Nat} {c : Str × Tok} (h : wsT[k]? = some c) : newAt (wsT.map (·.1)) k = !((wsT.take k).map (·.1)).any fun y => y == c.1 := by
  unfold newAt
  rw [← List.map_take]
  simp [h]
set_option maxRecDepth 100000 in
set_option maxHeartbeats 8000000 in
theorem segF {prog : Program} {w : World} {p : Program} {loose : List Str} {mean : ExcName → Option Value} {mg mb : Str → Option Value} {h₀ : Heap} {L fa : Addr} {m : Str → Option Value} {s : Shared} {Q : Flow → Shared → Prop} {E : Value → Shared → Prop}
    {o1 o2 o3 o4 o5 o6 o7 o8 tab : Obj} {v1 v2 v4 v5 v8 : Option Value} {ST TL : Addr} {objs : List (Addr × Obj)} {vsT : List Value} {stp : List Int} {wsT : List (Str × Tok)} {nt nw : Nat} {ct : Int} {t3 : Tok}
    (B : Below callerA h₀ [] h₀) (X : (hd.heap_39 w.params).In h₀) (T : Top p loose mean mg mb h₀) (h98 : @LT.lt Nat _ 98 L)
    (hct : ct = 3 ∨ ct = 5 ∨ ct = 7) (hwl : wsT.length = ct.toNat) (hsl : stp.length ≤ 7)
    (hTL : (TL, strObj wsT nw) ∈ objs) (hST : (ST, listOf vsT.toArray nt) ∈ objs) (hIT : IntsAre vsT stp)
    (hcount : ((List.range ct.toNat).filter (newAt (wsT.map (·.1)))).length = 1 + stp.length)
    (d1 : o1.data = .cell v1) (d2 : o2.data = .cell v2) (d3 : o3.data = .cell (some (.int ct t3))) (d4 : o4.data = .cell v4) (d5 : o5.data = .cell v5) (d6 : o6.data = .cell (some (.ref ST))) (d7 : o7.data = .cell (some (.ref TL))) (d8 : o8.data = .cell v8)
    (hoff : OffC L objs)
    (F : Fr h₀ L s.heap m) (N : News h₀ L s.heap (cellsOf L o1 o2 o3 o4 o5 o6 o7 o8 tab objs))
    (hnext : ∀ h' tk', Fr h₀ L h' m → News h₀ L h' (cellsOf L o1 o2 o3 o4 o5 o6 o7 o8 tab objs) →
      wpAny (model prog w) (lawA L fa) (execs (lawStmts 11) (lawEnv L fa)) Q E { s with heap := h', toks := tk' }) :
    wpAny (model prog w) (lawA L fa) (execs (lawStmts 10) (lawEnv L fa)) Q E s := by
  have hfill : PySem.Challenge.rw_rl0050_01 = PySem.Challenge.rw_rl0050_01 ∧ hd.heap_39 = hd.heap_39 := by
    k_fill
    exact ⟨rfl, rfl⟩
  clear hfill
  w_top off
  k_with_none
  k_with "execs cons" => ((with_reducible show wpAny _ _ (execs [_, _] _) _ _ _); (show wpAny _ _ (execs (lawStmts 11) _) _ _ _); refine leave_it ?_)
  k_with "eval ListComp" => (k_here; k_dflt (refine LCt.ListComp_T (F₀ := by k_asm) (by with_unfolding_all rfl) (by decide) (by rfl) (by decide) (by rfl) ?_))
  k_with "CompSrcT" => (k_here; k_dflt (refine' LCt.CompSrcT.range (n := ct.toNat) (by rfl) ?F ?N ?hr ?sm ?rs ?sz ?_; (case F => k_asm); (case N => k_asm); (case hr => assumption); (case sm => exact small_one (by omega) (by omega) (by omega) (by omega)); (case rs => exact (rangeSize_nat _ _).trans (by rw [Int.sub_zero])); (case sz => (rw [PySem.sizeLine_eq]; omega))); intro g'; (refine' comp_restT (ks := List.range ct.toNat) (newAt (wsT.map (·.1))) (fun k v => ∃ t, v = Value.int (0 + (k : Int)) t) (fun k y => True) ?hks2 ?hP2 ?hS2 ?turn2 ?fin2); (case hks2 => exact List.length_range); (case hP2 => (rintro i v hi ⟨t, e⟩; exact ⟨i, by rw [List.getElem?_range hi], t, e⟩)); (case hS2 => trivial); (case' turn2 => (rintro k' _ I' oI' C' oC' D' m' ys' h' tk' E' hk' ⟨t', rfl⟩ hC' hx' F' N' off' ne'; (have hk9 := List.mem_range.mp hk'); (have hf9 : k' < 1000 := by omega); (try k_fold))); (case' fin2 => (intro zsP hzP hrP; (have hzl := congrArg List.length hzP); rw [List.length_map, hcount] at hzl)))
  k_with "subscriptTail" => (k_here; (with_reducible show wpAny _ _ (subscriptTail _ _ (Value.ref TL) (Value.int _ _)) _ _ _); k_dflt (refine' item_led (f := sval) (cs := wsT) (n := nw) ?k1 ?hm (by omega) (by omega) (by omega) ?_; (case k1 => k_asm); (case hm => k_mem)); intro c' hc'; (rw [show (0 + (k' : Int)).toNat = k' by omega] at hc'); (have hnew := new_yes hc'); (try dsimp only))
  k_with "subscriptTail Name Slice ref ref" => (k_here; k_dflt (refine' kms_slice_lit ?F ?N ?l IsPart.none (IsPart.int _ _) (pick_upto wsT k') ?_ ?s ?t ?z; (case F => k_asm); (case N => k_asm); (case l => exact News.isList (by k_asm) (show (TL, strObj wsT nw) ∈ _ from by k_mem)); (case s => with_unfolding_all rfl); (case t => (intro _; with_unfolding_all rfl)); (case z => (rw [List.size_toArray, List.length_map, PySem.sizeLine_eq]; omega))); intro D' h' F' N' l1; (try k_lt l1); (try k_sweep))
  k_with "compareOp NotIn str ref" => (k_here; k_dflt (refine' notin_strs (ws := wsT.take k') (n := 0) ?k1 (.head _) ?_; (case k1 => k_asm)); rw [← hnew]; (try dsimp only))
  k_with "call builtin:len" => (k_here; k_dflt (refine' kst_len ?k1 (.head _) (k := 1 + stp.length) ?k3 ?k4 ?_; (case k1 => k_asm); (case k3 => (rw [List.length_map, hzl])); (case k4 => omega)); k_whole)
  k_with "call builtin:len" => (k_here; (with_reducible show wpAny _ _ (call (Value.builtin "len") [Value.ref ST] _) _ _ _); k_dflt (refine' kst_len ?k1 (show (ST, listOf vsT.toArray nt) ∈ _ from ?k2) (k := stp.length) hIT.length ?k4 ?_; (case k1 => k_asm); (case k2 => k_mem); (case k4 => omega)); k_whole)
  k_with "CtEnd" => (exact ⟨_, _, rfl, by assumption, kst_newsOf (by assumption) (fun p hp => .tail _ hp), by assumption, trivial⟩)
  k_with "CtEnd" => (exact ⟨_, _, rfl, by assumption, kst_newsOf (by assumption) (fun p hp => .tail _ hp), by assumption⟩)
  show wpAny _ _ (execs [_, _, _] _) _ _ _
  k_steps
  · exfalso; omega
  · unfold Leave
    (rename News _ _ _ (_ :: _) => N9)
    refine' hnext _ _ ?F ?N
    (case F => assumption)
    (case N => exact kst_newsOf N9 fun p hp => .tail _ hp)
end Mine
end
section
open PySem PySem.W PyProof.Rows PySem.Flt PyProof.V PySem.Spec PySem.Calls
namespace Mine
set_option maxRecDepth 100000
section
variable {prog : Program} {w : World} {A : Around} {E : Value → Shared → Prop} {s : Shared} {h₀ : Heap} {L : Addr} {m : Str → Option Value} {news : List (Addr × Obj)}
theorem collect_range {r : Addr} {a b c : Int} {t u v : Tok} {n : Nat} {Q : List Value → Shared → Prop} (hh : A.handled = none) (hr : IsRange s.heap r a b c t u v) (hsmall : Builtin.Range.small a b c = true) (hn : Builtin.Range.rangeSize a b c = (n : Int)) (hlen : n ≤ 2 ^ 24)
    (hQ : ∀ h' tk (acc : Array Value), (∀ b o, s.heap.get? b = some o → h'.get? b = some o) → ItemsOf (fun i v => ∃ t, v = .int (a + i * c) t) acc n → Q acc.toList { s with heap := h', toks := tk }) :
    wpAny (model prog w) A (collect (.ref r)) Q E s := by
  unfold collect
  refine wpAny_bind (wpAny_runValue (codeAny_builtin F.entry_proto_collect ?_))
  rw [Around.under_plainId F.plain_proto_collect _]
  show wpAny _ A.in1 (newList [] >>= fun l => again (.builtin "list.__iadd__" ⟨[l, .ref r], []⟩)) _ _ s
  refine wpAny_bind (wpAny_newObj_type ?_)
  refine wpAny_pure ⟨plainId_quiet F.plain_list_iadd _, codeAny_builtin F.entry_list_iadd ?_⟩
  rw [Around.under_plainId F.plain_list_iadd _]
  show wpAny _ A.in1 (Builtin.List.listExtendWith (.ref s.heap.objs.size) (.ref r) (.ref s.heap.objs.size)) _ _ _
  have hS : (s.heap.push { cls := .type "list", data := .seq ([] : List Value).toArray }).get? s.heap.objs.size = some { cls := .type "list", data := .seq #[] } := Heap.get?_push_size _ rfl
  refine wpAny_extend_range (R := fun r s' => match r with | .ok (.ret v) => wpAny (model prog w) A (match v with | .ref a => (do match (← load a).data with | .seq xs _ => pure xs.toList | _ => unsupported "internal:collect") | _ => unsupported "internal:collect") Q E s' | .ok _ => False | .error e => E e s') (s := { s with heap := s.heap.push { cls := .type "list", data := .seq ([] : List Value).toArray } }) (c₀ := 0) hh (Heap.get?_push_of_some _ hr) hsmall hn hlen s.heap.objs.size _ hS fun h' tk acc' c' hk hS' hacc => ?_
  show wpAny _ A (load s.heap.objs.size >>= _) _ _ _
  refine wpAny_bind (wpAny_load hS' ?_)
  exact wpAny_pure (hQ h' tk acc' (fun b o e => hk b o (Nat.ne_of_lt (Heap.lt_size e)) (Heap.get?_push_of_some _ e)) hacc)
theorem range_items {acc : Array Value} {n : Nat} (h : ItemsOf (fun i v => ∃ t, v = .int (0 + i * 1) t) acc n) : IntsAre acc.toList ((List.range n).map fun (k : Nat) => (k : Int)) := by
  have key : ∀ (l : List Value) (i : Nat), (∀ j v, l[j]? = some v → ∃ t, v = Value.int (((i + j : Nat) : Int)) t) → IntsAre l ((List.range' i l.length).map fun (k : Nat) => (k : Int)) := by
    intro l
    induction l with
    | nil => intro i _; exact .nil
    | cons v r ih =>
      intro i hv
      obtain ⟨t, rfl⟩ := hv 0 v rfl
      rw [List.length_cons, List.range'_succ, List.map_cons]
      refine .cons _ t (ih (i + 1) fun j w hw => ?_)
      obtain ⟨t', e⟩ := hv (j + 1) w (by simpa using hw)
      exact ⟨t', by rw [e]; congr 1; push_cast; omega⟩
  have := key acc.toList 0 (fun j v hv => by
    obtain ⟨t, e⟩ := h.2 j v (by simpa using hv)
    exact ⟨t, by rw [e]; congr 1; push_cast; omega⟩)
  rw [Array.length_toList, h.1] at this
  rw [List.range_eq_range']
  exact this
/-- sorted(range(n), key=f), f a def that tells an int of each and leaves the ledger as it was -/
theorem sorted_range {r : Addr} {bb : Int} {t u v : Tok} {n : Nat} {f : Value} {kw : List (Str × Value)} {Q : Value → Shared → Prop} (g : Int → Int) (hh : A.handled = none) (hr : IsRange s.heap r 0 bb 1 t u v) (hsmall : Builtin.Range.small 0 bb 1 = true) (hn : Builtin.Range.rangeSize 0 bb 1 = (n : Int)) (h64 : n < 64)
    (F : Fr h₀ L s.heap m) (N : News h₀ L s.heap news)
    (ha1 : argsOk "sorted" ⟨[.ref r], kw⟩) (ha2 : ∀ x, argsOk "list.sort" ⟨[.ref x], kw⟩) (ht : ∀ x, Builtin.«list.sort» ⟨[.ref x], kw⟩ = ksk_tree x f false)
    (turn : ∀ (k : Nat) (t : Tok) (h : Heap) (tk : Nat) (own : List (Addr × Obj)), k < n → Fr h₀ L h m → News h₀ L h (news ++ own) →
      wpAny (model prog w) A.in1.in1 (call f [.int (k : Int) t]) (KskEnd h₀ L m (news ++ own) (g k) { s with heap := h, toks := tk }) (fun _ _ => False) { s with heap := h, toks := tk })
    (done : ∀ D vs' ns' c h' tk, Fr h₀ L h' m → News h₀ L h' ((D, PySem.W.listOf (List.toArray vs') c) :: news) → (∀ q ∈ news, q.1 < D) → IntsAre vs' ns' → ns'.Perm ((List.range n).map fun (k : Nat) => (k : Int)) →
      ns'.Pairwise (fun x y => g x ≤ g y) → Q (.ref D) { s with heap := h', toks := tk }) :
    wpAny (model prog w) A (call (.builtin "sorted") [.ref r] kw) Q E s := by
  refine call_function_entry_kw kind_sorted plain_sorted entry_sorted ha1 ?_
  unfold Builtin.«sorted»
  refine wpAny_bind (m := checkCount "sorted" 1 1 _) (wpAny_pure ?_)
  refine wpAny_bind (collect_range (A := A.in1) hh hr hsmall hn (by omega) fun H tk₀ acc keep hacc => ?_)
  have hI := range_items hacc
  have hlen : acc.toList.length = n := by rw [hI.length]; simp
  refine wpAny_bind (wpAny_newList ?_ (by rw [hlen, sizeLine_eq]; omega))
  have hoL : (H.push (seqObj "list" acc.toList.toArray 0)).get? H.objs.size = some (seqObj "list" acc.toList.toArray 0) := Heap.get?_push_size _ rfl
  have keep' : ∀ b o, s.heap.get? b = some o → (H.push (seqObj "list" acc.toList.toArray 0)).get? b = some o := fun b o e => Heap.get?_push_of_some _ (keep b o e)
  have hltH : ∀ b o, s.heap.get? b = some o → b < H.objs.size := fun b o e => Heap.lt_size (keep b o e)
  obtain ⟨oL, _, _, heL, _⟩ := F.ns
  have hLH : L < H.objs.size := hltH L oL heL
  have fresh : h₀.get? H.objs.size = none := by
    cases q : h₀.get? H.objs.size with
    | none => rfl
    | some o => exact absurd (hltH _ _ (F.keep _ _ q)) (Nat.lt_irrefl _)
  have hlt : ∀ q ∈ news, q.1 < H.objs.size := fun q hq => hltH _ _ (N q hq).1
  show wpAny _ _ _ _ _ { s with heap := H.push (seqObj "list" acc.toList.toArray 0), toks := tk₀ }
  refine wpAny_bind (wpAny_holding (wpAny_call_entry_kw slot_list_sort ⟨_, hoL, rfl⟩ entry_list_sort ?body (ha2 _)))
  have ht' := ht H.objs.size
  show wpAny (model prog w) A.in1.in1 (Builtin.«list.sort» ⟨[.ref H.objs.size], kw⟩) _ _ _
  rw [ht']
  refine ksk_sort (s := { s with heap := H.push (seqObj "list" acc.toList.toArray 0), toks := tk₀ }) (kz := ((List.range n).map fun (k : Nat) => (k : Int)).map g)
    (F.kept keep') (N.grown keep') hoL (Nat.ne_of_gt hLH) fresh (fun p hp => Nat.ne_of_lt (hlt p hp)) (by rw [List.length_map, ← hI.length]) (by omega) (fun i v k hv hk h tk own F' N' => ?_) fun h' tk out c F' N' ko => ⟨_, rfl, ?_⟩
  · rw [List.getElem?_map] at hk
    cases q : ((List.range n).map fun (k : Nat) => (k : Int))[i]? with
    | none => rw [q] at hk; simp at hk
    | some x =>
      rw [q] at hk
      have hk' : some (g x) = some k := hk
      cases hk'
      obtain ⟨t, ht'⟩ := hI.get i x q
      rw [ht'] at hv
      cases hv
      obtain ⟨y, hy, rfl⟩ := List.mem_map.mp (List.mem_of_getElem? q)
      exact turn y t h tk own (List.mem_range.mp hy) F' N'
  · refine wpAny_pure ⟨_, rfl, ?_⟩
    obtain ⟨ps, hp, ho, hs⟩ := ko
    have hrel : ∀ p, p ∈ (((List.range n).map fun (k : Nat) => (k : Int)).map g).zip acc.toList → p.1 = g (numOf p.2) ∧ p.2 ∈ acc.toList := by
      rw [← hI.nums, List.map_map, List.zip_map_left]
      intro p hp
      obtain ⟨⟨u, v⟩, hq, rfl⟩ := List.mem_map.mp hp
      have h1 : u = v ∧ u ∈ acc.toList := mem_zip_self hq
      refine ⟨?_, ?_⟩
      · show g (numOf u) = g (numOf v)
        rw [h1.1]
      · show v ∈ acc.toList
        rw [← h1.1]
        exact h1.2
    have hI2 : IntsAre (ps.map Prod.snd) ((ps.map Prod.snd).map numOf) := intsAre_map _ fun v hv => by
      obtain ⟨p, hp', rfl⟩ := List.mem_map.mp hv
      exact hI.all _ (hrel p (hp.mem_iff.mp hp')).2
    have hP : ((ps.map Prod.snd).map numOf).Perm ((List.range n).map fun (k : Nat) => (k : Int)) := by
      have h1 := (hp.map Prod.snd).map numOf
      rw [List.map_snd_zip (by rw [List.length_map, ← hI.length]; exact Nat.le_refl _), hI.nums] at h1
      exact h1
    have hO : ((ps.map Prod.snd).map numOf).Pairwise (fun x y => g x ≤ g y) := by
      rw [List.pairwise_map, List.pairwise_map]
      refine hs.imp_of_mem fun {p q} hp' hq' hr => ?_
      have hr' : p.1 ≤ q.1 := by simpa using hr
      rw [(hrel p (hp.mem_iff.mp hp')).1, (hrel q (hp.mem_iff.mp hq')).1] at hr'
      exact hr'
    rw [← ho] at hI2 hP hO
    exact done _ out.toList _ c h' tk F' N' hlt hI2 hP hO
end
end Mine
end
section
open PySem PySem.W PyProof.Rows PySem.Flt
namespace Mine
theorem upd_tab {L : Addr} {o1 o2 o3 o4 o5 o6 o7 o8 tab : Obj} {objs : List (Addr × Obj)} (h98 : @LT.lt Nat _ 98 L) (hoff : OffC L objs) :
    UpdF 98 tab (cellsOf L o1 o2 o3 o4 o5 o6 o7 o8 tab objs) (fun tab' => cellsOf L o1 o2 o3 o4 o5 o6 o7 o8 tab' objs) := by
  refine .tail ?_ (.tail ?_ (.tail ?_ (.tail ?_ (.tail ?_ (.tail ?_ (.tail ?_ (.tail ?_ (.head (hoff.ne (.inl rfl)))))))))) <;> (show @Ne Nat _ _; omega)
abbrev rngObj (b : Int) (t u v : Tok) : Obj := { cls := .type "range", dict := none, data := .fields #[.int 0 t, .int b u, .int 1 v], slots := #[] }
theorem rng_get {h₀ h : Heap} {L r : Addr} {ct : Int} {t u v : Tok} {a b : Addr × Obj} {l : List (Addr × Obj)} (N : News h₀ L h (a :: b :: (r, rngObj ct t u v) :: l)) : IsRange h r 0 ct 1 t u v := (N _ (.tail _ (.tail _ (.head _)))).1
theorem keepG {L : Addr} {o1 o2 o3 o4 o5 o6 o7 o8 tab : Obj} {objs : List (Addr × Obj)} {a b c d : Addr × Obj} : ∀ p ∈ cellsOf L o1 o2 o3 o4 o5 o6 o7 o8 tab (a :: objs), p ∈ a :: b :: c :: d :: cellsOf L o1 o2 o3 o4 o5 o6 o7 o8 tab objs := by
  intro p hp
  rcases cells_mem.mp hp with h | hp
  · exact .tail _ (.tail _ (.tail _ (.tail _ (cells_mem.mpr (.inl h)))))
  · rcases List.mem_cons.mp hp with rfl | hp
    · exact .head _
    · exact .tail _ (.tail _ (.tail _ (.tail _ (cells_mem.mpr (.inr hp)))))
theorem get_getD {l : List Int} {i : Nat} (h : i < l.length) : l[i]? = some (l.getD i 0) := by
  simp [h]
set_option maxRecDepth 100000 in
set_option maxHeartbeats 8000000 in
theorem segG {prog : Program} {w : World} {p : Program} {loose : List Str} {mean : ExcName → Option Value} {mg mb : Str → Option Value} {h₀ : Heap} {L fa : Addr} {m : Str → Option Value} {s : Shared} {Q : Flow → Shared → Prop} {E : Value → Shared → Prop}
    {o1 o2 o3 o4 o5 o6 o7 o8 : Obj} {v1 v2 v4 v5 v6 v7 : Option Value} {PL : Addr} {objs : List (Addr × Obj)} {vsP : List Value} {nsP : List Int} {np : Nat} {ct : Int} {t3 : Tok}
    (B : Below callerA h₀ [] h₀) (X : (hd.heap_39 w.params).In h₀) (T : Top p loose mean mg mb h₀) (h98 : @LT.lt Nat _ 98 L) (hC : CodeHd h₀ 100 98)
    (hct : ct = 3 ∨ ct = 5 ∨ ct = 7) (hPL : (PL, listOf vsP.toArray np) ∈ objs) (hIP : IntsAre vsP nsP) (hPlen : nsP.length = ct.toNat)
    (d1 : o1.data = .cell v1) (d2 : o2.data = .cell v2) (d3 : o3.data = .cell (some (.int ct t3))) (d4 : o4.data = .cell v4) (d5 : o5.data = .cell v5) (d6 : o6.data = .cell v6) (d7 : o7.data = .cell v7) (d8 : o8.data = .cell (some (.ref PL)))
    (hoff : OffC L objs)
    (F : Fr h₀ L s.heap m) (N : News h₀ L s.heap (cellsOf L o1 o2 o3 o4 o5 o6 o7 o8 (tabObj #[]) objs))
    (hnext : ∀ OR vsO nsO nO ps h' tk', IntsAre vsO nsO → nsO.Perm ((List.range ct.toNat).map fun (k : Nat) => (k : Int)) → nsO.Pairwise (fun x y => nsP.getD x.toNat 0 ≤ nsP.getD y.toNat 0) → Fr h₀ L h' (fun y => if y = Str.ofString "order" then some (.ref OR) else m y) →
      News h₀ L h' (cellsOf L o1 o2 o3 o4 o5 o6 o7 o8 (tabObj ps) ((OR, listOf vsO.toArray nO) :: objs)) →
      wpAny (model prog w) (lawA L fa) (execs (lawStmts 12) (lawEnv L fa)) Q E { s with heap := h', toks := tk' }) :
    wpAny (model prog w) (lawA L fa) (execs (lawStmts 11) (lawEnv L fa)) Q E s := by
  have hfill : PySem.Challenge.rw_rl0050_01 = PySem.Challenge.rw_rl0050_01 ∧ hd.heap_39 = hd.heap_39 := by
    k_fill
    exact ⟨rfl, rfl⟩
  clear hfill
  w_top off
  have hLr : @LT.lt Nat _ L s.heap.objs.size := F.ns.lt
  have hr0 : h₀.get? s.heap.objs.size = none := Heap.get?_none_of_le (Nat.le_trans F.above (Nat.le_of_lt hLr))
  generalize hrr : s.heap.objs.size = rr at hLr hr0
  have hrng : ∀ {h : Heap} {t u v : Tok} {l : List (Addr × Obj)}, IsRange h rr 0 ct 1 t u v → News h₀ L h l → News h₀ L h ((rr, rngObj ct t u v) :: l) := by
    intro h t u v l hr N' p hp
    rcases List.mem_cons.mp hp with rfl | hp
    · exact ⟨hr, Nat.ne_of_gt hLr, hr0⟩
    · exact N' p hp
  have hr98 : (@Ne Nat rr 98) := by omega
  k_with_none
  k_with "execs cons" => ((with_reducible show wpAny _ _ (execs [_] _) _ _ _); (show wpAny _ _ (execs (lawStmts 12) _) _ _ _); refine leave_it ?_)
  k_with "eval Lambda" => (k_here; (rename IsRange _ _ _ _ _ _ _ _ => hR'); (rename News _ _ _ _ => N9); rw [hrr] at hR'; (replace N9 := hrng hR' N9); k_dflt (refine' kla_eval ?d0 ?_; (case d0 => exact rfl)); k_dflt (refine' kla_nest ?F ?N ?T hC ?cd ?U ?t ?n ?cl ?_; (case F => k_asm); (case N => exact N9); (case T => k_asm); (case cd => exact rfl); (case U => exact .tail hr98 (upd_tab h98 hoff)); (case t => kn_triples); (case n => kn_among); (case cl => with_unfolding_all rfl); k_whole); intro f' c' oc' vs' t' ct' h' tk' F' N' d1' d2' l1 l2; (try dsimp only at N'); (try k_lt l1); (try k_lt2 l2))
  k_with "call builtin:sorted" => (k_here; (rename News _ _ _ _ => N9); (have hR9 := rng_get N9); rw [hrr]; k_dflt (refine' sorted_range (n := ct.toNat) (fun x => nsP.getD x.toNat 0) (by rfl) hR9 ?sm ?rs ?lt ?F ?N ?a1 ?a2 ?a3 ?turn ?done; (case lt => omega); (case sm => exact small_one (by omega) (by omega) (by omega) (by omega)); (case rs => exact (rangeSize_nat _ _).trans (by rw [Int.sub_zero])); (case F => k_asm); (case N => k_asm); (case a1 => exact ksk_s1 _ _); (case a2 => (intro x'; exact ksk_l1 _ _)); (case a3 => (intro x'; exact ksk_t1 _ _))); (case' turn => (intro k' t' h' tk' own' hk' F' N'; (have hx9 : nsP[(k' : Int).toNat]? = some (nsP.getD (k' : Int).toNat 0) := get_getD (by omega)); (try dsimp only); (try k_fold))); (case' done => (intro DO vsO nsO cO h' tk' F' N' l1 iO pO oO; (try dsimp only); (try k_fold))))
  k_with "subscriptTail" => (k_here; (with_reducible show wpAny _ _ (subscriptTail _ _ (Value.ref PL) (Value.int _ _)) _ _ _); k_dflt (refine' item_intsK ?k1 (show (PL, listOf vsP.toArray np) ∈ _ from ?hm) hIP hx9 (by omega) (by omega) ?_; (case k1 => k_asm); (case hm => k_mem)); intro t'; (try dsimp only))
  k_with "call ref" => (k_here; (with_reducible show wpAny _ _ (call (Value.ref f') [Value.int _ _] _) _ _ _); k_dflt (refine wpAny_call ?_; kla_enter))
  show wpAny _ _ (execs [_, _] _) _ _ _
  k_steps
  unfold Leave
  (rename Fr h₀ L _ _ => F9)
  (rename News h₀ L _ _ => N9)
  refine' hnext DO vsO nsO cO (#[] ++ #[rawInt ((148 : Nat) : Int), rawInt ((37 : Nat) : Int), Value.ref c']) _ _ iO pO oO F9 ?N
  (case N => exact kst_newsOf N9 keepG)
end Mine
end
section
open PySem PySem.W PyProof.Rows PySem.Flt
namespace Mine
theorem eq_strs {prog : Program} {w : World} {A : Around} {E : Value → Shared → Prop} {s : Shared} {Q : Value → Shared → Prop} {h₀ : Heap} {L : Addr} {news : List (Addr × Obj)} {a b : Addr} {ws us : List (Str × Tok)} {n k : Nat}
    (N : News h₀ L s.heap news) (ha : (a, strObj ws n) ∈ news) (hb : (b, strObj us k) ∈ news) (hm : ws.map (·.1) = us.map (·.1)) (hu : A.units < cLine) (h : Q (.bool true) s) : wpAny (model prog w) A (compareOp .Eq (.ref a) (.ref b)) Q E s := by
  have hlen : ws.length = us.length := by have := congrArg List.length hm; simpa using this
  have hl : s.heap.IsList a (ws.map sval).toArray := ⟨_, (N _ ha).1, rfl, n, rfl⟩
  have hl2 : s.heap.IsList b (us.map sval).toArray := ⟨_, (N _ hb).1, rfl, k, rfl⟩
  refine SeqAt.eq_listAt (e := fun _ => true) hl hl2 (by simp [hlen]) hu (fun j h1 h2 => ?_) ?_
  · have j1 : j < ws.length := by simpa using h1
    have j2 : j < us.length := by simpa using h2
    have e1 : (ws.map sval).toArray[j] = sval ws[j] := by simp
    have e2 : (us.map sval).toArray[j] = sval us[j] := by simp
    have e3 : ws[j].1 = us[j].1 := by
      have := congrArg (fun l => l[j]?) hm
      simpa [j1, j2] using this
    rw [e1, e2]
    have := SeqAt.EqAt.str_str (A := A.in1) (s := s) ws[j].1 ws[j].2 us[j].1 us[j].2
    rw [e3, beq_self_eq_true] at this
    show SeqAt.EqAt _ _ (.str ws[j].1 _) (.str us[j].1 _) true
    rw [e3]
    exact this
  · have : ((List.range (ws.map sval).toArray.size).all fun _ => true) = true := by simp
    rw [this]
    exact h
theorem strs_tell {α : Type} (g : α → Str) : ∀ zs : List (α × Value), (∀ z ∈ zs, ∃ t, z.2 = Value.str (g z.1) t) → ∃ us : List (Str × Tok), zs.map (·.2) = us.map sval ∧ us.map (·.1) = zs.map (fun z => g z.1)
  | [], _ => ⟨[], rfl, rfl⟩
  | z :: r, h => by
    obtain ⟨us, e1, e2⟩ := strs_tell g r fun y hy => h y (.tail _ hy)
    obtain ⟨t, e3⟩ := h z (.head _)
    refine ⟨(g z.1, t) :: us, ?_, ?_⟩
    · simp only [List.map_cons]; rw [e1, e3]
    · simp only [List.map_cons]; rw [e2]
def partsOf (sz ct : Int) (stp : List Int) (n : Int) : List Int := stp.map fun st => Int.fdiv (st * sz + Int.fmod (n * sz) ct) ct
def sayAt (sz ct : Int) (stp : List Int) (n : Int) : Str := sayOf ((0 :: partsOf sz ct stp n).map Int.toNat)
theorem part_in {st sz ct n : Int} (h : 1 ≤ st ∧ st < ct) (hz : sz = 16 ∨ sz = 32) (hct : ct = 3 ∨ ct = 5 ∨ ct = 7) : 0 ≤ Int.fdiv (st * sz + Int.fmod (n * sz) ct) ct ∧ Int.fdiv (st * sz + Int.fmod (n * sz) ct) ct < 32 := by
  have h1 := fmod_in (n * sz) (show 0 < ct by omega)
  generalize Int.fmod (n * sz) ct = x at h1
  rw [Int.fdiv_eq_ediv_of_nonneg _ (by omega)]
  rcases hz with rfl | rfl <;> rcases hct with rfl | rfl | rfl <;> omega
theorem parts_in {sz ct n : Int} {stp : List Int} (h : ∀ st ∈ stp, 1 ≤ st ∧ st < ct) (hz : sz = 16 ∨ sz = 32) (hct : ct = 3 ∨ ct = 5 ∨ ct = 7) : ∀ x ∈ 0 :: partsOf sz ct stp n, 0 ≤ x ∧ x < 32 := by
  intro x hx
  rcases List.mem_cons.mp hx with rfl | hx
  · decide
  · obtain ⟨st, hst, rfl⟩ := List.mem_map.mp hx
    exact part_in (h st hst) hz hct
theorem parts_eq {sz ct n : Int} {stp : List Int} {zs : List (Int × Value)} (h : zs.map (·.1) = stp) : (zs.map fun z => Int.fdiv (z.1 * sz + Int.fmod (n * sz) ct) ct) = partsOf sz ct stp n := by
  unfold partsOf
  rw [← h, List.map_map]
  rfl
theorem add_zero {prog : Program} {w : World} {A : Around} {E : Value → Shared → Prop} {s : Shared} {Q : Value → Shared → Prop} {h₀ : Heap} {L : Addr} {m : Str → Option Value} {news : List (Addr × Obj)} {l b : Addr} {t : Tok} {n k : Nat} {ws : List Value} {ms : List Int}
    (F : Fr h₀ L s.heap m) (N : News h₀ L s.heap ((b, listOf ws.toArray k) :: (l, listOf #[Value.int 0 t] n) :: news)) (hj : IntsAre ws ms)
    (h : ∀ h', Fr h₀ L h' m → News h₀ L h' ((s.heap.objs.size, listOf (Value.int 0 t :: ws).toArray 0) :: (b, listOf ws.toArray k) :: (l, listOf #[Value.int 0 t] n) :: news) → IntsAre (Value.int 0 t :: ws) (0 :: ms) → Q (.ref s.heap.objs.size) { s with heap := h' })
    (hsz : ms.length ≤ 100) : wpAny (model prog w) A (binaryOp .Add (.ref l) (.ref b)) Q E s :=
  add_lists_ints (vs := [Value.int 0 t]) (ns := [0]) F N (News.isList N (.tail _ (.head _))) (News.isList N (.head _)) (.cons _ _ .nil) hj (fun h' F' N' i' => h h' F' N' i') (by simp only [List.length_cons, List.length_nil]; rw [sizeLine_eq]; omega)
theorem say_is {sz ct n : Int} {stp : List Int} {t : Tok} : Value.str (sayOf ((0 :: partsOf sz ct stp n).map Int.toNat)) t = Value.str (sayAt sz ct stp n) t := rfl
theorem keep3 {a b c : Addr × Obj} {l : List (Addr × Obj)} : ∀ p ∈ l, p ∈ a :: b :: c :: l := fun p hp => .tail _ (.tail _ (.tail _ hp))
set_option maxRecDepth 100000 in
set_option maxHeartbeats 8000000 in
theorem segH {prog : Program} {w : World} {p : Program} {loose : List Str} {mean : ExcName → Option Value} {mg mb : Str → Option Value} {h₀ : Heap} {L fa : Addr} {m : Str → Option Value} {s : Shared} {Q : Flow → Shared → Prop} {E : Value → Shared → Prop}
    {o1 o2 o3 o4 o5 o6 o7 o8 tab : Obj} {v1 v4 v5 v8 : Option Value} {ST TL OR : Addr} {objs : List (Addr × Obj)} {vsT vsO : List Value} {stp nsO : List Int} {wsT : List (Str × Tok)} {nt nw nO : Nat} {sz ct : Int} {t2 t3 : Tok}
    (B : Below callerA h₀ [] h₀) (X : (hd.heap_39 w.params).In h₀) (T : Top p loose mean mg mb h₀) (h98 : @LT.lt Nat _ 98 L)
    (hz : sz = 16 ∨ sz = 32) (hct : ct = 3 ∨ ct = 5 ∨ ct = 7) (hsl : stp.length ≤ 7) (hstp : ∀ n ∈ stp, 1 ≤ n ∧ n < ct) (hOl : nsO.length ≤ 7) (hOb : ∀ n ∈ nsO, 0 ≤ n ∧ n < ct)
    (hTL : (TL, strObj wsT nw) ∈ objs) (hST : (ST, listOf vsT.toArray nt) ∈ objs) (hIT : IntsAre vsT stp) (hOR : (OR, listOf vsO.toArray nO) ∈ objs) (hIO : IntsAre vsO nsO)
    (hsay : wsT.map (·.1) = nsO.map (sayAt sz ct stp))
    (d1 : o1.data = .cell v1) (d2 : o2.data = .cell (some (.int sz t2))) (d3 : o3.data = .cell (some (.int ct t3))) (d4 : o4.data = .cell v4) (d5 : o5.data = .cell v5) (d6 : o6.data = .cell (some (.ref ST))) (d7 : o7.data = .cell (some (.ref TL))) (d8 : o8.data = .cell v8)
    (F : Fr h₀ L s.heap (fun y => if y = Str.ofString "order" then some (.ref OR) else m y)) (N : News h₀ L s.heap (cellsOf L o1 o2 o3 o4 o5 o6 o7 o8 tab objs))
    (hret : ∀ m' h' tk', Fr h₀ L h' m' → News h₀ L h' (cellsOf L o1 o2 o3 o4 o5 o6 o7 o8 tab objs) → Q (.ret (.bool true)) { s with heap := h', toks := tk' }) :
    wpAny (model prog w) (lawA L fa) (execs (lawStmts 12) (lawEnv L fa)) Q E s := by
  have hfill : PySem.Challenge.rw_rl0050_01 = PySem.Challenge.rw_rl0050_01 ∧ hd.heap_39 = hd.heap_39 := by
    k_fill
    exact ⟨rfl, rfl⟩
  clear hfill
  w_top off
  k_with_none
  k_with "eval ListComp" => (k_here; (with_reducible show wpAny _ _ (eval (PySem.Expr.ListComp (PySem.Expr.Call _ _ _ _) _ _ _) _) _ _ _); k_dflt (refine' ListComp_C (F₀ := ?f0) ?q1 ?q2 ?q3 ?q4 ?q5 ?q6 ?_ ?hs; (case f0 => k_asm); (case hs => (intro _; rfl)); (case q1 => with_unfolding_all rfl); (case q2 => (intro _; with_unfolding_all rfl)); (case q3 => (intro _; with_unfolding_all rfl)); (case q4 => rfl); (case q5 => decide); (case q6 => with_unfolding_all rfl)))
  k_with "eval ListComp" => (k_here; (with_reducible show wpAny _ _ (eval (PySem.Expr.ListComp (PySem.Expr.BinOp _ _ _ _) _ _ _) _) _ _ _); k_dflt (refine LCg.ListComp_U (F₀ := by k_asm) (by with_unfolding_all rfl) (by decide) (by rfl) (by decide) (by rfl) ?_))
  k_with "OwnC" => (k_here; k_dflt (refine' ownC_intro (ns := nsO) (vs := vsO) (k := nO) (fun n y => ∃ t, y = Value.str (sayAt sz ct stp n) t) (by rfl) ?F ?N ?hm hIO ?sz ?turn1 ?fin1; (case F => k_asm); (case N => k_asm); (case hm => k_mem); (case sz => (rw [PySem.sizeLine_eq]; omega))); (case' turn1 => (intro n' t' I' oI' K' oK' C' oC' D' ys' h' tk' E' hn9 hK' F' N'; (have hnb := hOb _ hn9); (try dsimp only); (try k_fold))); (case' fin1 => (intro zsO hzO hrO D9' h' tk' F' N' o1'; (try simp only [LCg.Off1, and_true] at o1'); (try simp only [List.nil_append, List.cons_append] at N'); (try dsimp only))))
  k_with "CompSrc" => (k_here; (with_reducible show LCg.CompSrc _ _ _ _ _ _ _ _ _ _ _ _ (Value.ref ST) _); k_dflt (refine' LCg.CompSrc.ledger (by rfl) ?F ?N (show (ST, listOf vsT.toArray nt) ∈ _ from ?mem) ?sz ?_; (case F => k_asm); (case N => k_asm); (case mem => k_mem); (case sz => (rw [List.size_toArray, hIT.length, PySem.sizeLine_eq]; omega))); intro g'; (refine' comp_rest (ks := stp) (fun k v => ∃ t, v = Value.int k t) (fun k y => ∃ t, y = Value.int (Int.fdiv (k * sz + Int.fmod (n' * sz) ct) ct) t) ?hks ?hP ?hS ?turn ?fin); (case hks => (rw [List.size_toArray]; exact hIT.length.symm)); (case hP => (intro i v hi hv; obtain ⟨k, t, e, hk⟩ := IntsAre.at hIT i v (by simpa using hv); exact ⟨k, hk, t, e⟩)); (case hS => exact src_led (show (ST, listOf vsT.toArray nt) ∈ _ from by k_mem)); (case' turn => (rintro k' _ J' oJ' G' oG' H' m' zs' h' tk' E' hk' ⟨t', rfl⟩ hC' hx' F' N' off' ne'; (have hb9 := hstp _ hk'); (try k_fold))); (case' fin => (intro zsS hzS hrS)))
  k_with "CtEnd" => (exact ⟨_, _, rfl, by assumption, by assumption, _, rfl⟩)
  k_with "binaryOp Add ref ref" => (k_here; (rename News _ _ _ _ => N9); (have iS9 := ints_of (fun k : Int => Int.fdiv (k * sz + Int.fmod (n' * sz) ct) ct) zsS hrS); (have e9 := parts_eq (sz := sz) (ct := ct) (n := n') hzS); rw [e9] at iS9; k_dflt (refine' add_zero ?F N9 iS9 ?_ ?sz; (case F => k_asm); (case sz => (unfold partsOf; rw [List.length_map]; omega))); intro h' F' N' iA'; (try dsimp only); (try k_sweep))
  k_with "call ref" => (k_here; (with_reducible show wpAny _ _ (call (Value.ref 96) [Value.ref _] _) _ _ _); k_dflt (refine' words_ctr (ns := 0 :: partsOf sz ct stp n') ?pl iA' (parts_in hstp hz hct) ?len ?B ?F ?X ?N ?T ?hk ?hdp ?hun ?_; (case F => k_asm); (case N => k_asm); (case pl => exact .head _); (case len => (unfold partsOf; rw [List.length_cons, List.length_map]; omega)); (case B => k_asm); (case X => k_asm); (case T => k_asm); (case hk => first | exact rfl | assumption); (case hdp => ktr_room); (case hun => ktr_units)); intro t1' h' tk' F' N'; (try dsimp only); (try k_fold); (try k_sweep))
  k_with "CtEnd" => (exact ⟨_, _, rfl, by assumption, kst_newsOf (by assumption) keep3, _, say_is⟩)
  k_with "compareOp Eq ref ref" => (k_here; (have hcs := strs_tell (sayAt sz ct stp) zsO hrO); (obtain ⟨us', u1', u2'⟩ := hcs); (rename News _ _ _ _ => N9); rw [u1'] at N9; k_dflt (refine' eq_strs (ws := wsT) (us := us') (n := nw) (k := (us'.map sval).length) N9 ?k1 ?k2 ?k3 ?k4 ?_; (case k1 => exact (show (TL, strObj wsT nw) ∈ _ from by k_mem)); (case k2 => exact .head _); (case k3 => (rw [hsay, u2', ← hzO, List.map_map]; rfl)); (case k4 => ktr_units)); (try dsimp only))
  show wpAny _ _ (execs [_] _) _ _ _
  k_steps
  (rename Fr h₀ L _ _ => F9)
  exact hret _ _ _ F9 (kst_newsOf N9 fun p hp => .tail _ hp)
end Mine
end
end
section
open PySem PySem.W PyProof.Rows
namespace Mine
theorem sorted_uniq {a b : List Nat} (p : a.Perm b) (ha : a.Pairwise (· ≤ ·)) (hb : b.Pairwise (· ≤ ·)) : a = b := by
  have h := lks_uniq (a := a.map fun (k : Nat) => (k : Int)) (b := b.map fun (k : Nat) => (k : Int)) (p.map _)
    (by rw [List.pairwise_map]; exact ha.imp fun h => by omega) (by rw [List.pairwise_map]; exact hb.imp fun h => by omega)
  have : ∀ (a b : List Nat), (a.map fun (k : Nat) => (k : Int)) = (b.map fun (k : Nat) => (k : Int)) → a = b := by
    intro a
    induction a with
    | nil => intro b h; cases b with
      | nil => rfl
      | cons x y => simp at h
    | cons x r ih => intro b h; cases b with
      | nil => simp at h
      | cons y q =>
        simp only [List.map_cons, List.cons.injEq] at h
        rw [ih q h.2]
        congr 1
        omega
  exact this a b h
def ins (x : Nat) : List Nat → List Nat
  | [] => [x]
  | y :: r => bif Nat.ble x y then x :: y :: r else y :: ins x r
def isort : List Nat → List Nat
  | [] => []
  | x :: r => ins x (isort r)
theorem ins_perm (x : Nat) : ∀ l : List Nat, (ins x l).Perm (x :: l)
  | [] => .refl _
  | y :: r => by
    unfold ins
    cases Nat.ble x y with
    | true => exact .refl _
    | false => exact ((ins_perm x r).cons y).trans (.swap x y r)
theorem isort_perm : ∀ l : List Nat, (isort l).Perm l
  | [] => .refl _
  | x :: r => (ins_perm x _).trans ((isort_perm r).cons x)
theorem ins_sorted (x : Nat) : ∀ l : List Nat, l.Pairwise (· ≤ ·) → (ins x l).Pairwise (· ≤ ·)
  | [], _ => by simp [ins]
  | y :: r, h => by
    unfold ins
    cases e : Nat.ble x y with
    | true =>
      have hxy : x ≤ y := Nat.le_of_ble_eq_true e
      refine List.pairwise_cons.mpr ⟨fun z hz => ?_, h⟩
      rcases List.mem_cons.mp hz with rfl | hz
      · exact hxy
      · exact Nat.le_trans hxy ((List.pairwise_cons.mp h).1 z hz)
    | false =>
      have hyx : y ≤ x := Nat.le_of_not_le fun h => by rw [Nat.ble_eq_true_of_le h] at e; cases e
      refine List.pairwise_cons.mpr ⟨fun z hz => ?_, ins_sorted x r (List.pairwise_cons.mp h).2⟩
      rcases List.mem_cons.mp ((ins_perm x r).mem_iff.mp hz) with rfl | hz
      · exact hyx
      · exact (List.pairwise_cons.mp h).1 z hz
theorem isort_sorted : ∀ l : List Nat, (isort l).Pairwise (· ≤ ·)
  | [] => .nil
  | x :: r => ins_sorted x _ (isort_sorted r)
/-- a sum of distinct powers of two, its bits -/
theorem pow_sum : ∀ (n : Nat) (l : List Nat), l.length = n → l.Pairwise (· < ·) → ∀ b, (∀ x ∈ l, x < b) → (l.map (2 ^ ·)).sum < 2 ^ b ∧ ∀ i, ((l.map (2 ^ ·)).sum).testBit i = decide (i ∈ l) := by
  intro n
  induction n with
  | zero =>
    intro l hl _ b _
    have : l = [] := List.eq_nil_of_length_eq_zero hl
    subst this
    exact ⟨Nat.pow_pos (by decide), fun i => by simp⟩
  | succ n ih =>
    intro l hl hp b hb
    obtain ⟨r, x, rfl⟩ : ∃ r x, l = r ++ [x] := by
      have hne : l ≠ [] := fun h => by rw [h] at hl; cases hl
      exact ⟨l.dropLast, l.getLast hne, (List.dropLast_concat_getLast hne).symm⟩
    rw [List.pairwise_append] at hp
    obtain ⟨hr, _, hx⟩ := hp
    have hx' : ∀ y ∈ r, y < x := fun y hy => hx y hy x (by simp)
    obtain ⟨h1, h2⟩ := ih r (by simpa using hl) hr x hx'
    have e : ((r ++ [x]).map (2 ^ ·)).sum = 2 ^ x * 1 + (r.map (2 ^ ·)).sum := by
      rw [List.map_append, List.sum_append]
      simp
      omega
    rw [e]
    constructor
    · have hxb : x + 1 ≤ b := hb x (by simp)
      have : 2 ^ (x + 1) ≤ 2 ^ b := Nat.pow_le_pow_right (by decide) hxb
      rw [Nat.pow_succ] at this
      omega
    · intro i
      rw [Nat.testBit_two_pow_mul_add _ h1]
      by_cases hi : i < x
      · rw [if_pos hi, h2 i]
        have : i ≠ x := Nat.ne_of_lt hi
        simp [this]
      · rw [if_neg hi]
        have hir : i ∉ r := fun h => hi (hx' i h)
        by_cases hix : i = x
        · subst hix; simp
        · have : i - x ≠ 0 := by omega
          have h3 : (1 : Nat).testBit (i - x) = false := by
            obtain ⟨j, hj⟩ : ∃ j, i - x = j + 1 := ⟨i - x - 1, by omega⟩
            rw [hj, Nat.testBit_succ]
            simp
          rw [h3]
          simp [hir, hix]
theorem filter_mem_range : ∀ (n : Nat) (l : List Nat), l.Pairwise (· < ·) → (∀ x ∈ l, x < n) → (List.range n).filter (fun p => decide (p ∈ l)) = l := by
  intro n l hp hl
  have h1 : ((List.range n).filter fun p => decide (p ∈ l)).Pairwise (· < ·) := (List.pairwise_lt_range).filter _
  have h2 : ∀ x, x ∈ (List.range n).filter (fun p => decide (p ∈ l)) ↔ x ∈ l := by
    intro x
    rw [List.mem_filter, List.mem_range]
    exact ⟨fun h => of_decide_eq_true h.2, fun h => ⟨hl x h, decide_eq_true h⟩⟩
  refine sorted_uniq ?_ (h1.imp Nat.le_of_lt) (hp.imp Nat.le_of_lt)
  rw [List.perm_ext_iff_of_nodup (h1.imp Nat.ne_of_lt) (hp.imp Nat.ne_of_lt)]
  exact h2
theorem bits_of_sum {l : List Nat} (hp : l.Pairwise (· < ·)) (hl : ∀ x ∈ l, x < 32) : (l.map (2 ^ ·)).sum < 2 ^ 32 ∧ bitsTo ((l.map (2 ^ ·)).sum) 32 = l := by
  obtain ⟨h1, h2⟩ := pow_sum _ l rfl hp 32 hl
  refine ⟨h1, ?_⟩
  unfold bitsTo
  rw [List.filter_congr fun x _ => h2 x]
  exact filter_mem_range 32 l hp hl
end Mine
end
section
open PySem PySem.W PyProof.Rows
namespace Mine
section
variable {α : Type} [BEq α] [LawfulBEq α]
def dd : List α → List α
  | [] => []
  | a :: l => bif (dd l).elem a then dd l else a :: dd l
theorem dd_cons (a : α) (l : List α) : dd (a :: l) = bif (dd l).elem a then dd l else a :: dd l := rfl
theorem dd_mem : ∀ (l : List α) (x : α), x ∈ dd l ↔ x ∈ l
  | [], x => Iff.rfl
  | a :: l, x => by
    have ih := dd_mem l
    unfold dd
    cases e : (dd l).elem a with
    | true =>
      have ha : a ∈ dd l := List.elem_iff.mp e
      simp only [cond_true, List.mem_cons]
      rw [ih]
      constructor
      · exact .inr
      · rintro (rfl | h)
        · exact (ih _).mp ha
        · exact h
    | false =>
      simp only [cond_false, List.mem_cons]
      rw [ih]
theorem dd_nodup : ∀ l : List α, (dd l).Nodup
  | [] => .nil
  | a :: l => by
    unfold dd
    cases e : (dd l).elem a with
    | true => exact dd_nodup l
    | false =>
      refine List.nodup_cons.mpr ⟨fun h => ?_, dd_nodup l⟩
      rw [List.elem_iff.mpr h] at e
      cases e
theorem dd_len {l r : List α} (h : ∀ x, x ∈ l ↔ x ∈ r) : (dd l).length = (dd r).length :=
  ((List.perm_ext_iff_of_nodup (dd_nodup l) (dd_nodup r)).mpr fun x => by rw [dd_mem, dd_mem]; exact h x).length_eq
def newL (z : α) (l : List α) (k : Nat) : Bool := !(l.take k).any fun a => a == l.getD k z
theorem cnt_dd (z : α) : ∀ (n : Nat) (l : List α), l.length = n → ((List.range n).filter (newL z l)).length = (dd l.reverse).length := by
  intro n
  induction n with
  | zero =>
    intro l hl
    have : l = [] := List.eq_nil_of_length_eq_zero hl
    subst this
    rfl
  | succ n ih =>
    intro l hl
    obtain ⟨r, x, rfl⟩ : ∃ r x, l = r ++ [x] := by
      have hne : l ≠ [] := fun h => by rw [h] at hl; cases hl
      exact ⟨l.dropLast, l.getLast hne, (List.dropLast_concat_getLast hne).symm⟩
    have hr : r.length = n := by simpa using hl
    have e1 : (List.range n).filter (newL z (r ++ [x])) = (List.range n).filter (newL z r) := by
      refine List.filter_congr fun k hk => ?_
      have hk' : k < r.length := by rw [hr]; exact List.mem_range.mp hk
      unfold newL
      rw [List.take_append_of_le_length (Nat.le_of_lt hk')]
      simp [List.getElem?_append_left hk']
    have e2 : newL z (r ++ [x]) n = !(dd r.reverse).elem x := by
      unfold newL
      rw [← hr, List.take_left']
      · have e3 : (r ++ [x]).getD r.length z = x := by simp
        rw [e3]
        congr 1
        rw [Bool.eq_iff_iff, List.any_eq_true, List.elem_iff, dd_mem, List.mem_reverse]
        exact ⟨fun ⟨y, hy, h⟩ => (beq_iff_eq.mp h) ▸ hy, fun h => ⟨x, h, beq_self_eq_true x⟩⟩
      · rfl
    rw [List.range_succ, List.filter_append, List.length_append, e1, ih r hr, List.reverse_append]
    show _ = (dd (x :: r.reverse)).length
    rw [dd_cons]
    cases e : (dd r.reverse).elem x with
    | true =>
      rw [e] at e2
      simp [e2]
    | false =>
      rw [e] at e2
      simp [e2]
end
/-- texts joined by ", ", sign by sign -/
def jl : List (List Nat) → List Nat
  | [] => []
  | [x] => x
  | x :: y :: r => x ++ 44 :: 32 :: jl (y :: r)
theorem jl_cut {a b u v : List Nat} (h : a ++ 44 :: u = b ++ 44 :: v) (ha : 44 ∉ a) (hb : 44 ∉ b) : a = b ∧ u = v := by
  induction a generalizing b with
  | nil =>
    cases b with
    | nil => simpa using h
    | cons y r => simp only [List.nil_append, List.cons_append, List.cons.injEq] at h; exact absurd (by rw [h.1]; exact .head _) hb
  | cons x r ih =>
    cases b with
    | nil => simp only [List.nil_append, List.cons_append, List.cons.injEq] at h; exact absurd (by rw [h.1]; exact .head _) ha
    | cons y q =>
      simp only [List.cons_append, List.cons.injEq] at h
      obtain ⟨e1, e2⟩ := ih h.2 (fun m => ha (.tail _ m)) (fun m => hb (.tail _ m))
      exact ⟨by rw [h.1, e1], e2⟩
theorem jl_inj : ∀ (xs ys : List (List Nat)), (∀ x ∈ xs, 44 ∉ x) → (∀ y ∈ ys, 44 ∉ y) → xs ≠ [] → ys ≠ [] → jl xs = jl ys → xs = ys
  | [], _, _, _, h, _, _ => absurd rfl h
  | _ :: _, [], _, _, _, h, _ => absurd rfl h
  | [x], [y], _, _, _, _, h => by simpa [jl] using h
  | [x], y :: y2 :: r, hx, _, _, _, h => by
    simp only [jl] at h
    exact absurd (by rw [h]; simp) (hx x (.head _))
  | x :: x2 :: r, [y], _, hy, _, _, h => by
    simp only [jl] at h
    exact absurd (by rw [← h]; simp) (hy y (.head _))
  | x :: x2 :: r, y :: y2 :: q, hx, hy, _, _, h => by
    simp only [jl] at h
    obtain ⟨e1, e2⟩ := jl_cut h (hx x (.head _)) (hy y (.head _))
    have e3 := jl_inj (x2 :: r) (y2 :: q) (fun z hz => hx z (.tail _ hz)) (fun z hz => hy z (.tail _ hz)) (List.cons_ne_nil _ _) (List.cons_ne_nil _ _) (by simpa using e2)
    rw [e1, e3]
def wcps (i : Nat) : List Nat := (wordOf i).cps.toList
theorem sep_cps : (Str.ofString ", ").cps.toList = [44, 32] := by decide +kernel
theorem say_join (ps : List Nat) : sayOf ps = Str.join (Str.ofString ", ") (ps.map wordOf) := StrLaws.glued_eq_join _ _
theorem join_cps : ∀ ps : List Nat, (Str.join (Str.ofString ", ") (ps.map wordOf)).cps.toList = jl (ps.map wcps)
  | [] => rfl
  | [p] => rfl
  | p :: q :: r => by
    have ih := join_cps (q :: r)
    show ((wordOf p ++ Str.ofString ", " ++ Str.join (Str.ofString ", ") ((q :: r).map wordOf))).cps.toList = wcps p ++ 44 :: 32 :: jl ((q :: r).map wcps)
    rw [← ih]
    show ((wordOf p).cps ++ (Str.ofString ", ").cps ++ (Str.join (Str.ofString ", ") ((q :: r).map wordOf)).cps).toList = _
    rw [Array.toList_append, Array.toList_append, sep_cps, List.append_assoc]
    rfl
theorem say_cps (ps : List Nat) : (sayOf ps).cps.toList = jl (ps.map wcps) := by rw [say_join]; exact join_cps ps
def eqL : List Nat → List Nat → Bool
  | [], [] => true
  | x :: r, y :: q => Nat.beq x y && eqL r q
  | _, _ => false
theorem eqL_refl : ∀ l : List Nat, eqL l l = true
  | [] => rfl
  | x :: r => by unfold eqL; rw [eqL_refl r, Nat.beq_refl]; rfl
theorem free_all : all2 32 (fun i => !(wcps i).elem 44) = true := by decide +kernel
theorem word_all : all2 32 (fun i => all2 32 fun j => Nat.beq i j || !eqL (wcps i) (wcps j)) = true := by decide +kernel
theorem word_inj {i j : Nat} (hi : i < 32) (hj : j < 32) (h : wcps i = wcps j) : i = j := by
  have := all2_of (all2_of word_all i hi) j hj
  rw [h, eqL_refl] at this
  simp only [Bool.not_true, Bool.or_false] at this
  exact Nat.eq_of_beq_eq_true this
theorem map_word_inj : ∀ (ps qs : List Nat), (∀ p ∈ ps, p < 32) → (∀ q ∈ qs, q < 32) → ps.map wcps = qs.map wcps → ps = qs
  | [], [], _, _, _ => rfl
  | [], _ :: _, _, _, h => by simp at h
  | _ :: _, [], _, _, h => by simp at h
  | p :: r, q :: s, hp, hq, h => by
    simp only [List.map_cons, List.cons.injEq] at h
    rw [word_inj (hp p (.head _)) (hq q (.head _)) h.1, map_word_inj r s (fun x hx => hp x (.tail _ hx)) (fun x hx => hq x (.tail _ hx)) h.2]
theorem say_inj {ps qs : List Nat} (hp : ∀ p ∈ ps, p < 32) (hq : ∀ q ∈ qs, q < 32) (np : ps ≠ []) (nq : qs ≠ []) (h : sayOf ps = sayOf qs) : ps = qs := by
  have free : ∀ l : List Nat, (∀ p ∈ l, p < 32) → ∀ x ∈ l.map wcps, 44 ∉ x := by
    intro l hl x hx
    obtain ⟨i, hi, rfl⟩ := List.mem_map.mp hx
    have := all2_of free_all i (hl i hi)
    intro hm
    rw [List.elem_iff.mpr hm] at this
    cases this
  refine map_word_inj ps qs hp hq (jl_inj _ _ (free ps hp) (free qs hq) (by simpa using np) (by simpa using nq) ?_)
  rw [← say_cps, ← say_cps, h]
end Mine
end
section
open PySem PySem.W PyProof.Rows
namespace Mine
theorem dd_map {α β : Type} [BEq α] [LawfulBEq α] [BEq β] [LawfulBEq β] (f : α → β) : ∀ l : List α, (∀ a ∈ l, ∀ b ∈ l, f a = f b → a = b) → dd (l.map f) = (dd l).map f
  | [], _ => rfl
  | a :: l, h => by
    have ih := dd_map f l fun x hx y hy => h x (.tail _ hx) y (.tail _ hy)
    rw [List.map_cons, dd_cons, dd_cons, ih]
    have e : ((dd l).map f).elem (f a) = (dd l).elem a := by
      rw [Bool.eq_iff_iff, List.elem_iff, List.elem_iff, List.mem_map]
      constructor
      · rintro ⟨b, hb, he⟩
        have := h b (.tail _ ((dd_mem l b).mp hb)) a (.head _) he
        rwa [this] at hb
      · intro ha
        exact ⟨a, ha, rfl⟩
    rw [e]
    cases (dd l).elem a <;> rfl
/-- the place of the k-th of the even places -/
def npl (S c f0 k : Nat) : Nat := (f0 + k * S / c) % S
/-- the step n from the k-th even place -/
def partN (S c k n : Nat) : Nat := (n * S + k * S % c) / c
def zpl (S c z f0 : Nat) : List Nat := (List.range c).map fun k => z * npl S c f0 k
def noteK (pls : List Nat) (z S c P n : Nat) : Nat := (pls.getD (before pls ((P + z * (n * S / c)) % 32) % c) 0 + (32 - P)) % 32 / z
def stepsN (c mask : Nat) : List Nat := ((List.range (c - 1)).filter fun k => mask.testBit k).map (· + 1)
def noteOk (S z c : Nat) : Bool := all2 S fun f0 => all2 c fun k => all2 (c - 1) fun st => Nat.beq (noteK (isort (zpl S c z f0)) z S c (z * npl S c f0 k) (st + 1)) (partN S c k (st + 1))
theorem note16_3 : noteOk 16 2 3 = true := by decide +kernel
theorem note16_5 : noteOk 16 2 5 = true := by decide +kernel
theorem note16_7 : noteOk 16 2 7 = true := by decide +kernel
theorem note32_3 : noteOk 32 1 3 = true := by decide +kernel
theorem note32_5 : noteOk 32 1 5 = true := by decide +kernel
theorem note32_7 : noteOk 32 1 7 = true := by decide +kernel
def countOk (S c : Nat) : Bool := all2 (2 ^ (c - 1)) fun mask => Nat.beq (dd ((List.range c).map fun k => 0 :: (stepsN c mask).map (partN S c k))).length (1 + (stepsN c mask).length)
theorem count16_3 : countOk 16 3 = true := by decide +kernel
theorem count16_5 : countOk 16 5 = true := by decide +kernel
theorem count16_7 : countOk 16 7 = true := by decide +kernel
theorem count32_3 : countOk 32 3 = true := by decide +kernel
theorem count32_5 : countOk 32 5 = true := by decide +kernel
theorem count32_7 : countOk 32 7 = true := by decide +kernel
theorem turn3 : ∀ t, t < 3 → 0 < t → ((List.range 3).map fun k => k * t % 3).Perm (List.range 3) := by decide +kernel
theorem turn5 : ∀ t, t < 5 → 0 < t → ((List.range 5).map fun k => k * t % 5).Perm (List.range 5) := by decide +kernel
theorem turn7 : ∀ t, t < 7 → 0 < t → ((List.range 7).map fun k => k * t % 7).Perm (List.range 7) := by decide +kernel
/-- the numbers of one drawing -/
structure Dr (S c z f0 mask : Nat) : Prop where
  hz : (S = 16 ∧ z = 2) ∨ (S = 32 ∧ z = 1)
  hc : c = 3 ∨ c = 5 ∨ c = 7
  hf : f0 < S
  hm : mask < 2 ^ (c - 1)
theorem Dr.note {S c z f0 mask : Nat} (d : Dr S c z f0 mask) {k n : Nat} (hk : k < c) (h1 : 1 ≤ n) (h2 : n < c) :
    noteK (isort (zpl S c z f0)) z S c (z * npl S c f0 k) n = partN S c k n := by
  have key : noteOk S z c = true := by
    rcases d.hz with ⟨rfl, rfl⟩ | ⟨rfl, rfl⟩ <;> rcases d.hc with rfl | rfl | rfl
    · exact note16_3
    · exact note16_5
    · exact note16_7
    · exact note32_3
    · exact note32_5
    · exact note32_7
  have := Nat.eq_of_beq_eq_true (all2_of (all2_of (all2_of key f0 d.hf) k hk) (n - 1) (by omega))
  rwa [Nat.sub_add_cancel h1] at this
theorem Dr.count {S c z f0 mask : Nat} (d : Dr S c z f0 mask) : (dd ((List.range c).map fun k => 0 :: (stepsN c mask).map (partN S c k))).length = 1 + (stepsN c mask).length := by
  have key : countOk S c = true := by
    rcases d.hz with ⟨rfl, rfl⟩ | ⟨rfl, rfl⟩ <;> rcases d.hc with rfl | rfl | rfl
    · exact count16_3
    · exact count16_5
    · exact count16_7
    · exact count32_3
    · exact count32_5
    · exact count32_7
  exact Nat.eq_of_beq_eq_true (all2_of key mask d.hm)
theorem steps_mem {c mask n : Nat} (h : n ∈ stepsN c mask) : 1 ≤ n ∧ n < c := by
  obtain ⟨k, hk, rfl⟩ := List.mem_map.mp h
  have := List.mem_range.mp (List.mem_filter.mp hk).1
  omega
theorem steps_lt (c mask : Nat) : (stepsN c mask).Pairwise (· < ·) := by
  unfold stepsN
  rw [List.pairwise_map]
  exact (List.pairwise_lt_range.filter _).imp fun h => by omega
theorem steps_len (c mask : Nat) : (stepsN c mask).length ≤ c - 1 := by
  unfold stepsN
  rw [List.length_map]
  exact Nat.le_trans (List.length_filter_le _ _) (by simp)
theorem Dr.part_lt {S c z f0 mask : Nat} (d : Dr S c z f0 mask) (k : Nat) {n n' : Nat} (h : n < n') : partN S c k n < partN S c k n' := by
  unfold partN
  generalize k * S % c = r
  rcases d.hz with ⟨rfl, rfl⟩ | ⟨rfl, rfl⟩ <;> rcases d.hc with rfl | rfl | rfl <;> omega
theorem Dr.part_in {S c z f0 mask : Nat} (d : Dr S c z f0 mask) (k : Nat) {n : Nat} (h1 : 1 ≤ n) (h2 : n < c) : 0 < partN S c k n ∧ partN S c k n < 32 := by
  unfold partN
  have hr : k * S % c < c := Nat.mod_lt _ (by have := d.hc; omega)
  revert hr
  generalize k * S % c = r
  intro hr
  rcases d.hz with ⟨rfl, rfl⟩ | ⟨rfl, rfl⟩ <;> rcases d.hc with rfl | rfl | rfl <;> omega
/-- the notes of the k-th even place -/
def notesN (S c k mask : Nat) : List Nat := 0 :: (stepsN c mask).map (partN S c k)
theorem Dr.notes {S c z f0 mask : Nat} (d : Dr S c z f0 mask) (k : Nat) : (notesN S c k mask).Pairwise (· < ·) ∧ ∀ x ∈ notesN S c k mask, x < 32 := by
  constructor
  · unfold notesN
    rw [List.pairwise_cons]
    constructor
    · intro x hx
      obtain ⟨n, hn, rfl⟩ := List.mem_map.mp hx
      exact (d.part_in k (steps_mem hn).1 (steps_mem hn).2).1
    · rw [List.pairwise_map]
      exact (steps_lt c mask).imp fun h => d.part_lt k h
  · intro x hx
    rcases List.mem_cons.mp hx with rfl | hx
    · decide
    · obtain ⟨n, hn, rfl⟩ := List.mem_map.mp hx
      exact (d.part_in k (steps_mem hn).1 (steps_mem hn).2).2
def castL (l : List Nat) : List Int := l.map fun (k : Nat) => (k : Int)
theorem note_nat {pls : List Nat} {z S c P n : Nat} (hc : 0 < c) : noteOf pls z (S : Int) (c : Int) P (n : Int) = noteK pls z S c P n := by
  unfold noteOf toneOf aimOf noteK
  have e1 : (Int.fdiv ((n : Int) * (S : Int)) (c : Int)).toNat = n * S / c := by
    rw [Int.fdiv_eq_ediv_of_nonneg _ (by omega)]
    norm_cast
  have e2 : ∀ b : Nat, (Int.fmod (b : Int) (c : Int)).toNat = b % c := by
    intro b
    rw [Int.fmod_eq_emod_of_nonneg _ (by omega)]
    norm_cast
  rw [e1, e2]
theorem part_nat {S c k : Nat} (l : List Nat) : (partsOf (S : Int) (c : Int) (castL l) (k : Int)).map Int.toNat = l.map (partN S c k) := by
  unfold partsOf castL
  rw [List.map_map, List.map_map]
  refine List.map_congr_left fun n _ => ?_
  show (Int.fdiv ((n : Int) * (S : Int) + Int.fmod ((k : Int) * (S : Int)) (c : Int)) (c : Int)).toNat = partN S c k n
  rw [Int.fmod_eq_emod_of_nonneg _ (by omega), Int.fdiv_eq_ediv_of_nonneg _ (by omega)]
  unfold partN
  norm_cast
theorem say_nat {S c k : Nat} (mask : Nat) : sayAt (S : Int) (c : Int) (castL (stepsN c mask)) (k : Int) = sayOf (notesN S c k mask) := by
  unfold sayAt notesN
  rw [List.map_cons, part_nat]
  rfl
theorem Dr.flags {S c z f0 mask : Nat} (d : Dr S c z f0 mask) {k : Nat} (hk : k < c) :
    flagN (isort (zpl S c z f0)) z (S : Int) (c : Int) (z * npl S c f0 k) (castL (stepsN c mask)) (castL (stepsN c mask)).length = ((notesN S c k mask).map (2 ^ ·)).sum := by
  have hc0 : 0 < c := by have := d.hc; omega
  unfold flagN notesN
  rw [List.take_length]
  unfold castL
  rw [List.map_map, List.map_cons, List.sum_cons, List.map_map]
  have e : (stepsN c mask).map ((fun n : Int => 2 ^ noteOf (isort (zpl S c z f0)) z (S : Int) (c : Int) (z * npl S c f0 k) n) ∘ fun (k : Nat) => (k : Int)) = (stepsN c mask).map ((fun x => 2 ^ x) ∘ partN S c k) := by
    refine List.map_congr_left fun n hn => ?_
    show 2 ^ noteOf _ _ _ _ _ _ = 2 ^ partN S c k n
    rw [note_nat hc0, d.note hk (steps_mem hn).1 (steps_mem hn).2]
  rw [e]
/-- what the row's places are, and what follows -/
structure Dr.Row {S c z f0 mask : Nat} (d : Dr S c z f0 mask) (pls : List Nat) : Prop where
  eq : pls = isort (zpl S c z f0)
theorem Dr.mem {S c z f0 mask : Nat} (d : Dr S c z f0 mask) {P : Nat} (h : P ∈ isort (zpl S c z f0)) : ∃ k, k < c ∧ P = z * npl S c f0 k := by
  obtain ⟨k, hk, rfl⟩ := List.mem_map.mp ((isort_perm _).mem_iff.mp h)
  exact ⟨k, List.mem_range.mp hk, rfl⟩
theorem Dr.flag_in {S c z f0 mask : Nat} (d : Dr S c z f0 mask) {P : Nat} (h : P ∈ isort (zpl S c z f0)) :
    0 < flagN (isort (zpl S c z f0)) z (S : Int) (c : Int) P (castL (stepsN c mask)) (castL (stepsN c mask)).length ∧
    flagN (isort (zpl S c z f0)) z (S : Int) (c : Int) P (castL (stepsN c mask)) (castL (stepsN c mask)).length < 2 ^ 32 := by
  obtain ⟨k, hk, rfl⟩ := d.mem h
  refine ⟨by unfold flagN; omega, ?_⟩
  rw [d.flags hk]
  exact (bits_of_sum (d.notes k).1 (d.notes k).2).1
/-- the text at a place -/
def saidAt (pls : List Nat) (z : Nat) (sz ct : Int) (stp : List Int) (P : Nat) : Str := sayOf (bitsTo (flagN pls z sz ct P stp stp.length) 32)
theorem Dr.said {S c z f0 mask : Nat} (d : Dr S c z f0 mask) {k : Nat} (hk : k < c) : saidAt (isort (zpl S c z f0)) z (S : Int) (c : Int) (castL (stepsN c mask)) (z * npl S c f0 k) = sayOf (notesN S c k mask) := by
  unfold saidAt
  rw [d.flags hk, (bits_of_sum (d.notes k).1 (d.notes k).2).2]
theorem zpl_len {S c z f0 : Nat} : (isort (zpl S c z f0)).length = c := by
  rw [(isort_perm _).length_eq]
  simp [zpl]
theorem words_map {S c z f0 : Nat} {stp : List Int} {pls : List Nat} (h : pls.length = c) : (List.range c).map (wordAt pls z (S : Int) (c : Int) stp) = pls.map (saidAt pls z (S : Int) (c : Int) stp) := by
  apply List.ext_getElem?
  intro i
  rw [List.getElem?_map, List.getElem?_map]
  by_cases hi : i < c
  · rw [List.getElem?_range hi, List.getElem?_eq_getElem (by omega)]
    show some (wordAt pls z S c stp i) = some _
    unfold wordAt saidAt
    rw [List.getD_eq_getElem?_getD, List.getElem?_eq_getElem (by omega)]
    rfl
  · rw [List.getElem?_eq_none (by simp; omega), List.getElem?_eq_none (by omega)]
    rfl
theorem Dr.counted {S c z f0 mask : Nat} (d : Dr S c z f0 mask) {texts : List Str} (ht : texts = (isort (zpl S c z f0)).map (saidAt (isort (zpl S c z f0)) z (S : Int) (c : Int) (castL (stepsN c mask)))) :
    ((List.range c).filter (newAt texts)).length = 1 + (castL (stepsN c mask)).length := by
  have hlen : texts.length = c := by rw [ht, List.length_map, zpl_len]
  have e1 := cnt_dd (Str.ofString "") c texts hlen
  have e2 : (List.range c).filter (newAt texts) = (List.range c).filter (newL (Str.ofString "") texts) := rfl
  have e3 : (dd texts.reverse).length = (dd (((List.range c).map fun k => notesN S c k mask).map sayOf)).length := by
    refine dd_len fun x => ?_
    rw [List.mem_reverse, ht, List.map_map, List.mem_map, List.mem_map]
    constructor
    · rintro ⟨P, hP, rfl⟩
      obtain ⟨k, hk, rfl⟩ := d.mem hP
      exact ⟨k, List.mem_range.mpr hk, (d.said hk).symm⟩
    · rintro ⟨k, hk, rfl⟩
      have hk' := List.mem_range.mp hk
      exact ⟨z * npl S c f0 k, (isort_perm _).mem_iff.mpr (List.mem_map.mpr ⟨k, hk, rfl⟩), d.said hk'⟩
  have e4 : dd (((List.range c).map fun k => notesN S c k mask).map sayOf) = (dd ((List.range c).map fun k => notesN S c k mask)).map sayOf := by
    refine dd_map sayOf _ fun a ha b hb e => ?_
    obtain ⟨i, _, rfl⟩ := List.mem_map.mp ha
    obtain ⟨j, _, rfl⟩ := List.mem_map.mp hb
    exact say_inj (d.notes i).2 (d.notes j).2 (List.cons_ne_nil _ _) (List.cons_ne_nil _ _) e
  rw [e2, e1, e3, e4, List.length_map]
  have := d.count
  unfold castL
  rw [List.length_map]
  exact this
end Mine
end
section
open PySem PySem.W PyProof.Rows
namespace Mine
theorem pow_nn (j : Nat) : (0 : Int) ≤ 2 ^ j :=
  Int.le_of_lt (Int.pow_pos (by decide))
theorem npl_nat {S c k : Nat} (f : Int) (hS : S = 16 ∨ S = 32) : Int.fmod (f + Int.fdiv ((k : Int) * (S : Int)) (c : Int)) (S : Int) = ((npl S c (Int.fmod f (S : Int)).toNat k : Nat) : Int) := by
  have e : Int.fdiv ((k : Int) * (S : Int)) (c : Int) = ((k * S / c : Nat) : Int) := by
    rw [Int.fdiv_eq_ediv_of_nonneg _ (by omega)]
    norm_cast
  rw [e, Int.fmod_eq_emod_of_nonneg _ (by omega), Int.fmod_eq_emod_of_nonneg _ (by omega)]
  unfold npl
  generalize k * S / c = q
  rcases hS with rfl | rfl <;> simp only [Int.cast_ofNat_Int] <;> omega
theorem places_nat {S c : Nat} {z : Nat} {f0 mask : Nat} {n0 : Int} (d : Dr S c z f0 mask) (hf : f0 = (Int.fmod (Int.fdiv n0 6) (S : Int)).toNat) : placesOf n0 (S : Int) (c : Int) = castL ((List.range c).map (npl S c f0)) := by
  unfold placesOf castL
  rw [List.map_map, Int.toNat_natCast]
  refine List.map_congr_left fun k _ => ?_
  show Int.fmod (Int.fdiv n0 6 + Int.fdiv ((0 + (k : Int)) * (S : Int)) (c : Int)) (S : Int) = ((npl S c f0 k : Nat) : Int)
  rw [Int.zero_add, hf]
  exact npl_nat _ (by have := d.hz; omega)
theorem pl_nat {S c z f0 mask k : Nat} {n0 n1 : Int} (d : Dr S c z f0 mask) (hf : f0 = (Int.fmod (Int.fdiv n0 6) (S : Int)).toNat) {t : Nat} (ht : (t : Int) = 1 + Int.fmod (Int.fdiv n1 128) ((c : Int) - 1)) :
    plOf z (S : Int) (c : Int) n0 n1 k = z * npl S c f0 (k * t % c) := by
  unfold plOf
  rw [← ht]
  have e : Int.fmod ((k : Int) * (t : Int)) (c : Int) = ((k * t % c : Nat) : Int) := by
    rw [Int.fmod_eq_emod_of_nonneg _ (by omega)]
    norm_cast
  rw [e, npl_nat _ (by have := d.hz; omega), Int.toNat_natCast, hf]
theorem turn_perm {c t : Nat} (hc : c = 3 ∨ c = 5 ∨ c = 7) (h1 : t < c) (h2 : 0 < t) : ((List.range c).map fun k => k * t % c).Perm (List.range c) := by
  rcases hc with rfl | rfl | rfl
  · exact turn3 t h1 h2
  · exact turn5 t h1 h2
  · exact turn7 t h1 h2
theorem steps_nat {c : Nat} {n1 : Int} (h1 : 0 ≤ n1) : stepsOf n1 (c : Int) = castL (stepsN c (n1.toNat / 2 % 2 ^ (c - 1))) := by
  unfold stepsOf castL stepsN
  rw [List.map_map]
  have e0 : ((c : Int) - 1).toNat = c - 1 := by omega
  rw [e0]
  have e1 : (List.range (c - 1)).filter (stepQ n1) = (List.range (c - 1)).filter fun k => (n1.toNat / 2 % 2 ^ (c - 1)).testBit k := by
    refine List.filter_congr fun k hk => ?_
    have hk' := List.mem_range.mp hk
    rw [Nat.testBit_mod_two_pow, decide_eq_true hk', Bool.true_and, ← Nat.testBit_add_one, Nat.testBit_eq_decide_div_mod_eq]
    unfold stepQ
    obtain ⟨n, rfl⟩ : ∃ n : Nat, n1 = (n : Int) := ⟨n1.toNat, by omega⟩
    rw [Int.fmod_eq_emod_of_nonneg _ (by omega), Int.fdiv_eq_ediv_of_nonneg _ (pow_nn (k + 1))]
    rw [Int.toNat_natCast, Bool.eq_iff_iff, beq_iff_eq, decide_eq_true_iff]
    constructor
    · intro h; exact_mod_cast h
    · intro h; exact_mod_cast h
  rw [e1]
  refine List.map_congr_left fun k _ => ?_
  show (1 : Int) + (k : Int) = ((k + 1 : Nat) : Int)
  omega
/-- what the plain law says of one drawing -/
structure Facts (n0 n1 sz : Int) (z : Nat) (ct : Int) (cols : List (Addr × Nat)) : Prop where
  plen : (placesOf n0 sz ct).length = ct.toNat
  pb : ∀ x ∈ placesOf n0 sz ct, 0 ≤ x ∧ x < sz
  same : ∀ ns' : List Int, ns'.Perm (placesOf n0 sz ct) → ns'.Pairwise (· ≤ ·) → cols.map (·.2) = ns'.map fun x => z * x.toNat
  div : ∀ c ∈ cols, c.2 % z = 0
  stp : ∀ n ∈ stepsOf n1 ct, 1 ≤ n ∧ n < ct
  sl : (stepsOf n1 ct).length ≤ 7
  fl : ∀ c ∈ cols, 0 < flagN (cols.map (·.2)) z sz ct c.2 (stepsOf n1 ct) (stepsOf n1 ct).length ∧ flagN (cols.map (·.2)) z sz ct c.2 (stepsOf n1 ct) (stepsOf n1 ct).length < 2 ^ 32
  cnt : ((List.range ct.toNat).filter (newAt ((List.range ct.toNat).map (wordAt (cols.map (·.2)) z sz ct (stepsOf n1 ct))))).length = 1 + (stepsOf n1 ct).length
  say : ∀ nsO : List Int, nsO.Perm ((List.range ct.toNat).map fun (k : Nat) => (k : Int)) → nsO.Pairwise (fun x y => (placesOf n0 sz ct).getD x.toNat 0 ≤ (placesOf n0 sz ct).getD y.toNat 0) →
    (List.range ct.toNat).map (wordAt (cols.map (·.2)) z sz ct (stepsOf n1 ct)) = nsO.map (sayAt sz ct (stepsOf n1 ct))
theorem mul_mono_pw {z : Nat} {l : List Nat} (h : l.Pairwise (· ≤ ·)) : (l.map (z * ·)).Pairwise (· ≤ ·) := by
  rw [List.pairwise_map]
  exact h.imp fun h => Nat.mul_le_mul_left z h
theorem sorted_snd {cols : List (Addr × Nat)} (h : SortedC cols) : (cols.map (·.2)).Pairwise (· ≤ ·) := by
  rw [List.pairwise_map, List.pairwise_iff_getElem]
  intro i j hi hj hij
  exact h i j _ _ (Nat.le_of_lt hij) (List.getElem?_eq_getElem hi) (List.getElem?_eq_getElem hj)
theorem facts_nat {S c z f0 mask : Nat} {n0 n1 : Int} {cols : List (Addr × Nat)} (d : Dr S c z f0 mask) (hP : placesOf n0 (S : Int) (c : Int) = castL ((List.range c).map (npl S c f0)))
    (hs : stepsOf n1 (c : Int) = castL (stepsN c mask)) (he : cols.map (·.2) = isort (zpl S c z f0)) : Facts n0 n1 (S : Int) z (c : Int) cols := by
  have hz0 : z = 2 ∨ z = 1 := by have := d.hz; omega
  have hS0 : 0 < S := by have := d.hz; omega
  have hmem : ∀ q ∈ cols, q.2 ∈ isort (zpl S c z f0) := fun q hq => by rw [← he]; exact List.mem_map.mpr ⟨q, hq, rfl⟩
  have hzp : zpl S c z f0 = ((List.range c).map (npl S c f0)).map (z * ·) := by unfold zpl; rw [List.map_map]; rfl
  refine ⟨?_, ?_, ?_, ?_, ?_, ?_, ?_, ?_, ?_⟩
  · rw [hP]; simp [castL]
  · rw [hP]
    intro x hx
    obtain ⟨q, hq, rfl⟩ := List.mem_map.mp hx
    obtain ⟨k, _, rfl⟩ := List.mem_map.mp hq
    have : npl S c f0 k < S := Nat.mod_lt _ hS0
    exact ⟨by omega, by omega⟩
  · intro ns' hp hw
    rw [hP] at hp
    rw [he]
    have e : ns'.map (fun x => z * x.toNat) = (ns'.map Int.toNat).map (z * ·) := by rw [List.map_map]; rfl
    rw [e]
    have hp2 : (ns'.map Int.toNat).Perm ((List.range c).map (npl S c f0)) := by
      have := hp.map Int.toNat
      unfold castL at this
      rw [List.map_map] at this
      refine this.trans (.of_eq ?_)
      exact List.map_id'' (fun _ => rfl) _
    have hw2 : (ns'.map Int.toNat).Pairwise (· ≤ ·) := by
      rw [List.pairwise_map]
      exact hw.imp fun h => by omega
    refine sorted_uniq ?_ (isort_sorted _) (mul_mono_pw hw2)
    refine (isort_perm _).trans ?_
    rw [hzp]
    exact (hp2.map _).symm
  · intro q hq
    obtain ⟨k, _, e⟩ := d.mem (hmem q hq)
    rw [e]
    exact Nat.mul_mod_right _ _
  · rw [hs]
    intro n hn
    obtain ⟨k, hk, rfl⟩ := List.mem_map.mp hn
    have := steps_mem hk
    omega
  · rw [hs]
    unfold castL
    rw [List.length_map]
    have := steps_len c mask
    have := d.hc
    omega
  · rw [hs, he]
    intro q hq
    exact d.flag_in (hmem q hq)
  · rw [hs, he, Int.toNat_natCast, words_map (f0 := f0) zpl_len]
    exact d.counted rfl
  · intro nsO hp hw
    rw [hs, he]
    rw [Int.toNat_natCast] at hp ⊢
    rw [words_map (f0 := f0) zpl_len]
    have hin : ∀ n ∈ nsO, ∃ k : Nat, k < c ∧ n = (k : Int) := by
      intro n hn
      obtain ⟨k, hk, rfl⟩ := List.mem_map.mp (hp.mem_iff.mp hn)
      exact ⟨k, List.mem_range.mp hk, rfl⟩
    have e1 : nsO.map (sayAt (S : Int) (c : Int) (castL (stepsN c mask))) = (nsO.map fun n => z * npl S c f0 n.toNat).map (saidAt (isort (zpl S c z f0)) z (S : Int) (c : Int) (castL (stepsN c mask))) := by
      rw [List.map_map]
      refine List.map_congr_left fun n hn => ?_
      obtain ⟨k, hk, rfl⟩ := hin n hn
      show sayAt (S : Int) (c : Int) (castL (stepsN c mask)) (k : Int) = saidAt (isort (zpl S c z f0)) z (S : Int) (c : Int) (castL (stepsN c mask)) (z * npl S c f0 k)
      rw [say_nat, d.said hk]
    rw [e1]
    congr 1
    refine sorted_uniq ?_ (isort_sorted _) ?_
    · refine (isort_perm _).trans ?_
      have := hp.map (fun n : Int => z * npl S c f0 n.toNat)
      rw [List.map_map] at this
      exact this.symm
    · rw [List.pairwise_map]
      refine hw.imp_of_mem fun {x y} hx hy h => ?_
      obtain ⟨i, hi, rfl⟩ := hin x hx
      obtain ⟨j, hj, rfl⟩ := hin y hy
      rw [hP] at h
      have g : ∀ k : Nat, k < c → (castL ((List.range c).map (npl S c f0))).getD (Int.toNat (k : Int)) 0 = ((npl S c f0 k : Nat) : Int) := by
        intro k hk
        rw [Int.toNat_natCast, List.getD_eq_getElem?_getD]
        unfold castL
        rw [List.getElem?_map, List.getElem?_map, List.getElem?_range hk]
        rfl
      rw [g i hi, g j hj] at h
      exact Nat.mul_le_mul_left z (by simpa using h)
theorem facts {vs9 : List Value} {ns9 : List Int} {n0 n1 sz : Int} {z : Nat} {ct : Int} {PT : UInt64} {tl : List (Addr × Obj)} {cols : List (Addr × Nat)} (a1 : At1 vs9 ns9 n0 n1 sz z ct PT tl cols) : Facts n0 n1 sz z ct cols := by
  obtain ⟨S, rfl⟩ : ∃ S : Nat, sz = (S : Int) := ⟨sz.toNat, by have := a1.hz; omega⟩
  obtain ⟨c, rfl⟩ : ∃ c : Nat, ct = (c : Int) := ⟨ct.toNat, by have := a1.hct; omega⟩
  have hS : (S = 16 ∧ z = 2) ∨ (S = 32 ∧ z = 1) := by have := a1.hz; omega
  have hc : c = 3 ∨ c = 5 ∨ c = 7 := by have := a1.hct; omega
  have hf0 := fmod_in (Int.fdiv n0 6) (show (0 : Int) < (S : Int) by omega)
  have ht0 := fmod_in (Int.fdiv n1 128) (show (0 : Int) < (c : Int) - 1 by omega)
  have d : Dr S c z (Int.fmod (Int.fdiv n0 6) (S : Int)).toNat (n1.toNat / 2 % 2 ^ (c - 1)) := ⟨hS, hc, by omega, Nat.mod_lt _ (Nat.pow_pos (by decide))⟩
  refine facts_nat d (places_nat d rfl) (steps_nat a1.hp1.1) ?_
  have hr := a1.hS
  rw [Int.toNat_natCast] at hr
  refine sorted_uniq ?_ (sorted_snd hr.sort) (isort_sorted _)
  refine hr.perm.trans ((List.Perm.of_eq ?_).trans (((turn_perm hc (t := (1 + Int.fmod (Int.fdiv n1 128) ((c : Int) - 1)).toNat) (by omega) (by omega)).map fun k => z * npl S c (Int.fmod (Int.fdiv n0 6) (S : Int)).toNat k).trans (isort_perm _).symm))
  rw [List.map_map]
  refine List.map_congr_left fun k _ => ?_
  exact pl_nat d rfl (by omega)
theorem sortL_of {cols : List (Addr × Nat)} {hc : List FCell} (h : SortedC cols) (e : hc.map (·.2) = cols.map (·.2)) : SortedL hc := by
  intro i j q r hij hq hr
  have e1 : (cols.map (·.2))[i]? = some q.2 := by rw [← e, List.getElem?_map, hq]; rfl
  have e2 : (cols.map (·.2))[j]? = some r.2 := by rw [← e, List.getElem?_map, hr]; rfl
  rw [List.getElem?_map] at e1 e2
  obtain ⟨a, ha, ea⟩ := Option.map_eq_some_iff.mp e1
  obtain ⟨b, hb, eb⟩ := Option.map_eq_some_iff.mp e2
  have := h i j a b hij ha hb
  omega
end Mine
end
section
open PySem PySem.W PyProof.Rows PySem.Flt
namespace Mine
set_option maxRecDepth 100000 in
set_option maxHeartbeats 8000000 in
theorem law_walk {prog : Program} {w : World} {p : Program} {loose : List Str} {mean : ExcName → Option Value} {mg mb : Str → Option Value} {h₀ : Heap} {L fa sl : Addr} {svs : List Value} {sns : List Int} {m : Str → Option Value} {s : Shared} {Q : Flow → Shared → Prop} {E : Value → Shared → Prop}
    {o1 o2 o3 o4 o5 o6 o7 o8 : Obj} {v1 v2 v3 v4 v5 v6 v7 v8 : Option Value}
    (hE : PassesOwn (model prog w) (lawA L fa) (lawEnv L fa) E) (B : Below callerA h₀ [] h₀) (X : (hd.heap_39 w.params).In h₀) (T : Top p loose mean mg mb h₀) (hsl : h₀.IsList sl svs.toArray) (hsI : IntsAre svs sns) (hslen : sns.length ≤ 63) (h98 : @LT.lt Nat _ 98 L) (hC : CodeHd h₀ 100 98)
    (d1 : o1.data = .cell v1) (d2 : o2.data = .cell v2) (d3 : o3.data = .cell v3) (d4 : o4.data = .cell v4) (d5 : o5.data = .cell v5) (d6 : o6.data = .cell v6) (d7 : o7.data = .cell v7) (d8 : o8.data = .cell v8)
    (F : Fr h₀ L s.heap (fun y => if y = Str.ofString "script" then some (.ref sl) else m y)) (N : News h₀ L s.heap (cellsOf L o1 o2 o3 o4 o5 o6 o7 o8 (tabObj #[]) []))
    (hret : ∀ (o1 o2 o3 o4 o5 o6 o7 o8 : Obj) ps objs m' h' tk', Fr h₀ L h' m' → News h₀ L h' (cellsOf L o1 o2 o3 o4 o5 o6 o7 o8 (tabObj ps) objs) → Q (.ret (.bool true)) { s with heap := h', toks := tk' }) :
    wpAny (model prog w) (lawA L fa) (execs (lawStmts 0) (lawEnv L fa)) Q E s := by
  refine segA B X T hsl hsI hslen h98 d1 d2 d3 d4 d5 d6 d7 d8 F N ?_
  clear F N d1 d2 d3 d4 o1 o2 o3 o4
  intro D9 row vs9 ns9 n9 n0 n1 sz z ct PT tl cols nr o1 o2 o3 o4 t2 t3 t4 h' tk' a1 d1 d2 d3 d4 hoff hne hup F N
  have fc := facts a1
  have hct := a1.hct
  refine segB1 B X T h98 a1 d1 d2 d3 d4 d5 d6 d7 d8 hoff F N ?_
  clear F N d5 o5
  intro HU MK hc mc nh nm o5 h' tk' a2 d5 hoff F N
  refine segB2 B X T h98 a1 d1 d2 d3 d4 d5 d6 d7 d8 hoff F N ?_
  clear F N d8 o8
  intro PL vsP np o8 h' tk' hIP d8 hoff F N
  refine segC (ct := ct) B X T h98 (.tail _ (.head _)) (.tail _ (.tail _ (.head _))) (.head _) a2 hIP (by rw [fc.plen]; omega) fc.pb (by have := a1.hz; omega) (fun ns' h1 h2 => a2.hpl.trans (fc.same ns' h1 h2)) d1 d2 d3 d4 d5 d6 d7 d8 hoff F N ?_
  clear F N
  intro h' tk' F N
  refine segD B X T h98 (.tail _ (.tail _ (.tail _ (.tail _ (.head _))))) a1.hI9 a1.hlen9 a1.hn1 a1.hp1 hct d1 d2 d3 d4 d5 d6 d7 d8 hoff F N ?_
  clear F N d6 o6
  intro ST vsT nt o6 h' tk' hIT d6 hoff hST F N
  refine segE hE B X T h98 a1.hz hct a1.hPT a2 (sortL_of a1.hS.sort a2.hpl) a1.hS.len fc.div fc.stp (.tail _ (.tail _ (.head _))) (.tail _ (.tail _ (.tail _ (.head _)))) (.tail _ (.tail _ (.tail _ (.tail _ (.head _)))))
    (fun c hc' => (a1.hS.at_ c hc').mono fun p hp => .tail _ (.tail _ (.tail _ (.tail _ (.tail _ (.tail _ hp)))))) (.head _) hIT fc.fl d1 d2 d3 d4 d5 d6 d7 d8 hoff F N ?_
  clear F N d7 o7
  intro TL wsT nw o7 m' h' tk' hw d7 hoff F N
  refine segF B X T h98 hct (by have := congrArg List.length hw; simpa using this) fc.sl (.head _) (.tail _ (.head _)) hIT (by rw [hw]; exact fc.cnt) d1 d2 d3 d4 d5 d6 d7 d8 hoff F N ?_
  clear F N
  intro h' tk' F N
  refine segG B X T h98 hC hct (.tail _ (.tail _ (.head _))) hIP fc.plen d1 d2 d3 d4 d5 d6 d7 d8 hoff F N ?_
  clear F N
  intro OR vsO nsO nO ps h' tk' hIO hp hpw F N
  refine segH B X T h98 (by have := a1.hz; omega) hct fc.sl fc.stp (by have := hp.length_eq; rw [this]; simp; omega) (fun n hn => by
      obtain ⟨k, hk, rfl⟩ := List.mem_map.mp (hp.mem_iff.mp hn)
      have := List.mem_range.mp hk
      omega) (.tail _ (.head _)) (.tail _ (.tail _ (.head _))) hIT (.head _) hIO (hw.trans (fc.say nsO hp hpw)) d1 d2 d3 d4 d5 d6 d7 d8 F N ?_
  intro m' h' tk' F N
  exact hret _ _ _ _ _ _ _ _ _ _ _ _ _ F N
end Mine
end
open PySem PySem.W PyProof.Rows
set_option maxRecDepth 100000 in
set_option maxHeartbeats 8000000 in
theorem PySem.Challenge.cw_rl0050_01_holds : PySem.Challenge.rw_rl0050_01.Holds := by
  refine Mine.hd ?_
  k_with_none
  k_go0
  refine' Mine.law_walk ?hE ?B ?X ?T ?hsl ?hsI ?len ?h98 ?hC ?d1 ?d2 ?d3 ?d4 ?d5 ?d6 ?d7 ?d8 ?F ?N ?hret
  case N => assumption
  case F => exact Mine.fr_known (by assumption) rfl
  case B => assumption
  case X => assumption
  case T => assumption
  case hsl => assumption
  case hsI => assumption
  case len => omega
  case h98 => assumption
  case hC => assumption
  case d1 => assumption
  case d2 => assumption
  case d3 => assumption
  case d4 => assumption
  case d5 => assumption
  case d6 => assumption
  case d7 => assumption
  case d8 => assumption
  case hE => passes_own
  case hret =>
    intro o1 o2 o3 o4 o5 o6 o7 o8 ps objs m' h' tk' F N
    refine ⟨?_, GrownAt.of N (List.mem_cons_of_mem _ (List.mem_cons_of_mem _ (List.mem_cons_of_mem _ (List.mem_cons_of_mem _ (List.mem_cons_of_mem _ (List.mem_cons_of_mem _ (List.mem_cons_of_mem _ (List.mem_cons_of_mem _ List.mem_cons_self)))))))), trivial⟩
    show GoodW _ _ _ _ _ (.ok (.ret (.bool true))) _
    refine goodW_bool F (by assumption) (raisesW_false ?_) ?_
    · wrow_none_raised
    · kc_post
