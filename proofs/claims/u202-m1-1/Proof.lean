import JvmDerived
import JvmDerived.Pilot.@@N@@Statement
import JvmDerived.Pilot.@@N@@Code
set_option linter.unusedVariables false
set_option linter.unusedSimpArgs false
namespace Jvm.Pilot.@@N@@
open Jvm Jvm.ClassFile Sem Op Lib Jvm.Free Jvm.Stand Jvm.LawKit Jvm.RoadKit Bundle Jvm.Pilot.@@N@@.Jvm.D
section Own
/-- from the state U the body comes to its end, and P holds there of what it returns, of the heap and of the places that were written -/
def own_G (tb : Tables) (e : Env) (below : List Frame) (s : State) (P : Option Value → Heap → List Loc → Prop) (k n : Nat) (U : State) : Prop :=
  ∃ s₂ o, Steps tb e below U s₂ ∧ s₂.status = .running ∧ Ended s₂ below o ∧ ∃ v L, o = .returned v ∧ P v s₂.heap L ∧ FrameEnd s o s₂ L k n
theorem own_up {tb : Tables} {e : Env} {below : List Frame} {s : State} {P : Option Value → Heap → List Loc → Prop} {k n : Nat} {U U' : State} (h : own_G tb e below s P k n U') (q : ∀ t, Steps tb e below U' t → Steps tb e below U t) : own_G tb e below s P k n U := by
  obtain ⟨s₂, o, h1, r⟩ := h
  exact ⟨s₂, o, q _ h1, r⟩
variable {p : Program} {l : Launch} {e : Env} {R : Room} {s : State} {m : MethodId} {args : Array Value} {below : List Frame} {meth : Method} {c : Code} {T : State} {locs : List Loc} {cells slots : Nat} {P : Option Value → Heap → List Loc → Prop} {k n : Nat}
theorem own_retI (X : Stand p l e R s m args below meth c T locs cells slots) (hx : p.tables.exec = Jvm.exec) (hlk : meth.locks = false) {t : FieldType} (hret : meth.sig.returnType = some t) (hti : t = .int ∨ t = .boolean ∨ t = .byte ∨ t = .char ∨ t = .short) {pc : Nat} {Ls : Array Slot} {w : Int32} (hn : narrow t (.int w) = .int w) (hd : decode c.code pc = .ok (.ireturn, 1)) (hP : P (some (.int w)) T.heap locs) (hk : cells ≤ k) (hs : slots ≤ n) : own_G p.tables e below s P k n (T.setTop (mkF m pc Ls [.int w])) := by
  obtain ⟨fs, hr, hrun, hended, hW, hsame⟩ := X.leave (v := some (.int w)) (fun h => by rw [hret] at h; cases h) hlk
  exact ⟨_, _, X.ireturnOut hx hret hn hti hd hr, hrun, hended, _, _, rfl, hP, ⟨_, rfl⟩, hW, hsame.mono hk hs⟩
theorem own_retJ (X : Stand p l e R s m args below meth c T locs cells slots) (hx : p.tables.exec = Jvm.exec) (hlk : meth.locks = false) (hret : meth.sig.returnType = some .long) {pc : Nat} {Ls : Array Slot} {w : Int64} (hd : decode c.code pc = .ok (.lreturn, 1)) (hP : P (some (.long w)) T.heap locs) (hk : cells ≤ k) (hs : slots ≤ n) : own_G p.tables e below s P k n (T.setTop (mkF m pc Ls [.long w])) := by
  obtain ⟨fs, hr, hrun, hended, hW, hsame⟩ := X.leave (v := some (.long w)) (fun h => by rw [hret] at h; cases h) hlk
  exact ⟨_, _, X.lreturnOut hx hret hd hr, hrun, hended, _, _, rfl, hP, ⟨_, rfl⟩, hW, hsame.mono hk hs⟩
theorem own_retA (X : Stand p l e R s m args below meth c T locs cells slots) (hx : p.tables.exec = Jvm.exec) (hlk : meth.locks = false) {t : FieldType} (hret : meth.sig.returnType = some t) (ht : t.isReference = true) {pc : Nat} {Ls : Array Slot} {w : Value} (hw : w.isRef = true) (hd : decode c.code pc = .ok (.areturn, 1)) (hP : P (some w) T.heap locs) (hk : cells ≤ k) (hs : slots ≤ n) : own_G p.tables e below s P k n (T.setTop (mkF m pc Ls [w])) := by
  obtain ⟨fs, hr, hrun, hended, hW, hsame⟩ := X.leave (v := some w) (fun h => by rw [hret] at h; cases h) hlk
  exact ⟨_, _, X.areturnOut hx hw hret ht hd hr, hrun, hended, _, _, rfl, hP, ⟨_, rfl⟩, hW, hsame.mono hk hs⟩
theorem own_retV (X : Stand p l e R s m args below meth c T locs cells slots) (hx : p.tables.exec = Jvm.exec) (hlk : meth.locks = false) (hret : meth.sig.returnType = none) {pc : Nat} {Ls : Array Slot} (hd : decode c.code pc = .ok (.return_, 1)) (hP : P none T.heap locs) (hk : cells ≤ k) (hs : slots ≤ n) : own_G p.tables e below s P k n (T.setTop (mkF m pc Ls [])) := by
  obtain ⟨fs, hr, hrun, hended, hW, hsame⟩ := X.leave (v := none) (fun _ => rfl) hlk
  exact ⟨_, _, X.returnOut hx hret hd hr, hrun, hended, _, _, rfl, hP, ⟨_, rfl⟩, hW, hsame.mono hk hs⟩
end Own
def own_has (q : Int64) (f r : Int32) : Int32 := if f < (0 : Int32) then 0 else if (7 : Int32) < f then 0 else if r < (0 : Int32) then 0 else if (7 : Int32) < r then 0 else if (((q.toUInt64 >>> (((r * (8 : Int32)) + f) &&& 0x3f).toInt64.toUInt64).toInt64) &&& (1 : Int64)) = (0 : Int64) then 0 else 1
def own_steps (q : Int64) : Int64 := (((((((((q <<< ((17 : Int32) &&& 0x3f).toInt64) &&& (-72340172838076674 : Int64)) ||| ((q <<< ((15 : Int32) &&& 0x3f).toInt64) &&& (9187201950435737471 : Int64))) ||| ((q <<< ((10 : Int32) &&& 0x3f).toInt64) &&& (-217020518514230020 : Int64))) ||| ((q <<< ((6 : Int32) &&& 0x3f).toInt64) &&& (4557430888798830399 : Int64))) ||| (((q.toUInt64 >>> ((17 : Int32) &&& 0x3f).toInt64.toUInt64).toInt64) &&& (9187201950435737471 : Int64))) ||| (((q.toUInt64 >>> ((15 : Int32) &&& 0x3f).toInt64.toUInt64).toInt64) &&& (-72340172838076674 : Int64))) ||| (((q.toUInt64 >>> ((10 : Int32) &&& 0x3f).toInt64.toUInt64).toInt64) &&& (4557430888798830399 : Int64))) ||| (((q.toUInt64 >>> ((6 : Int32) &&& 0x3f).toInt64.toUInt64).toInt64) &&& (-217020518514230020 : Int64)))
def own_exp (q : Int64) (f r : Int32) : Int32 := (if (own_has q (f + (1 : Int32)) (r + (2 : Int32))) = (0 : Int32) then (if (own_has q (f + (2 : Int32)) (r + (1 : Int32))) = (0 : Int32) then (if (own_has q (f + (2 : Int32)) (r - (1 : Int32))) = (0 : Int32) then (if (own_has q (f + (1 : Int32)) (r - (2 : Int32))) = (0 : Int32) then (if (own_has q (f - (1 : Int32)) (r - (2 : Int32))) = (0 : Int32) then (if (own_has q (f - (2 : Int32)) (r - (1 : Int32))) = (0 : Int32) then (if (own_has q (f - (2 : Int32)) (r + (1 : Int32))) = (0 : Int32) then (if (own_has q (f - (1 : Int32)) (r + (2 : Int32))) = (0 : Int32) then (0 : Int32) else (1 : Int32)) else (1 : Int32)) else (1 : Int32)) else (1 : Int32)) else (1 : Int32)) else (1 : Int32)) else (1 : Int32)) else (1 : Int32))
theorem own_sh (q : Int32) (k : Nat) (hk : q.toBitVec.toNat % 64 = k) : ((q &&& 0x3f).toInt64.toBitVec % 64).toNat = k := by
  have h5 := (sm64 q k hk).2
  rw [BitVec.toNat_umod, (sm64 q k hk).1, BitVec.toNat_ofNat]
  show k % 2 ^ 64 % 64 = k
  omega
theorem own_bit (z : Int64) (q : Int32) (k : Nat) (hk : q.toBitVec.toNat % 64 = k) : ((((z.toUInt64 >>> (q &&& 0x3f).toInt64.toUInt64).toInt64) &&& (1 : Int64)) = (0 : Int64)) ↔ z.toBitVec.getLsbD k = false := by
  rw [← Int64.toBitVec_inj]
  show (z.toBitVec >>> ((q &&& 0x3f).toInt64.toBitVec % 64)) &&& 1#64 = 0#64 ↔ _
  rw [BitVec.ushiftRight_eq', own_sh q k hk]
  have e : (z.toBitVec >>> k).getLsbD 0 = z.toBitVec.getLsbD k := by rw [BitVec.getLsbD_ushiftRight]; rfl
  rw [← e]
  generalize z.toBitVec >>> k = y
  constructor
  · intro h
    have h2 := congrArg (fun b : BitVec 64 => b.getLsbD 0) h
    simpa using h2
  · intro h
    apply BitVec.eq_of_getLsbD_eq
    intro i hi
    rw [BitVec.getLsbD_and, BitVec.getLsbD_one]
    by_cases hz : i = 0
    · subst hz; rw [h]; simp
    · simp [hz]
theorem own_up9 (z : Int64) (q : Int32) (k : Nat) (hk : q.toBitVec.toNat % 64 = k) (n : Nat) (hn : n < 64) : (z <<< (q &&& 0x3f).toInt64).toBitVec.getLsbD n = (decide (k ≤ n) && z.toBitVec.getLsbD (n - k)) := by
  show (z.toBitVec <<< ((q &&& 0x3f).toInt64.toBitVec.smod 64)).getLsbD n = _
  rw [BitVec.shiftLeft_eq', (sm64 q k hk).1, smod64 k (sm64 q k hk).2, BitVec.getLsbD_shiftLeft]
  by_cases h : k ≤ n
  · simp [h, hn, Nat.not_lt.mpr h]
  · simp [h, hn, Nat.lt_of_not_le h]
theorem own_dn9 (z : Int64) (q : Int32) (k : Nat) (hk : q.toBitVec.toNat % 64 = k) (n : Nat) : ((z.toUInt64 >>> (q &&& 0x3f).toInt64.toUInt64).toInt64).toBitVec.getLsbD n = z.toBitVec.getLsbD (k + n) := by
  show (z.toBitVec >>> ((q &&& 0x3f).toInt64.toBitVec % 64)).getLsbD n = _
  rw [BitVec.ushiftRight_eq', own_sh q k hk, BitVec.getLsbD_ushiftRight]
/-- has at a square that may lie outside the board -/
def own_on (f r : Int32) : Bool := !(decide (f < (0 : Int32)) || decide ((7 : Int32) < f) || decide (r < (0 : Int32)) || decide ((7 : Int32) < r))
def own_ix (f r : Int32) : Nat := ((r * (8 : Int32)) + f).toBitVec.toNat % 64
theorem own_has_iff (q : Int64) (f r : Int32) : own_has q f r = 0 ↔ (own_on f r && q.toBitVec.getLsbD (own_ix f r)) = false := by
  unfold own_has own_on
  by_cases h1 : f < (0 : Int32)
  · simp [h1]
  by_cases h2 : (7 : Int32) < f
  · simp [h1, h2]
  by_cases h3 : r < (0 : Int32)
  · simp [h1, h2, h3]
  by_cases h4 : (7 : Int32) < r
  · simp [h1, h2, h3, h4]
  rw [if_neg h1, if_neg h2, if_neg h3, if_neg h4]
  have hb := own_bit q ((r * (8 : Int32)) + f) (own_ix f r) rfl
  by_cases hx : ((((q.toUInt64 >>> (((r * (8 : Int32)) + f) &&& 0x3f).toInt64.toUInt64).toInt64) &&& (1 : Int64)) = (0 : Int64))
  · rw [if_pos hx]; simp [hb.mp hx]
  · rw [if_neg hx]
    have : q.toBitVec.getLsbD (own_ix f r) = true := by
      cases hc : q.toBitVec.getLsbD (own_ix f r)
      · exact absurd (hb.mpr hc) hx
      · rfl
    simp [h1, h2, h3, h4, this]
theorem own_sq (tg : Int32) : ∃ n : Nat, n < 64 ∧ (tg &&& (63 : Int32)) = Int32.ofNat n := by
  refine ⟨(tg &&& 63).toBitVec.toNat, ?_, ?_⟩
  · simp only [Int32.toBitVec_and, BitVec.toNat_and]
    exact Nat.lt_of_le_of_lt Nat.and_le_right (by decide)
  · apply Int32.toBitVec_inj.mp
    show _ = BitVec.ofNat 32 _
    rw [BitVec.ofNat_toNat]; simp
def own_f (n : Nat) : Int32 := Int32.ofNat n &&& (7 : Int32)
def own_r (n : Nat) : Int32 := (((Int32.ofNat n).toUInt32 >>> ((3 : Int32) &&& 31).toUInt32).toInt32)

theorem own_mv4 : ∀ n : Fin 64, (decide (17 ≤ n.val) && (-72340172838076674 : Int64).toBitVec.getLsbD n.val) = own_on (own_f n.val - (1 : Int32)) (own_r n.val - (2 : Int32)) ∧ (own_on (own_f n.val - (1 : Int32)) (own_r n.val - (2 : Int32)) = true → own_ix (own_f n.val - (1 : Int32)) (own_r n.val - (2 : Int32)) = n.val - 17) := by decide +kernel
theorem own_tm4 (q : Int64) (n : Nat) (hn : n < 64) : ((q <<< ((17 : Int32) &&& 0x3f).toInt64) &&& (-72340172838076674 : Int64)).toBitVec.getLsbD n = (own_on (own_f n - (1 : Int32)) (own_r n - (2 : Int32)) && q.toBitVec.getLsbD (own_ix (own_f n - (1 : Int32)) (own_r n - (2 : Int32)))) := by
  rw [Int64.toBitVec_and, BitVec.getLsbD_and, own_up9 q 17 17 (by decide) n hn]
  obtain ⟨h1, h2⟩ := own_mv4 ⟨n, hn⟩
  cases ho : own_on (own_f n - (1 : Int32)) (own_r n - (2 : Int32))
  · have h3 := h1.trans ho
    simp only [Bool.and_eq_false_iff] at h3
    rcases h3 with h3 | h3
    · simp [h3]
    · rw [h3]; simp
  · have h3 := h1.trans ho
    simp only [Bool.and_eq_true] at h3
    rw [h2 ho, h3.1, h3.2]; simp
theorem own_mv3 : ∀ n : Fin 64, (decide (15 ≤ n.val) && (9187201950435737471 : Int64).toBitVec.getLsbD n.val) = own_on (own_f n.val + (1 : Int32)) (own_r n.val - (2 : Int32)) ∧ (own_on (own_f n.val + (1 : Int32)) (own_r n.val - (2 : Int32)) = true → own_ix (own_f n.val + (1 : Int32)) (own_r n.val - (2 : Int32)) = n.val - 15) := by decide +kernel
theorem own_tm3 (q : Int64) (n : Nat) (hn : n < 64) : ((q <<< ((15 : Int32) &&& 0x3f).toInt64) &&& (9187201950435737471 : Int64)).toBitVec.getLsbD n = (own_on (own_f n + (1 : Int32)) (own_r n - (2 : Int32)) && q.toBitVec.getLsbD (own_ix (own_f n + (1 : Int32)) (own_r n - (2 : Int32)))) := by
  rw [Int64.toBitVec_and, BitVec.getLsbD_and, own_up9 q 15 15 (by decide) n hn]
  obtain ⟨h1, h2⟩ := own_mv3 ⟨n, hn⟩
  cases ho : own_on (own_f n + (1 : Int32)) (own_r n - (2 : Int32))
  · have h3 := h1.trans ho
    simp only [Bool.and_eq_false_iff] at h3
    rcases h3 with h3 | h3
    · simp [h3]
    · rw [h3]; simp
  · have h3 := h1.trans ho
    simp only [Bool.and_eq_true] at h3
    rw [h2 ho, h3.1, h3.2]; simp
theorem own_mv5 : ∀ n : Fin 64, (decide (10 ≤ n.val) && (-217020518514230020 : Int64).toBitVec.getLsbD n.val) = own_on (own_f n.val - (2 : Int32)) (own_r n.val - (1 : Int32)) ∧ (own_on (own_f n.val - (2 : Int32)) (own_r n.val - (1 : Int32)) = true → own_ix (own_f n.val - (2 : Int32)) (own_r n.val - (1 : Int32)) = n.val - 10) := by decide +kernel
theorem own_tm5 (q : Int64) (n : Nat) (hn : n < 64) : ((q <<< ((10 : Int32) &&& 0x3f).toInt64) &&& (-217020518514230020 : Int64)).toBitVec.getLsbD n = (own_on (own_f n - (2 : Int32)) (own_r n - (1 : Int32)) && q.toBitVec.getLsbD (own_ix (own_f n - (2 : Int32)) (own_r n - (1 : Int32)))) := by
  rw [Int64.toBitVec_and, BitVec.getLsbD_and, own_up9 q 10 10 (by decide) n hn]
  obtain ⟨h1, h2⟩ := own_mv5 ⟨n, hn⟩
  cases ho : own_on (own_f n - (2 : Int32)) (own_r n - (1 : Int32))
  · have h3 := h1.trans ho
    simp only [Bool.and_eq_false_iff] at h3
    rcases h3 with h3 | h3
    · simp [h3]
    · rw [h3]; simp
  · have h3 := h1.trans ho
    simp only [Bool.and_eq_true] at h3
    rw [h2 ho, h3.1, h3.2]; simp
theorem own_mv2 : ∀ n : Fin 64, (decide (6 ≤ n.val) && (4557430888798830399 : Int64).toBitVec.getLsbD n.val) = own_on (own_f n.val + (2 : Int32)) (own_r n.val - (1 : Int32)) ∧ (own_on (own_f n.val + (2 : Int32)) (own_r n.val - (1 : Int32)) = true → own_ix (own_f n.val + (2 : Int32)) (own_r n.val - (1 : Int32)) = n.val - 6) := by decide +kernel
theorem own_tm2 (q : Int64) (n : Nat) (hn : n < 64) : ((q <<< ((6 : Int32) &&& 0x3f).toInt64) &&& (4557430888798830399 : Int64)).toBitVec.getLsbD n = (own_on (own_f n + (2 : Int32)) (own_r n - (1 : Int32)) && q.toBitVec.getLsbD (own_ix (own_f n + (2 : Int32)) (own_r n - (1 : Int32)))) := by
  rw [Int64.toBitVec_and, BitVec.getLsbD_and, own_up9 q 6 6 (by decide) n hn]
  obtain ⟨h1, h2⟩ := own_mv2 ⟨n, hn⟩
  cases ho : own_on (own_f n + (2 : Int32)) (own_r n - (1 : Int32))
  · have h3 := h1.trans ho
    simp only [Bool.and_eq_false_iff] at h3
    rcases h3 with h3 | h3
    · simp [h3]
    · rw [h3]; simp
  · have h3 := h1.trans ho
    simp only [Bool.and_eq_true] at h3
    rw [h2 ho, h3.1, h3.2]; simp
theorem own_mv0 : ∀ n : Fin 64, (decide (17 + n.val < 64) && (9187201950435737471 : Int64).toBitVec.getLsbD n.val) = own_on (own_f n.val + (1 : Int32)) (own_r n.val + (2 : Int32)) ∧ (own_on (own_f n.val + (1 : Int32)) (own_r n.val + (2 : Int32)) = true → own_ix (own_f n.val + (1 : Int32)) (own_r n.val + (2 : Int32)) = 17 + n.val) := by decide +kernel
theorem own_tm0 (q : Int64) (n : Nat) (hn : n < 64) : (((q.toUInt64 >>> ((17 : Int32) &&& 0x3f).toInt64.toUInt64).toInt64) &&& (9187201950435737471 : Int64)).toBitVec.getLsbD n = (own_on (own_f n + (1 : Int32)) (own_r n + (2 : Int32)) && q.toBitVec.getLsbD (own_ix (own_f n + (1 : Int32)) (own_r n + (2 : Int32)))) := by
  rw [Int64.toBitVec_and, BitVec.getLsbD_and, own_dn9 q 17 17 (by decide) n]
  obtain ⟨h1, h2⟩ := own_mv0 ⟨n, hn⟩
  cases ho : own_on (own_f n + (1 : Int32)) (own_r n + (2 : Int32))
  · have h3 := h1.trans ho
    simp only [Bool.and_eq_false_iff] at h3
    rcases h3 with h3 | h3
    · rw [BitVec.getLsbD_of_ge _ _ (by simpa using h3)]; simp
    · rw [h3]; simp
  · have h3 := h1.trans ho
    simp only [Bool.and_eq_true] at h3
    rw [h2 ho, h3.2]; simp
theorem own_mv7 : ∀ n : Fin 64, (decide (15 + n.val < 64) && (-72340172838076674 : Int64).toBitVec.getLsbD n.val) = own_on (own_f n.val - (1 : Int32)) (own_r n.val + (2 : Int32)) ∧ (own_on (own_f n.val - (1 : Int32)) (own_r n.val + (2 : Int32)) = true → own_ix (own_f n.val - (1 : Int32)) (own_r n.val + (2 : Int32)) = 15 + n.val) := by decide +kernel
theorem own_tm7 (q : Int64) (n : Nat) (hn : n < 64) : (((q.toUInt64 >>> ((15 : Int32) &&& 0x3f).toInt64.toUInt64).toInt64) &&& (-72340172838076674 : Int64)).toBitVec.getLsbD n = (own_on (own_f n - (1 : Int32)) (own_r n + (2 : Int32)) && q.toBitVec.getLsbD (own_ix (own_f n - (1 : Int32)) (own_r n + (2 : Int32)))) := by
  rw [Int64.toBitVec_and, BitVec.getLsbD_and, own_dn9 q 15 15 (by decide) n]
  obtain ⟨h1, h2⟩ := own_mv7 ⟨n, hn⟩
  cases ho : own_on (own_f n - (1 : Int32)) (own_r n + (2 : Int32))
  · have h3 := h1.trans ho
    simp only [Bool.and_eq_false_iff] at h3
    rcases h3 with h3 | h3
    · rw [BitVec.getLsbD_of_ge _ _ (by simpa using h3)]; simp
    · rw [h3]; simp
  · have h3 := h1.trans ho
    simp only [Bool.and_eq_true] at h3
    rw [h2 ho, h3.2]; simp
theorem own_mv1 : ∀ n : Fin 64, (decide (10 + n.val < 64) && (4557430888798830399 : Int64).toBitVec.getLsbD n.val) = own_on (own_f n.val + (2 : Int32)) (own_r n.val + (1 : Int32)) ∧ (own_on (own_f n.val + (2 : Int32)) (own_r n.val + (1 : Int32)) = true → own_ix (own_f n.val + (2 : Int32)) (own_r n.val + (1 : Int32)) = 10 + n.val) := by decide +kernel
theorem own_tm1 (q : Int64) (n : Nat) (hn : n < 64) : (((q.toUInt64 >>> ((10 : Int32) &&& 0x3f).toInt64.toUInt64).toInt64) &&& (4557430888798830399 : Int64)).toBitVec.getLsbD n = (own_on (own_f n + (2 : Int32)) (own_r n + (1 : Int32)) && q.toBitVec.getLsbD (own_ix (own_f n + (2 : Int32)) (own_r n + (1 : Int32)))) := by
  rw [Int64.toBitVec_and, BitVec.getLsbD_and, own_dn9 q 10 10 (by decide) n]
  obtain ⟨h1, h2⟩ := own_mv1 ⟨n, hn⟩
  cases ho : own_on (own_f n + (2 : Int32)) (own_r n + (1 : Int32))
  · have h3 := h1.trans ho
    simp only [Bool.and_eq_false_iff] at h3
    rcases h3 with h3 | h3
    · rw [BitVec.getLsbD_of_ge _ _ (by simpa using h3)]; simp
    · rw [h3]; simp
  · have h3 := h1.trans ho
    simp only [Bool.and_eq_true] at h3
    rw [h2 ho, h3.2]; simp
theorem own_mv6 : ∀ n : Fin 64, (decide (6 + n.val < 64) && (-217020518514230020 : Int64).toBitVec.getLsbD n.val) = own_on (own_f n.val - (2 : Int32)) (own_r n.val + (1 : Int32)) ∧ (own_on (own_f n.val - (2 : Int32)) (own_r n.val + (1 : Int32)) = true → own_ix (own_f n.val - (2 : Int32)) (own_r n.val + (1 : Int32)) = 6 + n.val) := by decide +kernel
theorem own_tm6 (q : Int64) (n : Nat) (hn : n < 64) : (((q.toUInt64 >>> ((6 : Int32) &&& 0x3f).toInt64.toUInt64).toInt64) &&& (-217020518514230020 : Int64)).toBitVec.getLsbD n = (own_on (own_f n - (2 : Int32)) (own_r n + (1 : Int32)) && q.toBitVec.getLsbD (own_ix (own_f n - (2 : Int32)) (own_r n + (1 : Int32)))) := by
  rw [Int64.toBitVec_and, BitVec.getLsbD_and, own_dn9 q 6 6 (by decide) n]
  obtain ⟨h1, h2⟩ := own_mv6 ⟨n, hn⟩
  cases ho : own_on (own_f n - (2 : Int32)) (own_r n + (1 : Int32))
  · have h3 := h1.trans ho
    simp only [Bool.and_eq_false_iff] at h3
    rcases h3 with h3 | h3
    · rw [BitVec.getLsbD_of_ge _ _ (by simpa using h3)]; simp
    · rw [h3]; simp
  · have h3 := h1.trans ho
    simp only [Bool.and_eq_true] at h3
    rw [h2 ho, h3.2]; simp
theorem own_bools : ∀ b0 b1 b2 b3 b4 b5 b6 b7 : Bool, (if (((((((b4 || b3) || b5) || b2) || b0) || b7) || b1) || b6) = false then (0 : Int32) else (1 : Int32)) = (if b0 = false then (if b1 = false then (if b2 = false then (if b3 = false then (if b4 = false then (if b5 = false then (if b6 = false then (if b7 = false then (0 : Int32) else (1 : Int32)) else (1 : Int32)) else (1 : Int32)) else (1 : Int32)) else (1 : Int32)) else (1 : Int32)) else (1 : Int32)) else (1 : Int32)) := by decide +kernel
theorem own_law (q : Int64) (tg tt f r : Int32) (h_tt : tt = (tg &&& (63 : Int32))) (h_f : f = (tt &&& (7 : Int32))) (h_r : r = ((tt.toUInt32 >>> ((3 : Int32) &&& 31).toUInt32).toInt32)) :
    (if ((((own_steps q).toUInt64 >>> (tt &&& 0x3f).toInt64.toUInt64).toInt64) &&& (1 : Int64)) = (0 : Int64) then (0 : Int32) else (1 : Int32)) = own_exp q f r := by
  obtain ⟨n, hn, e⟩ := own_sq tg
  have et : tt = Int32.ofNat n := h_tt.trans e
  subst et
  have ef : f = own_f n := h_f
  have er : r = own_r n := h_r
  subst ef er
  have hk : (Int32.ofNat n).toBitVec.toNat % 64 = n := by
    show (n % 2 ^ 32) % 64 = n
    omega
  have hs : (own_steps q).toBitVec.getLsbD n = ((((((((own_on (own_f n - (1 : Int32)) (own_r n - (2 : Int32)) && q.toBitVec.getLsbD (own_ix (own_f n - (1 : Int32)) (own_r n - (2 : Int32)))) || (own_on (own_f n + (1 : Int32)) (own_r n - (2 : Int32)) && q.toBitVec.getLsbD (own_ix (own_f n + (1 : Int32)) (own_r n - (2 : Int32))))) || (own_on (own_f n - (2 : Int32)) (own_r n - (1 : Int32)) && q.toBitVec.getLsbD (own_ix (own_f n - (2 : Int32)) (own_r n - (1 : Int32))))) || (own_on (own_f n + (2 : Int32)) (own_r n - (1 : Int32)) && q.toBitVec.getLsbD (own_ix (own_f n + (2 : Int32)) (own_r n - (1 : Int32))))) || (own_on (own_f n + (1 : Int32)) (own_r n + (2 : Int32)) && q.toBitVec.getLsbD (own_ix (own_f n + (1 : Int32)) (own_r n + (2 : Int32))))) || (own_on (own_f n - (1 : Int32)) (own_r n + (2 : Int32)) && q.toBitVec.getLsbD (own_ix (own_f n - (1 : Int32)) (own_r n + (2 : Int32))))) || (own_on (own_f n + (2 : Int32)) (own_r n + (1 : Int32)) && q.toBitVec.getLsbD (own_ix (own_f n + (2 : Int32)) (own_r n + (1 : Int32))))) || (own_on (own_f n - (2 : Int32)) (own_r n + (1 : Int32)) && q.toBitVec.getLsbD (own_ix (own_f n - (2 : Int32)) (own_r n + (1 : Int32))))) := by
    unfold own_steps
    simp only [Int64.toBitVec_or, BitVec.getLsbD_or]
    rw [own_tm4 q n hn, own_tm3 q n hn, own_tm5 q n hn, own_tm2 q n hn, own_tm0 q n hn, own_tm7 q n hn, own_tm1 q n hn, own_tm6 q n hn]
  unfold own_exp
  simp only [own_bit (own_steps q) (Int32.ofNat n) n hk, hs, own_has_iff]
  exact own_bools _ _ _ _ _ _ _ _
theorem own_pd0 : parseMethodDescriptor "(J)J" = some ⟨[.long], some .long⟩ := by decide +kernel
theorem own_pd1 : parseMethodDescriptor "(JII)Z" = some ⟨[.long, .int, .int], some .boolean⟩ := by decide +kernel
theorem own_d1_0 : decode method_2_code 0 = .ok (.iload_n 2, 1) := by decide +kernel
theorem own_d1_1 : decode method_2_code 1 = .ok (.ifCond .lt 19, 3) := by decide +kernel
theorem own_d1_4 : decode method_2_code 4 = .ok (.iload_n 2, 1) := by decide +kernel
theorem own_d1_5 : decode method_2_code 5 = .ok (.bipush 7, 2) := by decide +kernel
theorem own_d1_7 : decode method_2_code 7 = .ok (.if_icmp .gt 13, 3) := by decide +kernel
theorem own_d1_10 : decode method_2_code 10 = .ok (.iload_n 3, 1) := by decide +kernel
theorem own_d1_11 : decode method_2_code 11 = .ok (.ifCond .lt 9, 3) := by decide +kernel
theorem own_d1_14 : decode method_2_code 14 = .ok (.iload_n 3, 1) := by decide +kernel
theorem own_d1_15 : decode method_2_code 15 = .ok (.bipush 7, 2) := by decide +kernel
theorem own_d1_17 : decode method_2_code 17 = .ok (.if_icmp .le 5, 3) := by decide +kernel
theorem own_d1_20 : decode method_2_code 20 = .ok (.iconst 0, 1) := by decide +kernel
theorem own_d1_21 : decode method_2_code 21 = .ok (.ireturn, 1) := by decide +kernel
theorem own_d1_22 : decode method_2_code 22 = .ok (.lload_n 0, 1) := by decide +kernel
theorem own_d1_23 : decode method_2_code 23 = .ok (.iload_n 3, 1) := by decide +kernel
theorem own_d1_24 : decode method_2_code 24 = .ok (.bipush 8, 2) := by decide +kernel
theorem own_d1_26 : decode method_2_code 26 = .ok (.imul, 1) := by decide +kernel
theorem own_d1_27 : decode method_2_code 27 = .ok (.iload_n 2, 1) := by decide +kernel
theorem own_d1_28 : decode method_2_code 28 = .ok (.iadd, 1) := by decide +kernel
theorem own_d1_29 : decode method_2_code 29 = .ok (.lushr, 1) := by decide +kernel
theorem own_d1_30 : decode method_2_code 30 = .ok (.lconst 1, 1) := by decide +kernel
theorem own_d1_31 : decode method_2_code 31 = .ok (.land, 1) := by decide +kernel
theorem own_d1_32 : decode method_2_code 32 = .ok (.lconst 0, 1) := by decide +kernel
theorem own_d1_33 : decode method_2_code 33 = .ok (.lcmp, 1) := by decide +kernel
theorem own_d1_34 : decode method_2_code 34 = .ok (.ifCond .eq 7, 3) := by decide +kernel
theorem own_d1_37 : decode method_2_code 37 = .ok (.iconst 1, 1) := by decide +kernel
theorem own_d1_38 : decode method_2_code 38 = .ok (.goto 4, 3) := by decide +kernel
theorem own_d1_41 : decode method_2_code 41 = .ok (.iconst 0, 1) := by decide +kernel
theorem own_d1_42 : decode method_2_code 42 = .ok (.ireturn, 1) := by decide +kernel
theorem own_pn0 : plainName "com/example/touchmove/touchmove/board/AttacksKnightStepsPinLaw" = true := by first | (simp [plainName, overriddenIn]; done) | decide +kernel
theorem own_ef_rm1 (m : MethodId) (x0 : Int64) (x1 : Int32) (x2 : Int32) : entryFrame m #[(.long x0), (.int x1), (.int x2)] 4 = mkF m 0 #[.val (.long x0), .second, .val (.int x1), .val (.int x2)] [] := by first | (simp [entryFrame, mkF, argsToLocals, Value.category]; done) | rfl
def own_Q_rm1 (Z : State) (q : Int64) (f : Int32) (r : Int32) (h0 : Heap) (n0 : Nat) (v : Option Value) (h : Heap) (L : List Loc) : Prop := v = some (.int (own_has q f r)) ∧ Fr n0 L ∧ h = h0
set_option maxRecDepth 65536 in
set_option maxHeartbeats 40000000 in
theorem rm1 (l : Launch) (Z : State) (a0 : Array Value) (hw : ∀ d ∈ tables_1, d.before a0 Z = true) (ws : List Jvm.Cond) (q : Int64) (f : Int32) (r : Int32) (h0 : Heap) (n0 : Nat) (Z0 : n0 ≤ h0.size) :
    MetFree l (⟨"com/example/touchmove/touchmove/board/AttacksKnightStepsPinLaw", "has", "(JII)Z"⟩ : MethodName) (head1 (Jvm.Cond.code (⟨"com/example/touchmove/touchmove/board/AttacksKnightStepsPinLaw", "has", "(JII)Z"⟩ : MethodName) method_2_code 4 (some .boolean) :: ws) ({ frames := 0, cells := 0, slots := 0, locals := 0 } : Room)) (fun aa UU => aa = #[(.long q), (.int f), (.int r)] ∧ Z.Warmed39 UU.vm ∧ UU.heap = h0) (fun _ _ _ _ _ => True) (fun _ UU oo UU' => ∃ vv LL, oo = .returned vv ∧ own_Q_rm1 Z q f r h0 n0 vv UU'.heap LL ∧ FrameEnd UU oo UU' LL ({ frames := 0, cells := 0, slots := 0, locals := 0 } : Room).cells ({ frames := 0, cells := 0, slots := 0, locals := 0 } : Room).slots) := by
  refine MetFree.of_bodySF (plainFor_of_name own_pn0) hisR ?_
  intro p e s m args below meth c s₁ Bd hml0 hP hK
  obtain ⟨rfl, hZ, hh⟩ := hP
  have hx := Bd.exec
  have hby := Bd.bytes
  have hlk := Bd.notSynchronized
  have hml : c.maxLocals = 4 := hml0
  have hown : s.vm.findClass "com/example/touchmove/touchmove/board/AttacksKnightStepsPinLaw" = some m.cls := findClass_of_methodNamed Bd.named
  have hnm := (name_of_methodNamed Bd.named Bd.method).1
  have X0 : Stand p l e ({ frames := 0, cells := 0, slots := 0, locals := 0 } : Room) s m #[(.long q), (.int f), (.int r)] below meth c s₁ [] 0 0 := Stand.of_body Bd
  have e0 : s₁.heap = h0 := by rw [← hh, Bd.state]; rfl
  have N0 := Fr.nil n0
  show own_G p.tables e below s (own_Q_rm1 Z q f r h0 n0) ({ frames := 0, cells := 0, slots := 0, locals := 0 } : Room).cells ({ frames := 0, cells := 0, slots := 0, locals := 0 } : Room).slots (s₁.setTop (entryFrame m #[(.long q), (.int f), (.int r)] 4))
  refine own_up (U' := s₁.setTop (mkF m 0 #[.val (.long q), .second, .val (.int f), .val (.int r)] [])) ?_ (fun t k => castTop (own_ef_rm1 m q f r) k)
  refine own_up ?_ fun t k => XS.iloadN X0.here hx rfl (hb hby own_d1_0) rfl k
  show own_G p.tables e below s _ _ _ (s₁.setTop (mkF m 1 #[.val (.long q), .second, .val (.int f), .val (.int r)] [(.int f)]))
  by_cases hc1_1 : f < (0 : Int32)
  · refine own_up ?_ fun t k => XS.ifYes X0.here hx rfl (pc0 := 1) (pc' := 20) rfl (hb hby own_d1_1) rfl ((if0 _ _).trans (tlt hc1_1).1) (by decide) (by decide) k
    show own_G p.tables e below s _ _ _ (s₁.setTop (mkF m 20 #[.val (.long q), .second, .val (.int f), .val (.int r)] []))
    refine own_up ?_ fun t k => XS.iconst X0.here hx rfl (hb hby own_d1_20) k
    show own_G p.tables e below s _ _ _ (s₁.setTop (mkF m 21 #[.val (.long q), .second, .val (.int f), .val (.int r)] [(.int (0 : Int32))]))
    exact own_retI X0 hx hlk Bd.returns (by simp) rfl (hb hby own_d1_21) ⟨congrArg (fun z => some (Value.int z)) (by simp only [own_has, if_pos hc1_1]), N0, e0⟩ (by decide) (by decide)
  · refine own_up ?_ fun t k => XS.ifNo X0.here hx rfl (hb hby own_d1_1) rfl ((if0 _ _).trans (flt hc1_1).1) k
    show own_G p.tables e below s _ _ _ (s₁.setTop (mkF m 4 #[.val (.long q), .second, .val (.int f), .val (.int r)] []))
    refine own_up ?_ fun t k => XS.iloadN X0.here hx rfl (hb hby own_d1_4) rfl k
    show own_G p.tables e below s _ _ _ (s₁.setTop (mkF m 5 #[.val (.long q), .second, .val (.int f), .val (.int r)] [(.int f)]))
    refine own_up ?_ fun t k => XS.bipush X0.here hx rfl (hb hby own_d1_5) k
    show own_G p.tables e below s _ _ _ (s₁.setTop (mkF m 7 #[.val (.long q), .second, .val (.int f), .val (.int r)] [(.int (7 : Int32)), (.int f)]))
    by_cases hc7_2 : (7 : Int32) < f
    · refine own_up ?_ fun t k => XS.icmpYes X0.here hx rfl (pc0 := 7) (pc' := 20) rfl (hb hby own_d1_7) rfl (tlt hc7_2).2.2.1 (by decide) (by decide) k
      show own_G p.tables e below s _ _ _ (s₁.setTop (mkF m 20 #[.val (.long q), .second, .val (.int f), .val (.int r)] []))
      refine own_up ?_ fun t k => XS.iconst X0.here hx rfl (hb hby own_d1_20) k
      show own_G p.tables e below s _ _ _ (s₁.setTop (mkF m 21 #[.val (.long q), .second, .val (.int f), .val (.int r)] [(.int (0 : Int32))]))
      exact own_retI X0 hx hlk Bd.returns (by simp) rfl (hb hby own_d1_21) ⟨congrArg (fun z => some (Value.int z)) (by simp only [own_has, if_neg hc1_1, if_pos hc7_2]), N0, e0⟩ (by decide) (by decide)
    · refine own_up ?_ fun t k => XS.icmpNo X0.here hx rfl (hb hby own_d1_7) rfl (flt hc7_2).2.2.1 k
      show own_G p.tables e below s _ _ _ (s₁.setTop (mkF m 10 #[.val (.long q), .second, .val (.int f), .val (.int r)] []))
      refine own_up ?_ fun t k => XS.iloadN X0.here hx rfl (hb hby own_d1_10) rfl k
      show own_G p.tables e below s _ _ _ (s₁.setTop (mkF m 11 #[.val (.long q), .second, .val (.int f), .val (.int r)] [(.int r)]))
      by_cases hc11_3 : r < (0 : Int32)
      · refine own_up ?_ fun t k => XS.ifYes X0.here hx rfl (pc0 := 11) (pc' := 20) rfl (hb hby own_d1_11) rfl ((if0 _ _).trans (tlt hc11_3).1) (by decide) (by decide) k
        show own_G p.tables e below s _ _ _ (s₁.setTop (mkF m 20 #[.val (.long q), .second, .val (.int f), .val (.int r)] []))
        refine own_up ?_ fun t k => XS.iconst X0.here hx rfl (hb hby own_d1_20) k
        show own_G p.tables e below s _ _ _ (s₁.setTop (mkF m 21 #[.val (.long q), .second, .val (.int f), .val (.int r)] [(.int (0 : Int32))]))
        exact own_retI X0 hx hlk Bd.returns (by simp) rfl (hb hby own_d1_21) ⟨congrArg (fun z => some (Value.int z)) (by simp only [own_has, if_neg hc1_1, if_neg hc7_2, if_pos hc11_3]), N0, e0⟩ (by decide) (by decide)
      · refine own_up ?_ fun t k => XS.ifNo X0.here hx rfl (hb hby own_d1_11) rfl ((if0 _ _).trans (flt hc11_3).1) k
        show own_G p.tables e below s _ _ _ (s₁.setTop (mkF m 14 #[.val (.long q), .second, .val (.int f), .val (.int r)] []))
        refine own_up ?_ fun t k => XS.iloadN X0.here hx rfl (hb hby own_d1_14) rfl k
        show own_G p.tables e below s _ _ _ (s₁.setTop (mkF m 15 #[.val (.long q), .second, .val (.int f), .val (.int r)] [(.int r)]))
        refine own_up ?_ fun t k => XS.bipush X0.here hx rfl (hb hby own_d1_15) k
        show own_G p.tables e below s _ _ _ (s₁.setTop (mkF m 17 #[.val (.long q), .second, .val (.int f), .val (.int r)] [(.int (7 : Int32)), (.int r)]))
        by_cases hc17_4 : (7 : Int32) < r
        · refine own_up ?_ fun t k => XS.icmpNo X0.here hx rfl (hb hby own_d1_17) rfl (tlt hc17_4).2.2.2 k
          show own_G p.tables e below s _ _ _ (s₁.setTop (mkF m 20 #[.val (.long q), .second, .val (.int f), .val (.int r)] []))
          refine own_up ?_ fun t k => XS.iconst X0.here hx rfl (hb hby own_d1_20) k
          show own_G p.tables e below s _ _ _ (s₁.setTop (mkF m 21 #[.val (.long q), .second, .val (.int f), .val (.int r)] [(.int (0 : Int32))]))
          exact own_retI X0 hx hlk Bd.returns (by simp) rfl (hb hby own_d1_21) ⟨congrArg (fun z => some (Value.int z)) (by simp only [own_has, if_neg hc1_1, if_neg hc7_2, if_neg hc11_3, if_pos hc17_4]), N0, e0⟩ (by decide) (by decide)
        · refine own_up ?_ fun t k => XS.icmpYes X0.here hx rfl (pc0 := 17) (pc' := 22) rfl (hb hby own_d1_17) rfl (flt hc17_4).2.2.2 (by decide) (by decide) k
          show own_G p.tables e below s _ _ _ (s₁.setTop (mkF m 22 #[.val (.long q), .second, .val (.int f), .val (.int r)] []))
          refine own_up ?_ fun t k => XS.lloadN X0.here hx rfl (hb hby own_d1_22) rfl k
          show own_G p.tables e below s _ _ _ (s₁.setTop (mkF m 23 #[.val (.long q), .second, .val (.int f), .val (.int r)] [(.long q)]))
          refine own_up ?_ fun t k => XS.iloadN X0.here hx rfl (hb hby own_d1_23) rfl k
          show own_G p.tables e below s _ _ _ (s₁.setTop (mkF m 24 #[.val (.long q), .second, .val (.int f), .val (.int r)] [(.int r), (.long q)]))
          refine own_up ?_ fun t k => XS.bipush X0.here hx rfl (hb hby own_d1_24) k
          show own_G p.tables e below s _ _ _ (s₁.setTop (mkF m 26 #[.val (.long q), .second, .val (.int f), .val (.int r)] [(.int (8 : Int32)), (.int r), (.long q)]))
          refine own_up ?_ fun t k => XS.imul X0.here hx rfl (hb hby own_d1_26) rfl k
          show own_G p.tables e below s _ _ _ (s₁.setTop (mkF m 27 #[.val (.long q), .second, .val (.int f), .val (.int r)] [(.int (r * (8 : Int32))), (.long q)]))
          refine own_up ?_ fun t k => XS.iloadN X0.here hx rfl (hb hby own_d1_27) rfl k
          show own_G p.tables e below s _ _ _ (s₁.setTop (mkF m 28 #[.val (.long q), .second, .val (.int f), .val (.int r)] [(.int f), (.int (r * (8 : Int32))), (.long q)]))
          refine own_up ?_ fun t k => XS.iadd X0.here hx rfl (hb hby own_d1_28) rfl k
          show own_G p.tables e below s _ _ _ (s₁.setTop (mkF m 29 #[.val (.long q), .second, .val (.int f), .val (.int r)] [(.int ((r * (8 : Int32)) + f)), (.long q)]))
          refine own_up ?_ fun t k => XS.lushr X0.here hx rfl (hb hby own_d1_29) rfl k
          show own_G p.tables e below s _ _ _ (s₁.setTop (mkF m 30 #[.val (.long q), .second, .val (.int f), .val (.int r)] [(.long ((q.toUInt64 >>> (((r * (8 : Int32)) + f) &&& 0x3f).toInt64.toUInt64).toInt64))]))
          refine own_up ?_ fun t k => XS.lconst X0.here hx rfl (hb hby own_d1_30) k
          show own_G p.tables e below s _ _ _ (s₁.setTop (mkF m 31 #[.val (.long q), .second, .val (.int f), .val (.int r)] [(.long (1 : Int64)), (.long ((q.toUInt64 >>> (((r * (8 : Int32)) + f) &&& 0x3f).toInt64.toUInt64).toInt64))]))
          refine own_up ?_ fun t k => XS.land X0.here hx rfl (hb hby own_d1_31) rfl k
          show own_G p.tables e below s _ _ _ (s₁.setTop (mkF m 32 #[.val (.long q), .second, .val (.int f), .val (.int r)] [(.long (((q.toUInt64 >>> (((r * (8 : Int32)) + f) &&& 0x3f).toInt64.toUInt64).toInt64) &&& (1 : Int64)))]))
          refine own_up ?_ fun t k => XS.lconst X0.here hx rfl (hb hby own_d1_32) k
          show own_G p.tables e below s _ _ _ (s₁.setTop (mkF m 33 #[.val (.long q), .second, .val (.int f), .val (.int r)] [(.long (0 : Int64)), (.long (((q.toUInt64 >>> (((r * (8 : Int32)) + f) &&& 0x3f).toInt64.toUInt64).toInt64) &&& (1 : Int64)))]))
          refine own_up ?_ fun t k => XS.lcmp X0.here hx rfl (hb hby own_d1_33) rfl k
          show own_G p.tables e below s _ _ _ (s₁.setTop (mkF m 34 #[.val (.long q), .second, .val (.int f), .val (.int r)] [(.int (lcmpW (((q.toUInt64 >>> (((r * (8 : Int32)) + f) &&& 0x3f).toInt64.toUInt64).toInt64) &&& (1 : Int64)) (0 : Int64)))]))
          by_cases hc34_5 : (((q.toUInt64 >>> (((r * (8 : Int32)) + f) &&& 0x3f).toInt64.toUInt64).toInt64) &&& (1 : Int64)) = (0 : Int64)
          · refine own_up ?_ fun t k => XS.ifYes X0.here hx rfl (pc0 := 34) (pc' := 41) rfl (hb hby own_d1_34) rfl ((if0 _ _).trans (teq ((lw_eq _ _).mpr hc34_5)).1) (by decide) (by decide) k
            show own_G p.tables e below s _ _ _ (s₁.setTop (mkF m 41 #[.val (.long q), .second, .val (.int f), .val (.int r)] []))
            refine own_up ?_ fun t k => XS.iconst X0.here hx rfl (hb hby own_d1_41) k
            show own_G p.tables e below s _ _ _ (s₁.setTop (mkF m 42 #[.val (.long q), .second, .val (.int f), .val (.int r)] [(.int (0 : Int32))]))
            exact own_retI X0 hx hlk Bd.returns (by simp) rfl (hb hby own_d1_42) ⟨congrArg (fun z => some (Value.int z)) (by simp only [own_has, if_neg hc1_1, if_neg hc7_2, if_neg hc11_3, if_neg hc17_4, if_pos hc34_5]), N0, e0⟩ (by decide) (by decide)
          · refine own_up ?_ fun t k => XS.ifNo X0.here hx rfl (hb hby own_d1_34) rfl ((if0 _ _).trans (feq (fun q => hc34_5 ((lw_eq _ _).mp q))).1) k
            show own_G p.tables e below s _ _ _ (s₁.setTop (mkF m 37 #[.val (.long q), .second, .val (.int f), .val (.int r)] []))
            refine own_up ?_ fun t k => XS.iconst X0.here hx rfl (hb hby own_d1_37) k
            show own_G p.tables e below s _ _ _ (s₁.setTop (mkF m 38 #[.val (.long q), .second, .val (.int f), .val (.int r)] [(.int (1 : Int32))]))
            refine own_up ?_ fun t k => XS.goto X0.here hx rfl (pc0 := 38) (pc' := 42) rfl (hb hby own_d1_38) (by decide) (by decide) k
            show own_G p.tables e below s _ _ _ (s₁.setTop (mkF m 42 #[.val (.long q), .second, .val (.int f), .val (.int r)] [(.int (1 : Int32))]))
            exact own_retI X0 hx hlk Bd.returns (by simp) rfl (hb hby own_d1_42) ⟨congrArg (fun z => some (Value.int z)) (by simp only [own_has, if_neg hc1_1, if_neg hc7_2, if_neg hc11_3, if_neg hc17_4, if_neg hc34_5]), N0, e0⟩ (by decide) (by decide)
theorem own_d2_0 : decode prog_34_method_13_code 0 = .ok (.lload_n 0, 1) := by decide +kernel
theorem own_d2_1 : decode prog_34_method_13_code 1 = .ok (.bipush 17, 2) := by decide +kernel
theorem own_d2_3 : decode prog_34_method_13_code 3 = .ok (.lshl, 1) := by decide +kernel
theorem own_d2_4 : decode prog_34_method_13_code 4 = .ok (.ldc2_w 47, 3) := by decide +kernel
theorem own_d2_7 : decode prog_34_method_13_code 7 = .ok (.land, 1) := by decide +kernel
theorem own_d2_8 : decode prog_34_method_13_code 8 = .ok (.lload_n 0, 1) := by decide +kernel
theorem own_d2_9 : decode prog_34_method_13_code 9 = .ok (.bipush 15, 2) := by decide +kernel
theorem own_d2_11 : decode prog_34_method_13_code 11 = .ok (.lshl, 1) := by decide +kernel
theorem own_d2_12 : decode prog_34_method_13_code 12 = .ok (.ldc2_w 49, 3) := by decide +kernel
theorem own_d2_15 : decode prog_34_method_13_code 15 = .ok (.land, 1) := by decide +kernel
theorem own_d2_16 : decode prog_34_method_13_code 16 = .ok (.lor, 1) := by decide +kernel
theorem own_d2_17 : decode prog_34_method_13_code 17 = .ok (.lload_n 0, 1) := by decide +kernel
theorem own_d2_18 : decode prog_34_method_13_code 18 = .ok (.bipush 10, 2) := by decide +kernel
theorem own_d2_20 : decode prog_34_method_13_code 20 = .ok (.lshl, 1) := by decide +kernel
theorem own_d2_21 : decode prog_34_method_13_code 21 = .ok (.ldc2_w 58, 3) := by decide +kernel
theorem own_d2_24 : decode prog_34_method_13_code 24 = .ok (.land, 1) := by decide +kernel
theorem own_d2_25 : decode prog_34_method_13_code 25 = .ok (.lor, 1) := by decide +kernel
theorem own_d2_26 : decode prog_34_method_13_code 26 = .ok (.lload_n 0, 1) := by decide +kernel
theorem own_d2_27 : decode prog_34_method_13_code 27 = .ok (.bipush 6, 2) := by decide +kernel
theorem own_d2_29 : decode prog_34_method_13_code 29 = .ok (.lshl, 1) := by decide +kernel
theorem own_d2_30 : decode prog_34_method_13_code 30 = .ok (.ldc2_w 60, 3) := by decide +kernel
theorem own_d2_33 : decode prog_34_method_13_code 33 = .ok (.land, 1) := by decide +kernel
theorem own_d2_34 : decode prog_34_method_13_code 34 = .ok (.lor, 1) := by decide +kernel
theorem own_d2_35 : decode prog_34_method_13_code 35 = .ok (.lload_n 0, 1) := by decide +kernel
theorem own_d2_36 : decode prog_34_method_13_code 36 = .ok (.bipush 17, 2) := by decide +kernel
theorem own_d2_38 : decode prog_34_method_13_code 38 = .ok (.lushr, 1) := by decide +kernel
theorem own_d2_39 : decode prog_34_method_13_code 39 = .ok (.ldc2_w 49, 3) := by decide +kernel
theorem own_d2_42 : decode prog_34_method_13_code 42 = .ok (.land, 1) := by decide +kernel
theorem own_d2_43 : decode prog_34_method_13_code 43 = .ok (.lor, 1) := by decide +kernel
theorem own_d2_44 : decode prog_34_method_13_code 44 = .ok (.lload_n 0, 1) := by decide +kernel
theorem own_d2_45 : decode prog_34_method_13_code 45 = .ok (.bipush 15, 2) := by decide +kernel
theorem own_d2_47 : decode prog_34_method_13_code 47 = .ok (.lushr, 1) := by decide +kernel
theorem own_d2_48 : decode prog_34_method_13_code 48 = .ok (.ldc2_w 47, 3) := by decide +kernel
theorem own_d2_51 : decode prog_34_method_13_code 51 = .ok (.land, 1) := by decide +kernel
theorem own_d2_52 : decode prog_34_method_13_code 52 = .ok (.lor, 1) := by decide +kernel
theorem own_d2_53 : decode prog_34_method_13_code 53 = .ok (.lload_n 0, 1) := by decide +kernel
theorem own_d2_54 : decode prog_34_method_13_code 54 = .ok (.bipush 10, 2) := by decide +kernel
theorem own_d2_56 : decode prog_34_method_13_code 56 = .ok (.lushr, 1) := by decide +kernel
theorem own_d2_57 : decode prog_34_method_13_code 57 = .ok (.ldc2_w 60, 3) := by decide +kernel
theorem own_d2_60 : decode prog_34_method_13_code 60 = .ok (.land, 1) := by decide +kernel
theorem own_d2_61 : decode prog_34_method_13_code 61 = .ok (.lor, 1) := by decide +kernel
theorem own_d2_62 : decode prog_34_method_13_code 62 = .ok (.lload_n 0, 1) := by decide +kernel
theorem own_d2_63 : decode prog_34_method_13_code 63 = .ok (.bipush 6, 2) := by decide +kernel
theorem own_d2_65 : decode prog_34_method_13_code 65 = .ok (.lushr, 1) := by decide +kernel
theorem own_d2_66 : decode prog_34_method_13_code 66 = .ok (.ldc2_w 58, 3) := by decide +kernel
theorem own_d2_69 : decode prog_34_method_13_code 69 = .ok (.land, 1) := by decide +kernel
theorem own_d2_70 : decode prog_34_method_13_code 70 = .ok (.lor, 1) := by decide +kernel
theorem own_d2_71 : decode prog_34_method_13_code 71 = .ok (.lreturn, 1) := by decide +kernel
theorem own_pn1 : plainName "com/example/touchmove/touchmove/board/Attacks" = true := by first | (simp [plainName, overriddenIn]; done) | decide +kernel
theorem own_ef_rm2 (m : MethodId) (x0 : Int64) : entryFrame m #[(.long x0)] 2 = mkF m 0 #[.val (.long x0), .second] [] := by first | (simp [entryFrame, mkF, argsToLocals, Value.category]; done) | rfl
def own_Q_rm2 (Z : State) (q : Int64) (h0 : Heap) (n0 : Nat) (v : Option Value) (h : Heap) (L : List Loc) : Prop := v = some (.long (own_steps q)) ∧ Fr n0 L ∧ h = h0
set_option maxRecDepth 65536 in
set_option maxHeartbeats 40000000 in
theorem rm2 (l : Launch) (Z : State) (a0 : Array Value) (hw : ∀ d ∈ tables_1, d.before a0 Z = true) (ws : List Jvm.Cond) (q : Int64) (h0 : Heap) (n0 : Nat) (Z0 : n0 ≤ h0.size) :
    MetFree l (⟨"com/example/touchmove/touchmove/board/Attacks", "knightSteps", "(J)J"⟩ : MethodName) (head1 (Jvm.Cond.code (⟨"com/example/touchmove/touchmove/board/Attacks", "knightSteps", "(J)J"⟩ : MethodName) prog_34_method_13_code 2 (some .long) :: ws) ({ frames := 0, cells := 0, slots := 0, locals := 0 } : Room)) (fun aa UU => aa = #[(.long q)] ∧ Z.Warmed39 UU.vm ∧ UU.heap = h0) (fun _ _ _ _ _ => True) (fun _ UU oo UU' => ∃ vv LL, oo = .returned vv ∧ own_Q_rm2 Z q h0 n0 vv UU'.heap LL ∧ FrameEnd UU oo UU' LL ({ frames := 0, cells := 0, slots := 0, locals := 0 } : Room).cells ({ frames := 0, cells := 0, slots := 0, locals := 0 } : Room).slots) := by
  refine MetFree.of_bodySF (plainFor_of_name own_pn1) hisR ?_
  intro p e s m args below meth c s₁ Bd hml0 hP hK
  obtain ⟨rfl, hZ, hh⟩ := hP
  have hx := Bd.exec
  have hby := Bd.bytes
  have hlk := Bd.notSynchronized
  have hml : c.maxLocals = 2 := hml0
  have hown : s.vm.findClass "com/example/touchmove/touchmove/board/Attacks" = some m.cls := findClass_of_methodNamed Bd.named
  have hnm := (name_of_methodNamed Bd.named Bd.method).1
  have X0 : Stand p l e ({ frames := 0, cells := 0, slots := 0, locals := 0 } : Room) s m #[(.long q)] below meth c s₁ [] 0 0 := Stand.of_body Bd
  have e0 : s₁.heap = h0 := by rw [← hh, Bd.state]; rfl
  have N0 := Fr.nil n0
  show own_G p.tables e below s (own_Q_rm2 Z q h0 n0) ({ frames := 0, cells := 0, slots := 0, locals := 0 } : Room).cells ({ frames := 0, cells := 0, slots := 0, locals := 0 } : Room).slots (s₁.setTop (entryFrame m #[(.long q)] 2))
  refine own_up (U' := s₁.setTop (mkF m 0 #[.val (.long q), .second] [])) ?_ (fun t k => castTop (own_ef_rm2 m q) k)
  refine own_up ?_ fun t k => XS.lloadN X0.here hx rfl (hb hby own_d2_0) rfl k
  show own_G p.tables e below s _ _ _ (s₁.setTop (mkF m 1 #[.val (.long q), .second] [(.long q)]))
  refine own_up ?_ fun t k => XS.bipush X0.here hx rfl (hb hby own_d2_1) k
  show own_G p.tables e below s _ _ _ (s₁.setTop (mkF m 3 #[.val (.long q), .second] [(.int (17 : Int32)), (.long q)]))
  refine own_up ?_ fun t k => XS.lshl X0.here hx rfl (hb hby own_d2_3) rfl k
  show own_G p.tables e below s _ _ _ (s₁.setTop (mkF m 4 #[.val (.long q), .second] [(.long (q <<< ((17 : Int32) &&& 0x3f).toInt64))]))
  refine own_up ?_ fun t k => X0.ldc2Long hx hown (mvT hZ (hw _ (List.mem_of_getElem? (i := 8) rfl))) (g := (mkF m 4 #[.val (.long q), .second] [(.long (q <<< ((17 : Int32) &&& 0x3f).toInt64))])) rfl (hb hby own_d2_4) _ k
  show own_G p.tables e below s _ _ _ (s₁.setTop (mkF m 7 #[.val (.long q), .second] [(.long (-72340172838076674 : Int64)), (.long (q <<< ((17 : Int32) &&& 0x3f).toInt64))]))
  refine own_up ?_ fun t k => XS.land X0.here hx rfl (hb hby own_d2_7) rfl k
  show own_G p.tables e below s _ _ _ (s₁.setTop (mkF m 8 #[.val (.long q), .second] [(.long ((q <<< ((17 : Int32) &&& 0x3f).toInt64) &&& (-72340172838076674 : Int64)))]))
  refine own_up ?_ fun t k => XS.lloadN X0.here hx rfl (hb hby own_d2_8) rfl k
  show own_G p.tables e below s _ _ _ (s₁.setTop (mkF m 9 #[.val (.long q), .second] [(.long q), (.long ((q <<< ((17 : Int32) &&& 0x3f).toInt64) &&& (-72340172838076674 : Int64)))]))
  refine own_up ?_ fun t k => XS.bipush X0.here hx rfl (hb hby own_d2_9) k
  show own_G p.tables e below s _ _ _ (s₁.setTop (mkF m 11 #[.val (.long q), .second] [(.int (15 : Int32)), (.long q), (.long ((q <<< ((17 : Int32) &&& 0x3f).toInt64) &&& (-72340172838076674 : Int64)))]))
  refine own_up ?_ fun t k => XS.lshl X0.here hx rfl (hb hby own_d2_11) rfl k
  show own_G p.tables e below s _ _ _ (s₁.setTop (mkF m 12 #[.val (.long q), .second] [(.long (q <<< ((15 : Int32) &&& 0x3f).toInt64)), (.long ((q <<< ((17 : Int32) &&& 0x3f).toInt64) &&& (-72340172838076674 : Int64)))]))
  refine own_up ?_ fun t k => X0.ldc2Long hx hown (mvT hZ (hw _ (List.mem_of_getElem? (i := 9) rfl))) (g := (mkF m 12 #[.val (.long q), .second] [(.long (q <<< ((15 : Int32) &&& 0x3f).toInt64)), (.long ((q <<< ((17 : Int32) &&& 0x3f).toInt64) &&& (-72340172838076674 : Int64)))])) rfl (hb hby own_d2_12) _ k
  show own_G p.tables e below s _ _ _ (s₁.setTop (mkF m 15 #[.val (.long q), .second] [(.long (9187201950435737471 : Int64)), (.long (q <<< ((15 : Int32) &&& 0x3f).toInt64)), (.long ((q <<< ((17 : Int32) &&& 0x3f).toInt64) &&& (-72340172838076674 : Int64)))]))
  refine own_up ?_ fun t k => XS.land X0.here hx rfl (hb hby own_d2_15) rfl k
  show own_G p.tables e below s _ _ _ (s₁.setTop (mkF m 16 #[.val (.long q), .second] [(.long ((q <<< ((15 : Int32) &&& 0x3f).toInt64) &&& (9187201950435737471 : Int64))), (.long ((q <<< ((17 : Int32) &&& 0x3f).toInt64) &&& (-72340172838076674 : Int64)))]))
  refine own_up ?_ fun t k => XS.lor X0.here hx rfl (hb hby own_d2_16) rfl k
  show own_G p.tables e below s _ _ _ (s₁.setTop (mkF m 17 #[.val (.long q), .second] [(.long (((q <<< ((17 : Int32) &&& 0x3f).toInt64) &&& (-72340172838076674 : Int64)) ||| ((q <<< ((15 : Int32) &&& 0x3f).toInt64) &&& (9187201950435737471 : Int64))))]))
  refine own_up ?_ fun t k => XS.lloadN X0.here hx rfl (hb hby own_d2_17) rfl k
  show own_G p.tables e below s _ _ _ (s₁.setTop (mkF m 18 #[.val (.long q), .second] [(.long q), (.long (((q <<< ((17 : Int32) &&& 0x3f).toInt64) &&& (-72340172838076674 : Int64)) ||| ((q <<< ((15 : Int32) &&& 0x3f).toInt64) &&& (9187201950435737471 : Int64))))]))
  refine own_up ?_ fun t k => XS.bipush X0.here hx rfl (hb hby own_d2_18) k
  show own_G p.tables e below s _ _ _ (s₁.setTop (mkF m 20 #[.val (.long q), .second] [(.int (10 : Int32)), (.long q), (.long (((q <<< ((17 : Int32) &&& 0x3f).toInt64) &&& (-72340172838076674 : Int64)) ||| ((q <<< ((15 : Int32) &&& 0x3f).toInt64) &&& (9187201950435737471 : Int64))))]))
  refine own_up ?_ fun t k => XS.lshl X0.here hx rfl (hb hby own_d2_20) rfl k
  show own_G p.tables e below s _ _ _ (s₁.setTop (mkF m 21 #[.val (.long q), .second] [(.long (q <<< ((10 : Int32) &&& 0x3f).toInt64)), (.long (((q <<< ((17 : Int32) &&& 0x3f).toInt64) &&& (-72340172838076674 : Int64)) ||| ((q <<< ((15 : Int32) &&& 0x3f).toInt64) &&& (9187201950435737471 : Int64))))]))
  refine own_up ?_ fun t k => X0.ldc2Long hx hown (mvT hZ (hw _ (List.mem_of_getElem? (i := 10) rfl))) (g := (mkF m 21 #[.val (.long q), .second] [(.long (q <<< ((10 : Int32) &&& 0x3f).toInt64)), (.long (((q <<< ((17 : Int32) &&& 0x3f).toInt64) &&& (-72340172838076674 : Int64)) ||| ((q <<< ((15 : Int32) &&& 0x3f).toInt64) &&& (9187201950435737471 : Int64))))])) rfl (hb hby own_d2_21) _ k
  show own_G p.tables e below s _ _ _ (s₁.setTop (mkF m 24 #[.val (.long q), .second] [(.long (-217020518514230020 : Int64)), (.long (q <<< ((10 : Int32) &&& 0x3f).toInt64)), (.long (((q <<< ((17 : Int32) &&& 0x3f).toInt64) &&& (-72340172838076674 : Int64)) ||| ((q <<< ((15 : Int32) &&& 0x3f).toInt64) &&& (9187201950435737471 : Int64))))]))
  refine own_up ?_ fun t k => XS.land X0.here hx rfl (hb hby own_d2_24) rfl k
  show own_G p.tables e below s _ _ _ (s₁.setTop (mkF m 25 #[.val (.long q), .second] [(.long ((q <<< ((10 : Int32) &&& 0x3f).toInt64) &&& (-217020518514230020 : Int64))), (.long (((q <<< ((17 : Int32) &&& 0x3f).toInt64) &&& (-72340172838076674 : Int64)) ||| ((q <<< ((15 : Int32) &&& 0x3f).toInt64) &&& (9187201950435737471 : Int64))))]))
  refine own_up ?_ fun t k => XS.lor X0.here hx rfl (hb hby own_d2_25) rfl k
  show own_G p.tables e below s _ _ _ (s₁.setTop (mkF m 26 #[.val (.long q), .second] [(.long ((((q <<< ((17 : Int32) &&& 0x3f).toInt64) &&& (-72340172838076674 : Int64)) ||| ((q <<< ((15 : Int32) &&& 0x3f).toInt64) &&& (9187201950435737471 : Int64))) ||| ((q <<< ((10 : Int32) &&& 0x3f).toInt64) &&& (-217020518514230020 : Int64))))]))
  refine own_up ?_ fun t k => XS.lloadN X0.here hx rfl (hb hby own_d2_26) rfl k
  show own_G p.tables e below s _ _ _ (s₁.setTop (mkF m 27 #[.val (.long q), .second] [(.long q), (.long ((((q <<< ((17 : Int32) &&& 0x3f).toInt64) &&& (-72340172838076674 : Int64)) ||| ((q <<< ((15 : Int32) &&& 0x3f).toInt64) &&& (9187201950435737471 : Int64))) ||| ((q <<< ((10 : Int32) &&& 0x3f).toInt64) &&& (-217020518514230020 : Int64))))]))
  refine own_up ?_ fun t k => XS.bipush X0.here hx rfl (hb hby own_d2_27) k
  show own_G p.tables e below s _ _ _ (s₁.setTop (mkF m 29 #[.val (.long q), .second] [(.int (6 : Int32)), (.long q), (.long ((((q <<< ((17 : Int32) &&& 0x3f).toInt64) &&& (-72340172838076674 : Int64)) ||| ((q <<< ((15 : Int32) &&& 0x3f).toInt64) &&& (9187201950435737471 : Int64))) ||| ((q <<< ((10 : Int32) &&& 0x3f).toInt64) &&& (-217020518514230020 : Int64))))]))
  refine own_up ?_ fun t k => XS.lshl X0.here hx rfl (hb hby own_d2_29) rfl k
  show own_G p.tables e below s _ _ _ (s₁.setTop (mkF m 30 #[.val (.long q), .second] [(.long (q <<< ((6 : Int32) &&& 0x3f).toInt64)), (.long ((((q <<< ((17 : Int32) &&& 0x3f).toInt64) &&& (-72340172838076674 : Int64)) ||| ((q <<< ((15 : Int32) &&& 0x3f).toInt64) &&& (9187201950435737471 : Int64))) ||| ((q <<< ((10 : Int32) &&& 0x3f).toInt64) &&& (-217020518514230020 : Int64))))]))
  refine own_up ?_ fun t k => X0.ldc2Long hx hown (mvT hZ (hw _ (List.mem_of_getElem? (i := 11) rfl))) (g := (mkF m 30 #[.val (.long q), .second] [(.long (q <<< ((6 : Int32) &&& 0x3f).toInt64)), (.long ((((q <<< ((17 : Int32) &&& 0x3f).toInt64) &&& (-72340172838076674 : Int64)) ||| ((q <<< ((15 : Int32) &&& 0x3f).toInt64) &&& (9187201950435737471 : Int64))) ||| ((q <<< ((10 : Int32) &&& 0x3f).toInt64) &&& (-217020518514230020 : Int64))))])) rfl (hb hby own_d2_30) _ k
  show own_G p.tables e below s _ _ _ (s₁.setTop (mkF m 33 #[.val (.long q), .second] [(.long (4557430888798830399 : Int64)), (.long (q <<< ((6 : Int32) &&& 0x3f).toInt64)), (.long ((((q <<< ((17 : Int32) &&& 0x3f).toInt64) &&& (-72340172838076674 : Int64)) ||| ((q <<< ((15 : Int32) &&& 0x3f).toInt64) &&& (9187201950435737471 : Int64))) ||| ((q <<< ((10 : Int32) &&& 0x3f).toInt64) &&& (-217020518514230020 : Int64))))]))
  refine own_up ?_ fun t k => XS.land X0.here hx rfl (hb hby own_d2_33) rfl k
  show own_G p.tables e below s _ _ _ (s₁.setTop (mkF m 34 #[.val (.long q), .second] [(.long ((q <<< ((6 : Int32) &&& 0x3f).toInt64) &&& (4557430888798830399 : Int64))), (.long ((((q <<< ((17 : Int32) &&& 0x3f).toInt64) &&& (-72340172838076674 : Int64)) ||| ((q <<< ((15 : Int32) &&& 0x3f).toInt64) &&& (9187201950435737471 : Int64))) ||| ((q <<< ((10 : Int32) &&& 0x3f).toInt64) &&& (-217020518514230020 : Int64))))]))
  refine own_up ?_ fun t k => XS.lor X0.here hx rfl (hb hby own_d2_34) rfl k
  show own_G p.tables e below s _ _ _ (s₁.setTop (mkF m 35 #[.val (.long q), .second] [(.long (((((q <<< ((17 : Int32) &&& 0x3f).toInt64) &&& (-72340172838076674 : Int64)) ||| ((q <<< ((15 : Int32) &&& 0x3f).toInt64) &&& (9187201950435737471 : Int64))) ||| ((q <<< ((10 : Int32) &&& 0x3f).toInt64) &&& (-217020518514230020 : Int64))) ||| ((q <<< ((6 : Int32) &&& 0x3f).toInt64) &&& (4557430888798830399 : Int64))))]))
  refine own_up ?_ fun t k => XS.lloadN X0.here hx rfl (hb hby own_d2_35) rfl k
  show own_G p.tables e below s _ _ _ (s₁.setTop (mkF m 36 #[.val (.long q), .second] [(.long q), (.long (((((q <<< ((17 : Int32) &&& 0x3f).toInt64) &&& (-72340172838076674 : Int64)) ||| ((q <<< ((15 : Int32) &&& 0x3f).toInt64) &&& (9187201950435737471 : Int64))) ||| ((q <<< ((10 : Int32) &&& 0x3f).toInt64) &&& (-217020518514230020 : Int64))) ||| ((q <<< ((6 : Int32) &&& 0x3f).toInt64) &&& (4557430888798830399 : Int64))))]))
  refine own_up ?_ fun t k => XS.bipush X0.here hx rfl (hb hby own_d2_36) k
  show own_G p.tables e below s _ _ _ (s₁.setTop (mkF m 38 #[.val (.long q), .second] [(.int (17 : Int32)), (.long q), (.long (((((q <<< ((17 : Int32) &&& 0x3f).toInt64) &&& (-72340172838076674 : Int64)) ||| ((q <<< ((15 : Int32) &&& 0x3f).toInt64) &&& (9187201950435737471 : Int64))) ||| ((q <<< ((10 : Int32) &&& 0x3f).toInt64) &&& (-217020518514230020 : Int64))) ||| ((q <<< ((6 : Int32) &&& 0x3f).toInt64) &&& (4557430888798830399 : Int64))))]))
  refine own_up ?_ fun t k => XS.lushr X0.here hx rfl (hb hby own_d2_38) rfl k
  show own_G p.tables e below s _ _ _ (s₁.setTop (mkF m 39 #[.val (.long q), .second] [(.long ((q.toUInt64 >>> ((17 : Int32) &&& 0x3f).toInt64.toUInt64).toInt64)), (.long (((((q <<< ((17 : Int32) &&& 0x3f).toInt64) &&& (-72340172838076674 : Int64)) ||| ((q <<< ((15 : Int32) &&& 0x3f).toInt64) &&& (9187201950435737471 : Int64))) ||| ((q <<< ((10 : Int32) &&& 0x3f).toInt64) &&& (-217020518514230020 : Int64))) ||| ((q <<< ((6 : Int32) &&& 0x3f).toInt64) &&& (4557430888798830399 : Int64))))]))
  refine own_up ?_ fun t k => X0.ldc2Long hx hown (mvT hZ (hw _ (List.mem_of_getElem? (i := 9) rfl))) (g := (mkF m 39 #[.val (.long q), .second] [(.long ((q.toUInt64 >>> ((17 : Int32) &&& 0x3f).toInt64.toUInt64).toInt64)), (.long (((((q <<< ((17 : Int32) &&& 0x3f).toInt64) &&& (-72340172838076674 : Int64)) ||| ((q <<< ((15 : Int32) &&& 0x3f).toInt64) &&& (9187201950435737471 : Int64))) ||| ((q <<< ((10 : Int32) &&& 0x3f).toInt64) &&& (-217020518514230020 : Int64))) ||| ((q <<< ((6 : Int32) &&& 0x3f).toInt64) &&& (4557430888798830399 : Int64))))])) rfl (hb hby own_d2_39) _ k
  show own_G p.tables e below s _ _ _ (s₁.setTop (mkF m 42 #[.val (.long q), .second] [(.long (9187201950435737471 : Int64)), (.long ((q.toUInt64 >>> ((17 : Int32) &&& 0x3f).toInt64.toUInt64).toInt64)), (.long (((((q <<< ((17 : Int32) &&& 0x3f).toInt64) &&& (-72340172838076674 : Int64)) ||| ((q <<< ((15 : Int32) &&& 0x3f).toInt64) &&& (9187201950435737471 : Int64))) ||| ((q <<< ((10 : Int32) &&& 0x3f).toInt64) &&& (-217020518514230020 : Int64))) ||| ((q <<< ((6 : Int32) &&& 0x3f).toInt64) &&& (4557430888798830399 : Int64))))]))
  refine own_up ?_ fun t k => XS.land X0.here hx rfl (hb hby own_d2_42) rfl k
  show own_G p.tables e below s _ _ _ (s₁.setTop (mkF m 43 #[.val (.long q), .second] [(.long (((q.toUInt64 >>> ((17 : Int32) &&& 0x3f).toInt64.toUInt64).toInt64) &&& (9187201950435737471 : Int64))), (.long (((((q <<< ((17 : Int32) &&& 0x3f).toInt64) &&& (-72340172838076674 : Int64)) ||| ((q <<< ((15 : Int32) &&& 0x3f).toInt64) &&& (9187201950435737471 : Int64))) ||| ((q <<< ((10 : Int32) &&& 0x3f).toInt64) &&& (-217020518514230020 : Int64))) ||| ((q <<< ((6 : Int32) &&& 0x3f).toInt64) &&& (4557430888798830399 : Int64))))]))
  refine own_up ?_ fun t k => XS.lor X0.here hx rfl (hb hby own_d2_43) rfl k
  show own_G p.tables e below s _ _ _ (s₁.setTop (mkF m 44 #[.val (.long q), .second] [(.long ((((((q <<< ((17 : Int32) &&& 0x3f).toInt64) &&& (-72340172838076674 : Int64)) ||| ((q <<< ((15 : Int32) &&& 0x3f).toInt64) &&& (9187201950435737471 : Int64))) ||| ((q <<< ((10 : Int32) &&& 0x3f).toInt64) &&& (-217020518514230020 : Int64))) ||| ((q <<< ((6 : Int32) &&& 0x3f).toInt64) &&& (4557430888798830399 : Int64))) ||| (((q.toUInt64 >>> ((17 : Int32) &&& 0x3f).toInt64.toUInt64).toInt64) &&& (9187201950435737471 : Int64))))]))
  refine own_up ?_ fun t k => XS.lloadN X0.here hx rfl (hb hby own_d2_44) rfl k
  show own_G p.tables e below s _ _ _ (s₁.setTop (mkF m 45 #[.val (.long q), .second] [(.long q), (.long ((((((q <<< ((17 : Int32) &&& 0x3f).toInt64) &&& (-72340172838076674 : Int64)) ||| ((q <<< ((15 : Int32) &&& 0x3f).toInt64) &&& (9187201950435737471 : Int64))) ||| ((q <<< ((10 : Int32) &&& 0x3f).toInt64) &&& (-217020518514230020 : Int64))) ||| ((q <<< ((6 : Int32) &&& 0x3f).toInt64) &&& (4557430888798830399 : Int64))) ||| (((q.toUInt64 >>> ((17 : Int32) &&& 0x3f).toInt64.toUInt64).toInt64) &&& (9187201950435737471 : Int64))))]))
  refine own_up ?_ fun t k => XS.bipush X0.here hx rfl (hb hby own_d2_45) k
  show own_G p.tables e below s _ _ _ (s₁.setTop (mkF m 47 #[.val (.long q), .second] [(.int (15 : Int32)), (.long q), (.long ((((((q <<< ((17 : Int32) &&& 0x3f).toInt64) &&& (-72340172838076674 : Int64)) ||| ((q <<< ((15 : Int32) &&& 0x3f).toInt64) &&& (9187201950435737471 : Int64))) ||| ((q <<< ((10 : Int32) &&& 0x3f).toInt64) &&& (-217020518514230020 : Int64))) ||| ((q <<< ((6 : Int32) &&& 0x3f).toInt64) &&& (4557430888798830399 : Int64))) ||| (((q.toUInt64 >>> ((17 : Int32) &&& 0x3f).toInt64.toUInt64).toInt64) &&& (9187201950435737471 : Int64))))]))
  refine own_up ?_ fun t k => XS.lushr X0.here hx rfl (hb hby own_d2_47) rfl k
  show own_G p.tables e below s _ _ _ (s₁.setTop (mkF m 48 #[.val (.long q), .second] [(.long ((q.toUInt64 >>> ((15 : Int32) &&& 0x3f).toInt64.toUInt64).toInt64)), (.long ((((((q <<< ((17 : Int32) &&& 0x3f).toInt64) &&& (-72340172838076674 : Int64)) ||| ((q <<< ((15 : Int32) &&& 0x3f).toInt64) &&& (9187201950435737471 : Int64))) ||| ((q <<< ((10 : Int32) &&& 0x3f).toInt64) &&& (-217020518514230020 : Int64))) ||| ((q <<< ((6 : Int32) &&& 0x3f).toInt64) &&& (4557430888798830399 : Int64))) ||| (((q.toUInt64 >>> ((17 : Int32) &&& 0x3f).toInt64.toUInt64).toInt64) &&& (9187201950435737471 : Int64))))]))
  refine own_up ?_ fun t k => X0.ldc2Long hx hown (mvT hZ (hw _ (List.mem_of_getElem? (i := 8) rfl))) (g := (mkF m 48 #[.val (.long q), .second] [(.long ((q.toUInt64 >>> ((15 : Int32) &&& 0x3f).toInt64.toUInt64).toInt64)), (.long ((((((q <<< ((17 : Int32) &&& 0x3f).toInt64) &&& (-72340172838076674 : Int64)) ||| ((q <<< ((15 : Int32) &&& 0x3f).toInt64) &&& (9187201950435737471 : Int64))) ||| ((q <<< ((10 : Int32) &&& 0x3f).toInt64) &&& (-217020518514230020 : Int64))) ||| ((q <<< ((6 : Int32) &&& 0x3f).toInt64) &&& (4557430888798830399 : Int64))) ||| (((q.toUInt64 >>> ((17 : Int32) &&& 0x3f).toInt64.toUInt64).toInt64) &&& (9187201950435737471 : Int64))))])) rfl (hb hby own_d2_48) _ k
  show own_G p.tables e below s _ _ _ (s₁.setTop (mkF m 51 #[.val (.long q), .second] [(.long (-72340172838076674 : Int64)), (.long ((q.toUInt64 >>> ((15 : Int32) &&& 0x3f).toInt64.toUInt64).toInt64)), (.long ((((((q <<< ((17 : Int32) &&& 0x3f).toInt64) &&& (-72340172838076674 : Int64)) ||| ((q <<< ((15 : Int32) &&& 0x3f).toInt64) &&& (9187201950435737471 : Int64))) ||| ((q <<< ((10 : Int32) &&& 0x3f).toInt64) &&& (-217020518514230020 : Int64))) ||| ((q <<< ((6 : Int32) &&& 0x3f).toInt64) &&& (4557430888798830399 : Int64))) ||| (((q.toUInt64 >>> ((17 : Int32) &&& 0x3f).toInt64.toUInt64).toInt64) &&& (9187201950435737471 : Int64))))]))
  refine own_up ?_ fun t k => XS.land X0.here hx rfl (hb hby own_d2_51) rfl k
  show own_G p.tables e below s _ _ _ (s₁.setTop (mkF m 52 #[.val (.long q), .second] [(.long (((q.toUInt64 >>> ((15 : Int32) &&& 0x3f).toInt64.toUInt64).toInt64) &&& (-72340172838076674 : Int64))), (.long ((((((q <<< ((17 : Int32) &&& 0x3f).toInt64) &&& (-72340172838076674 : Int64)) ||| ((q <<< ((15 : Int32) &&& 0x3f).toInt64) &&& (9187201950435737471 : Int64))) ||| ((q <<< ((10 : Int32) &&& 0x3f).toInt64) &&& (-217020518514230020 : Int64))) ||| ((q <<< ((6 : Int32) &&& 0x3f).toInt64) &&& (4557430888798830399 : Int64))) ||| (((q.toUInt64 >>> ((17 : Int32) &&& 0x3f).toInt64.toUInt64).toInt64) &&& (9187201950435737471 : Int64))))]))
  refine own_up ?_ fun t k => XS.lor X0.here hx rfl (hb hby own_d2_52) rfl k
  show own_G p.tables e below s _ _ _ (s₁.setTop (mkF m 53 #[.val (.long q), .second] [(.long (((((((q <<< ((17 : Int32) &&& 0x3f).toInt64) &&& (-72340172838076674 : Int64)) ||| ((q <<< ((15 : Int32) &&& 0x3f).toInt64) &&& (9187201950435737471 : Int64))) ||| ((q <<< ((10 : Int32) &&& 0x3f).toInt64) &&& (-217020518514230020 : Int64))) ||| ((q <<< ((6 : Int32) &&& 0x3f).toInt64) &&& (4557430888798830399 : Int64))) ||| (((q.toUInt64 >>> ((17 : Int32) &&& 0x3f).toInt64.toUInt64).toInt64) &&& (9187201950435737471 : Int64))) ||| (((q.toUInt64 >>> ((15 : Int32) &&& 0x3f).toInt64.toUInt64).toInt64) &&& (-72340172838076674 : Int64))))]))
  refine own_up ?_ fun t k => XS.lloadN X0.here hx rfl (hb hby own_d2_53) rfl k
  show own_G p.tables e below s _ _ _ (s₁.setTop (mkF m 54 #[.val (.long q), .second] [(.long q), (.long (((((((q <<< ((17 : Int32) &&& 0x3f).toInt64) &&& (-72340172838076674 : Int64)) ||| ((q <<< ((15 : Int32) &&& 0x3f).toInt64) &&& (9187201950435737471 : Int64))) ||| ((q <<< ((10 : Int32) &&& 0x3f).toInt64) &&& (-217020518514230020 : Int64))) ||| ((q <<< ((6 : Int32) &&& 0x3f).toInt64) &&& (4557430888798830399 : Int64))) ||| (((q.toUInt64 >>> ((17 : Int32) &&& 0x3f).toInt64.toUInt64).toInt64) &&& (9187201950435737471 : Int64))) ||| (((q.toUInt64 >>> ((15 : Int32) &&& 0x3f).toInt64.toUInt64).toInt64) &&& (-72340172838076674 : Int64))))]))
  refine own_up ?_ fun t k => XS.bipush X0.here hx rfl (hb hby own_d2_54) k
  show own_G p.tables e below s _ _ _ (s₁.setTop (mkF m 56 #[.val (.long q), .second] [(.int (10 : Int32)), (.long q), (.long (((((((q <<< ((17 : Int32) &&& 0x3f).toInt64) &&& (-72340172838076674 : Int64)) ||| ((q <<< ((15 : Int32) &&& 0x3f).toInt64) &&& (9187201950435737471 : Int64))) ||| ((q <<< ((10 : Int32) &&& 0x3f).toInt64) &&& (-217020518514230020 : Int64))) ||| ((q <<< ((6 : Int32) &&& 0x3f).toInt64) &&& (4557430888798830399 : Int64))) ||| (((q.toUInt64 >>> ((17 : Int32) &&& 0x3f).toInt64.toUInt64).toInt64) &&& (9187201950435737471 : Int64))) ||| (((q.toUInt64 >>> ((15 : Int32) &&& 0x3f).toInt64.toUInt64).toInt64) &&& (-72340172838076674 : Int64))))]))
  refine own_up ?_ fun t k => XS.lushr X0.here hx rfl (hb hby own_d2_56) rfl k
  show own_G p.tables e below s _ _ _ (s₁.setTop (mkF m 57 #[.val (.long q), .second] [(.long ((q.toUInt64 >>> ((10 : Int32) &&& 0x3f).toInt64.toUInt64).toInt64)), (.long (((((((q <<< ((17 : Int32) &&& 0x3f).toInt64) &&& (-72340172838076674 : Int64)) ||| ((q <<< ((15 : Int32) &&& 0x3f).toInt64) &&& (9187201950435737471 : Int64))) ||| ((q <<< ((10 : Int32) &&& 0x3f).toInt64) &&& (-217020518514230020 : Int64))) ||| ((q <<< ((6 : Int32) &&& 0x3f).toInt64) &&& (4557430888798830399 : Int64))) ||| (((q.toUInt64 >>> ((17 : Int32) &&& 0x3f).toInt64.toUInt64).toInt64) &&& (9187201950435737471 : Int64))) ||| (((q.toUInt64 >>> ((15 : Int32) &&& 0x3f).toInt64.toUInt64).toInt64) &&& (-72340172838076674 : Int64))))]))
  refine own_up ?_ fun t k => X0.ldc2Long hx hown (mvT hZ (hw _ (List.mem_of_getElem? (i := 11) rfl))) (g := (mkF m 57 #[.val (.long q), .second] [(.long ((q.toUInt64 >>> ((10 : Int32) &&& 0x3f).toInt64.toUInt64).toInt64)), (.long (((((((q <<< ((17 : Int32) &&& 0x3f).toInt64) &&& (-72340172838076674 : Int64)) ||| ((q <<< ((15 : Int32) &&& 0x3f).toInt64) &&& (9187201950435737471 : Int64))) ||| ((q <<< ((10 : Int32) &&& 0x3f).toInt64) &&& (-217020518514230020 : Int64))) ||| ((q <<< ((6 : Int32) &&& 0x3f).toInt64) &&& (4557430888798830399 : Int64))) ||| (((q.toUInt64 >>> ((17 : Int32) &&& 0x3f).toInt64.toUInt64).toInt64) &&& (9187201950435737471 : Int64))) ||| (((q.toUInt64 >>> ((15 : Int32) &&& 0x3f).toInt64.toUInt64).toInt64) &&& (-72340172838076674 : Int64))))])) rfl (hb hby own_d2_57) _ k
  show own_G p.tables e below s _ _ _ (s₁.setTop (mkF m 60 #[.val (.long q), .second] [(.long (4557430888798830399 : Int64)), (.long ((q.toUInt64 >>> ((10 : Int32) &&& 0x3f).toInt64.toUInt64).toInt64)), (.long (((((((q <<< ((17 : Int32) &&& 0x3f).toInt64) &&& (-72340172838076674 : Int64)) ||| ((q <<< ((15 : Int32) &&& 0x3f).toInt64) &&& (9187201950435737471 : Int64))) ||| ((q <<< ((10 : Int32) &&& 0x3f).toInt64) &&& (-217020518514230020 : Int64))) ||| ((q <<< ((6 : Int32) &&& 0x3f).toInt64) &&& (4557430888798830399 : Int64))) ||| (((q.toUInt64 >>> ((17 : Int32) &&& 0x3f).toInt64.toUInt64).toInt64) &&& (9187201950435737471 : Int64))) ||| (((q.toUInt64 >>> ((15 : Int32) &&& 0x3f).toInt64.toUInt64).toInt64) &&& (-72340172838076674 : Int64))))]))
  refine own_up ?_ fun t k => XS.land X0.here hx rfl (hb hby own_d2_60) rfl k
  show own_G p.tables e below s _ _ _ (s₁.setTop (mkF m 61 #[.val (.long q), .second] [(.long (((q.toUInt64 >>> ((10 : Int32) &&& 0x3f).toInt64.toUInt64).toInt64) &&& (4557430888798830399 : Int64))), (.long (((((((q <<< ((17 : Int32) &&& 0x3f).toInt64) &&& (-72340172838076674 : Int64)) ||| ((q <<< ((15 : Int32) &&& 0x3f).toInt64) &&& (9187201950435737471 : Int64))) ||| ((q <<< ((10 : Int32) &&& 0x3f).toInt64) &&& (-217020518514230020 : Int64))) ||| ((q <<< ((6 : Int32) &&& 0x3f).toInt64) &&& (4557430888798830399 : Int64))) ||| (((q.toUInt64 >>> ((17 : Int32) &&& 0x3f).toInt64.toUInt64).toInt64) &&& (9187201950435737471 : Int64))) ||| (((q.toUInt64 >>> ((15 : Int32) &&& 0x3f).toInt64.toUInt64).toInt64) &&& (-72340172838076674 : Int64))))]))
  refine own_up ?_ fun t k => XS.lor X0.here hx rfl (hb hby own_d2_61) rfl k
  show own_G p.tables e below s _ _ _ (s₁.setTop (mkF m 62 #[.val (.long q), .second] [(.long ((((((((q <<< ((17 : Int32) &&& 0x3f).toInt64) &&& (-72340172838076674 : Int64)) ||| ((q <<< ((15 : Int32) &&& 0x3f).toInt64) &&& (9187201950435737471 : Int64))) ||| ((q <<< ((10 : Int32) &&& 0x3f).toInt64) &&& (-217020518514230020 : Int64))) ||| ((q <<< ((6 : Int32) &&& 0x3f).toInt64) &&& (4557430888798830399 : Int64))) ||| (((q.toUInt64 >>> ((17 : Int32) &&& 0x3f).toInt64.toUInt64).toInt64) &&& (9187201950435737471 : Int64))) ||| (((q.toUInt64 >>> ((15 : Int32) &&& 0x3f).toInt64.toUInt64).toInt64) &&& (-72340172838076674 : Int64))) ||| (((q.toUInt64 >>> ((10 : Int32) &&& 0x3f).toInt64.toUInt64).toInt64) &&& (4557430888798830399 : Int64))))]))
  refine own_up ?_ fun t k => XS.lloadN X0.here hx rfl (hb hby own_d2_62) rfl k
  show own_G p.tables e below s _ _ _ (s₁.setTop (mkF m 63 #[.val (.long q), .second] [(.long q), (.long ((((((((q <<< ((17 : Int32) &&& 0x3f).toInt64) &&& (-72340172838076674 : Int64)) ||| ((q <<< ((15 : Int32) &&& 0x3f).toInt64) &&& (9187201950435737471 : Int64))) ||| ((q <<< ((10 : Int32) &&& 0x3f).toInt64) &&& (-217020518514230020 : Int64))) ||| ((q <<< ((6 : Int32) &&& 0x3f).toInt64) &&& (4557430888798830399 : Int64))) ||| (((q.toUInt64 >>> ((17 : Int32) &&& 0x3f).toInt64.toUInt64).toInt64) &&& (9187201950435737471 : Int64))) ||| (((q.toUInt64 >>> ((15 : Int32) &&& 0x3f).toInt64.toUInt64).toInt64) &&& (-72340172838076674 : Int64))) ||| (((q.toUInt64 >>> ((10 : Int32) &&& 0x3f).toInt64.toUInt64).toInt64) &&& (4557430888798830399 : Int64))))]))
  refine own_up ?_ fun t k => XS.bipush X0.here hx rfl (hb hby own_d2_63) k
  show own_G p.tables e below s _ _ _ (s₁.setTop (mkF m 65 #[.val (.long q), .second] [(.int (6 : Int32)), (.long q), (.long ((((((((q <<< ((17 : Int32) &&& 0x3f).toInt64) &&& (-72340172838076674 : Int64)) ||| ((q <<< ((15 : Int32) &&& 0x3f).toInt64) &&& (9187201950435737471 : Int64))) ||| ((q <<< ((10 : Int32) &&& 0x3f).toInt64) &&& (-217020518514230020 : Int64))) ||| ((q <<< ((6 : Int32) &&& 0x3f).toInt64) &&& (4557430888798830399 : Int64))) ||| (((q.toUInt64 >>> ((17 : Int32) &&& 0x3f).toInt64.toUInt64).toInt64) &&& (9187201950435737471 : Int64))) ||| (((q.toUInt64 >>> ((15 : Int32) &&& 0x3f).toInt64.toUInt64).toInt64) &&& (-72340172838076674 : Int64))) ||| (((q.toUInt64 >>> ((10 : Int32) &&& 0x3f).toInt64.toUInt64).toInt64) &&& (4557430888798830399 : Int64))))]))
  refine own_up ?_ fun t k => XS.lushr X0.here hx rfl (hb hby own_d2_65) rfl k
  show own_G p.tables e below s _ _ _ (s₁.setTop (mkF m 66 #[.val (.long q), .second] [(.long ((q.toUInt64 >>> ((6 : Int32) &&& 0x3f).toInt64.toUInt64).toInt64)), (.long ((((((((q <<< ((17 : Int32) &&& 0x3f).toInt64) &&& (-72340172838076674 : Int64)) ||| ((q <<< ((15 : Int32) &&& 0x3f).toInt64) &&& (9187201950435737471 : Int64))) ||| ((q <<< ((10 : Int32) &&& 0x3f).toInt64) &&& (-217020518514230020 : Int64))) ||| ((q <<< ((6 : Int32) &&& 0x3f).toInt64) &&& (4557430888798830399 : Int64))) ||| (((q.toUInt64 >>> ((17 : Int32) &&& 0x3f).toInt64.toUInt64).toInt64) &&& (9187201950435737471 : Int64))) ||| (((q.toUInt64 >>> ((15 : Int32) &&& 0x3f).toInt64.toUInt64).toInt64) &&& (-72340172838076674 : Int64))) ||| (((q.toUInt64 >>> ((10 : Int32) &&& 0x3f).toInt64.toUInt64).toInt64) &&& (4557430888798830399 : Int64))))]))
  refine own_up ?_ fun t k => X0.ldc2Long hx hown (mvT hZ (hw _ (List.mem_of_getElem? (i := 10) rfl))) (g := (mkF m 66 #[.val (.long q), .second] [(.long ((q.toUInt64 >>> ((6 : Int32) &&& 0x3f).toInt64.toUInt64).toInt64)), (.long ((((((((q <<< ((17 : Int32) &&& 0x3f).toInt64) &&& (-72340172838076674 : Int64)) ||| ((q <<< ((15 : Int32) &&& 0x3f).toInt64) &&& (9187201950435737471 : Int64))) ||| ((q <<< ((10 : Int32) &&& 0x3f).toInt64) &&& (-217020518514230020 : Int64))) ||| ((q <<< ((6 : Int32) &&& 0x3f).toInt64) &&& (4557430888798830399 : Int64))) ||| (((q.toUInt64 >>> ((17 : Int32) &&& 0x3f).toInt64.toUInt64).toInt64) &&& (9187201950435737471 : Int64))) ||| (((q.toUInt64 >>> ((15 : Int32) &&& 0x3f).toInt64.toUInt64).toInt64) &&& (-72340172838076674 : Int64))) ||| (((q.toUInt64 >>> ((10 : Int32) &&& 0x3f).toInt64.toUInt64).toInt64) &&& (4557430888798830399 : Int64))))])) rfl (hb hby own_d2_66) _ k
  show own_G p.tables e below s _ _ _ (s₁.setTop (mkF m 69 #[.val (.long q), .second] [(.long (-217020518514230020 : Int64)), (.long ((q.toUInt64 >>> ((6 : Int32) &&& 0x3f).toInt64.toUInt64).toInt64)), (.long ((((((((q <<< ((17 : Int32) &&& 0x3f).toInt64) &&& (-72340172838076674 : Int64)) ||| ((q <<< ((15 : Int32) &&& 0x3f).toInt64) &&& (9187201950435737471 : Int64))) ||| ((q <<< ((10 : Int32) &&& 0x3f).toInt64) &&& (-217020518514230020 : Int64))) ||| ((q <<< ((6 : Int32) &&& 0x3f).toInt64) &&& (4557430888798830399 : Int64))) ||| (((q.toUInt64 >>> ((17 : Int32) &&& 0x3f).toInt64.toUInt64).toInt64) &&& (9187201950435737471 : Int64))) ||| (((q.toUInt64 >>> ((15 : Int32) &&& 0x3f).toInt64.toUInt64).toInt64) &&& (-72340172838076674 : Int64))) ||| (((q.toUInt64 >>> ((10 : Int32) &&& 0x3f).toInt64.toUInt64).toInt64) &&& (4557430888798830399 : Int64))))]))
  refine own_up ?_ fun t k => XS.land X0.here hx rfl (hb hby own_d2_69) rfl k
  show own_G p.tables e below s _ _ _ (s₁.setTop (mkF m 70 #[.val (.long q), .second] [(.long (((q.toUInt64 >>> ((6 : Int32) &&& 0x3f).toInt64.toUInt64).toInt64) &&& (-217020518514230020 : Int64))), (.long ((((((((q <<< ((17 : Int32) &&& 0x3f).toInt64) &&& (-72340172838076674 : Int64)) ||| ((q <<< ((15 : Int32) &&& 0x3f).toInt64) &&& (9187201950435737471 : Int64))) ||| ((q <<< ((10 : Int32) &&& 0x3f).toInt64) &&& (-217020518514230020 : Int64))) ||| ((q <<< ((6 : Int32) &&& 0x3f).toInt64) &&& (4557430888798830399 : Int64))) ||| (((q.toUInt64 >>> ((17 : Int32) &&& 0x3f).toInt64.toUInt64).toInt64) &&& (9187201950435737471 : Int64))) ||| (((q.toUInt64 >>> ((15 : Int32) &&& 0x3f).toInt64.toUInt64).toInt64) &&& (-72340172838076674 : Int64))) ||| (((q.toUInt64 >>> ((10 : Int32) &&& 0x3f).toInt64.toUInt64).toInt64) &&& (4557430888798830399 : Int64))))]))
  refine own_up ?_ fun t k => XS.lor X0.here hx rfl (hb hby own_d2_70) rfl k
  show own_G p.tables e below s _ _ _ (s₁.setTop (mkF m 71 #[.val (.long q), .second] [(.long (((((((((q <<< ((17 : Int32) &&& 0x3f).toInt64) &&& (-72340172838076674 : Int64)) ||| ((q <<< ((15 : Int32) &&& 0x3f).toInt64) &&& (9187201950435737471 : Int64))) ||| ((q <<< ((10 : Int32) &&& 0x3f).toInt64) &&& (-217020518514230020 : Int64))) ||| ((q <<< ((6 : Int32) &&& 0x3f).toInt64) &&& (4557430888798830399 : Int64))) ||| (((q.toUInt64 >>> ((17 : Int32) &&& 0x3f).toInt64.toUInt64).toInt64) &&& (9187201950435737471 : Int64))) ||| (((q.toUInt64 >>> ((15 : Int32) &&& 0x3f).toInt64.toUInt64).toInt64) &&& (-72340172838076674 : Int64))) ||| (((q.toUInt64 >>> ((10 : Int32) &&& 0x3f).toInt64.toUInt64).toInt64) &&& (4557430888798830399 : Int64))) ||| (((q.toUInt64 >>> ((6 : Int32) &&& 0x3f).toInt64.toUInt64).toInt64) &&& (-217020518514230020 : Int64))))]))
  exact own_retJ X0 hx hlk Bd.returns (hb hby own_d2_71) ⟨rfl, N0, e0⟩ (by decide) (by decide)
theorem own_ef_rm0 (m : MethodId) (x0 : Int64) (x1 : Int32) : entryFrame m #[(.long x0), (.int x1)] maxLocals = mkF m 0 #[.val (.long x0), .second, .val (.int x1), .unset, .unset, .unset, .unset, .unset, .unset, .unset] [] := by first | (simp [entryFrame, mkF, argsToLocals, Value.category, maxLocals]; done) | rfl
def own_Q_rm0 (Z : State) (q : Int64) (tg : Int32) (h0 : Heap) (n0 : Nat) (v : Option Value) (h : Heap) (L : List Loc) : Prop := v = some (.int (1 : Int32)) ∧ Fr n0 L
set_option maxRecDepth 65536 in
set_option maxHeartbeats 40000000 in
theorem rm0 (l : Launch) (Z : State) (a0 : Array Value) (hw : ∀ d ∈ tables_1, d.before a0 Z = true) (ws : List Jvm.Cond) (q : Int64) (tg : Int32) (h0 : Heap) (n0 : Nat) (Z0 : n0 ≤ h0.size) :
    MetFree l x (head1 (Jvm.Cond.code x code maxLocals ret :: ws) room_1) (fun aa UU => aa = #[(.long q), (.int tg)] ∧ Z.Warmed39 UU.vm ∧ UU.heap = h0) (fun _ _ _ _ _ => True) (fun _ UU oo UU' => ∃ vv LL, oo = .returned vv ∧ own_Q_rm0 Z q tg h0 n0 vv UU'.heap LL ∧ FrameEnd UU oo UU' LL room_1.cells room_1.slots) := by
  refine MetFree.of_bodySF (plainFor_of_name own_pn0) hisR ?_
  intro p e s m args below meth c s₁ Bd hml0 hP hK
  obtain ⟨rfl, hZ, hh⟩ := hP
  have hx := Bd.exec
  have hby := Bd.bytes
  have hlk := Bd.notSynchronized
  have hml : c.maxLocals = 10 := hml0
  have hown : s.vm.findClass "com/example/touchmove/touchmove/board/AttacksKnightStepsPinLaw" = some m.cls := findClass_of_methodNamed Bd.named
  have hnm := (name_of_methodNamed Bd.named Bd.method).1
  have X0 : Stand p l e room_1 s m #[(.long q), (.int tg)] below meth c s₁ [] 0 0 := Stand.of_body Bd
  have e0 : s₁.heap = h0 := by rw [← hh, Bd.state]; rfl
  have N0 := Fr.nil n0
  show own_G p.tables e below s (own_Q_rm0 Z q tg h0 n0) room_1.cells room_1.slots (s₁.setTop (entryFrame m #[(.long q), (.int tg)] maxLocals))
  refine own_up (U' := s₁.setTop (mkF m 0 #[.val (.long q), .second, .val (.int tg), .unset, .unset, .unset, .unset, .unset, .unset, .unset] [])) ?_ (fun t k => castTop (own_ef_rm0 m q tg) k)
  refine own_up ?_ fun t k => XS.iloadN X0.here hx rfl (hb hby at_0) rfl k
  show own_G p.tables e below s _ _ _ (s₁.setTop (mkF m 1 #[.val (.long q), .second, .val (.int tg), .unset, .unset, .unset, .unset, .unset, .unset, .unset] [(.int tg)]))
  refine own_up ?_ fun t k => XS.bipush X0.here hx rfl (hb hby at_1) k
  show own_G p.tables e below s _ _ _ (s₁.setTop (mkF m 3 #[.val (.long q), .second, .val (.int tg), .unset, .unset, .unset, .unset, .unset, .unset, .unset] [(.int (63 : Int32)), (.int tg)]))
  refine own_up ?_ fun t k => XS.iand X0.here hx rfl (hb hby at_3) rfl k
  show own_G p.tables e below s _ _ _ (s₁.setTop (mkF m 4 #[.val (.long q), .second, .val (.int tg), .unset, .unset, .unset, .unset, .unset, .unset, .unset] [(.int (tg &&& (63 : Int32)))]))
  refine own_up ?_ fun t k => XS.istoreN X0.here hx rfl (hb hby at_4) rfl (l' := #[.val (.long q), .second, .val (.int tg), .val (.int (tg &&& (63 : Int32))), .unset, .unset, .unset, .unset, .unset, .unset]) rfl k
  show own_G p.tables e below s _ _ _ (s₁.setTop (mkF m 5 #[.val (.long q), .second, .val (.int tg), .val (.int (tg &&& (63 : Int32))), .unset, .unset, .unset, .unset, .unset, .unset] []))
  obtain ⟨tt, h_tt⟩ : ∃ z, z = (tg &&& (63 : Int32)) := ⟨_, rfl⟩
  rw [← h_tt]
  show own_G p.tables e below s _ _ _ (s₁.setTop (mkF m 5 #[.val (.long q), .second, .val (.int tg), .val (.int tt), .unset, .unset, .unset, .unset, .unset, .unset] []))
  refine own_up ?_ fun t k => XS.iloadN X0.here hx rfl (hb hby at_5) rfl k
  show own_G p.tables e below s _ _ _ (s₁.setTop (mkF m 6 #[.val (.long q), .second, .val (.int tg), .val (.int tt), .unset, .unset, .unset, .unset, .unset, .unset] [(.int tt)]))
  refine own_up ?_ fun t k => XS.bipush X0.here hx rfl (hb hby at_6) k
  show own_G p.tables e below s _ _ _ (s₁.setTop (mkF m 8 #[.val (.long q), .second, .val (.int tg), .val (.int tt), .unset, .unset, .unset, .unset, .unset, .unset] [(.int (7 : Int32)), (.int tt)]))
  refine own_up ?_ fun t k => XS.iand X0.here hx rfl (hb hby at_8) rfl k
  show own_G p.tables e below s _ _ _ (s₁.setTop (mkF m 9 #[.val (.long q), .second, .val (.int tg), .val (.int tt), .unset, .unset, .unset, .unset, .unset, .unset] [(.int (tt &&& (7 : Int32)))]))
  refine own_up ?_ fun t k => XS.istore X0.here hx rfl (hb hby at_9) rfl (l' := #[.val (.long q), .second, .val (.int tg), .val (.int tt), .val (.int (tt &&& (7 : Int32))), .unset, .unset, .unset, .unset, .unset]) rfl k
  show own_G p.tables e below s _ _ _ (s₁.setTop (mkF m 11 #[.val (.long q), .second, .val (.int tg), .val (.int tt), .val (.int (tt &&& (7 : Int32))), .unset, .unset, .unset, .unset, .unset] []))
  obtain ⟨f, h_f⟩ : ∃ z, z = (tt &&& (7 : Int32)) := ⟨_, rfl⟩
  rw [← h_f]
  show own_G p.tables e below s _ _ _ (s₁.setTop (mkF m 11 #[.val (.long q), .second, .val (.int tg), .val (.int tt), .val (.int f), .unset, .unset, .unset, .unset, .unset] []))
  refine own_up ?_ fun t k => XS.iloadN X0.here hx rfl (hb hby at_11) rfl k
  show own_G p.tables e below s _ _ _ (s₁.setTop (mkF m 12 #[.val (.long q), .second, .val (.int tg), .val (.int tt), .val (.int f), .unset, .unset, .unset, .unset, .unset] [(.int tt)]))
  refine own_up ?_ fun t k => XS.iconst X0.here hx rfl (hb hby at_12) k
  show own_G p.tables e below s _ _ _ (s₁.setTop (mkF m 13 #[.val (.long q), .second, .val (.int tg), .val (.int tt), .val (.int f), .unset, .unset, .unset, .unset, .unset] [(.int (3 : Int32)), (.int tt)]))
  refine own_up ?_ fun t k => XS.iushr X0.here hx rfl (hb hby at_13) rfl k
  show own_G p.tables e below s _ _ _ (s₁.setTop (mkF m 14 #[.val (.long q), .second, .val (.int tg), .val (.int tt), .val (.int f), .unset, .unset, .unset, .unset, .unset] [(.int ((tt.toUInt32 >>> ((3 : Int32) &&& 31).toUInt32).toInt32))]))
  refine own_up ?_ fun t k => XS.istore X0.here hx rfl (hb hby at_14) rfl (l' := #[.val (.long q), .second, .val (.int tg), .val (.int tt), .val (.int f), .val (.int ((tt.toUInt32 >>> ((3 : Int32) &&& 31).toUInt32).toInt32)), .unset, .unset, .unset, .unset]) rfl k
  show own_G p.tables e below s _ _ _ (s₁.setTop (mkF m 16 #[.val (.long q), .second, .val (.int tg), .val (.int tt), .val (.int f), .val (.int ((tt.toUInt32 >>> ((3 : Int32) &&& 31).toUInt32).toInt32)), .unset, .unset, .unset, .unset] []))
  obtain ⟨r, h_r⟩ : ∃ z, z = ((tt.toUInt32 >>> ((3 : Int32) &&& 31).toUInt32).toInt32) := ⟨_, rfl⟩
  rw [← h_r]
  show own_G p.tables e below s _ _ _ (s₁.setTop (mkF m 16 #[.val (.long q), .second, .val (.int tg), .val (.int tt), .val (.int f), .val (.int r), .unset, .unset, .unset, .unset] []))
  have J : ∀ (T : State) (locs : List Loc) (rj : Int32), Stand p l e room_1 s m #[(.long q), (.int tg)] below meth c T locs 0 0 → T.heap = h0 → Fr n0 locs → rj = own_exp q f r → own_G p.tables e below s (own_Q_rm0 Z q tg h0 n0) room_1.cells room_1.slots (T.setTop (mkF m 141 #[.val (.long q), .second, .val (.int tg), .val (.int tt), .val (.int f), .val (.int r), .unset, .unset, .unset, .unset] [(.int rj)])) := by
    intro TJ locs rj XJ eJ NJ hrj
    refine own_up ?_ fun t k => XS.istore XJ.here hx rfl (hb hby at_141) rfl (l' := #[.val (.long q), .second, .val (.int tg), .val (.int tt), .val (.int f), .val (.int r), .val (.int rj), .unset, .unset, .unset]) rfl k
    show own_G p.tables e below s _ _ _ (TJ.setTop (mkF m 143 #[.val (.long q), .second, .val (.int tg), .val (.int tt), .val (.int f), .val (.int r), .val (.int rj), .unset, .unset, .unset] []))
    refine own_up ?_ fun t k => XS.lloadN XJ.here hx rfl (hb hby at_143) rfl k
    show own_G p.tables e below s _ _ _ (TJ.setTop (mkF m 144 #[.val (.long q), .second, .val (.int tg), .val (.int tt), .val (.int f), .val (.int r), .val (.int rj), .unset, .unset, .unset] [(.long q)]))
    obtain ⟨_, _, ⟨T6, L6, k6, n6⟩, -, X6, ⟨Lc6, hQ6, l6, y6, z6⟩, st6⟩ := Jvm.LawKit.callS XJ hx (y := (⟨"com/example/touchmove/touchmove/board/Attacks", "knightSteps", "(J)J"⟩ : MethodName)) hown (mvT hZ (hw _ (List.mem_of_getElem? (i := 4) rfl))) (mvT hZ (hw _ (List.mem_of_getElem? (i := 5) rfl))) (mvT hZ (hw _ (List.mem_of_getElem? (i := 6) rfl))) (mvT hZ (hw _ (List.mem_of_getElem? (i := 7) rfl))) (by decide) (backOf (W := 0) (rm2 l Z a0 hw [] q  h0 n0 Z0 ) hZ (hw _ (List.mem_of_getElem? (i := 7) rfl)) (hw _ (List.mem_of_getElem? (i := 6) rfl)) (by decide) (by decide)) (g := (mkF m 144 #[.val (.long q), .second, .val (.int tg), .val (.int tt), .val (.int f), .val (.int r), .val (.int rj), .unset, .unset, .unset] [(.long q)])) rfl (by rw [hml]; rfl) (argsL := [(.long q)]) (rest := []) (lenOf own_pd0 rfl) rfl (by show 2 * 0 + _ ≤ _; exact Nat.le_of_eq rfl) (hb hby at_144) (fun _ _ => ⟨rfl, eJ, (by decide : 0 + 0 ≤ _), (by decide : 0 + 0 ≤ _)⟩)
    dsimp only [Pt.U, Pt.locs, Pt.cells, Pt.slots] at X6 l6 y6 z6 st6 hQ6
    subst l6 y6 z6
    obtain ⟨rfl, Nq6, e6⟩ := hQ6
    have N6 := Fr.app NJ Nq6
    refine own_up ?_ (st6)
    show own_G p.tables e below s _ _ _ (T6.setTop (mkF m 147 #[.val (.long q), .second, .val (.int tg), .val (.int tt), .val (.int f), .val (.int r), .val (.int rj), .unset, .unset, .unset] [(.long (own_steps q))]))
    refine own_up ?_ fun t k => XS.lstore X6.here hx rfl (hb hby at_147) rfl (l' := #[.val (.long q), .second, .val (.int tg), .val (.int tt), .val (.int f), .val (.int r), .val (.int rj), .val (.long (own_steps q)), .second, .unset]) rfl k
    show own_G p.tables e below s _ _ _ (T6.setTop (mkF m 149 #[.val (.long q), .second, .val (.int tg), .val (.int tt), .val (.int f), .val (.int r), .val (.int rj), .val (.long (own_steps q)), .second, .unset] []))
    refine own_up ?_ fun t k => XS.lload X6.here hx rfl (hb hby at_149) rfl k
    show own_G p.tables e below s _ _ _ (T6.setTop (mkF m 151 #[.val (.long q), .second, .val (.int tg), .val (.int tt), .val (.int f), .val (.int r), .val (.int rj), .val (.long (own_steps q)), .second, .unset] [(.long (own_steps q))]))
    refine own_up ?_ fun t k => XS.iloadN X6.here hx rfl (hb hby at_151) rfl k
    show own_G p.tables e below s _ _ _ (T6.setTop (mkF m 152 #[.val (.long q), .second, .val (.int tg), .val (.int tt), .val (.int f), .val (.int r), .val (.int rj), .val (.long (own_steps q)), .second, .unset] [(.int tt), (.long (own_steps q))]))
    refine own_up ?_ fun t k => XS.lushr X6.here hx rfl (hb hby at_152) rfl k
    show own_G p.tables e below s _ _ _ (T6.setTop (mkF m 153 #[.val (.long q), .second, .val (.int tg), .val (.int tt), .val (.int f), .val (.int r), .val (.int rj), .val (.long (own_steps q)), .second, .unset] [(.long (((own_steps q).toUInt64 >>> (tt &&& 0x3f).toInt64.toUInt64).toInt64))]))
    refine own_up ?_ fun t k => XS.lconst X6.here hx rfl (hb hby at_153) k
    show own_G p.tables e below s _ _ _ (T6.setTop (mkF m 154 #[.val (.long q), .second, .val (.int tg), .val (.int tt), .val (.int f), .val (.int r), .val (.int rj), .val (.long (own_steps q)), .second, .unset] [(.long (1 : Int64)), (.long (((own_steps q).toUInt64 >>> (tt &&& 0x3f).toInt64.toUInt64).toInt64))]))
    refine own_up ?_ fun t k => XS.land X6.here hx rfl (hb hby at_154) rfl k
    show own_G p.tables e below s _ _ _ (T6.setTop (mkF m 155 #[.val (.long q), .second, .val (.int tg), .val (.int tt), .val (.int f), .val (.int r), .val (.int rj), .val (.long (own_steps q)), .second, .unset] [(.long ((((own_steps q).toUInt64 >>> (tt &&& 0x3f).toInt64.toUInt64).toInt64) &&& (1 : Int64)))]))
    refine own_up ?_ fun t k => XS.lconst X6.here hx rfl (hb hby at_155) k
    show own_G p.tables e below s _ _ _ (T6.setTop (mkF m 156 #[.val (.long q), .second, .val (.int tg), .val (.int tt), .val (.int f), .val (.int r), .val (.int rj), .val (.long (own_steps q)), .second, .unset] [(.long (0 : Int64)), (.long ((((own_steps q).toUInt64 >>> (tt &&& 0x3f).toInt64.toUInt64).toInt64) &&& (1 : Int64)))]))
    refine own_up ?_ fun t k => XS.lcmp X6.here hx rfl (hb hby at_156) rfl k
    show own_G p.tables e below s _ _ _ (T6.setTop (mkF m 157 #[.val (.long q), .second, .val (.int tg), .val (.int tt), .val (.int f), .val (.int r), .val (.int rj), .val (.long (own_steps q)), .second, .unset] [(.int (lcmpW ((((own_steps q).toUInt64 >>> (tt &&& 0x3f).toInt64.toUInt64).toInt64) &&& (1 : Int64)) (0 : Int64)))]))
    have dm8 : ∀ t, Steps p.tables e below (T6.setTop (mkF m 165 #[.val (.long q), .second, .val (.int tg), .val (.int tt), .val (.int f), .val (.int r), .val (.int rj), .val (.long (own_steps q)), .second, .unset] [(.int (if ((((own_steps q).toUInt64 >>> (tt &&& 0x3f).toInt64.toUInt64).toInt64) &&& (1 : Int64)) = (0 : Int64) then (0 : Int32) else (1 : Int32)))])) t → Steps p.tables e below (T6.setTop (mkF m 157 #[.val (.long q), .second, .val (.int tg), .val (.int tt), .val (.int f), .val (.int r), .val (.int rj), .val (.long (own_steps q)), .second, .unset] [(.int (lcmpW ((((own_steps q).toUInt64 >>> (tt &&& 0x3f).toInt64.toUInt64).toInt64) &&& (1 : Int64)) (0 : Int64)))])) t := by
      intro t k
      by_cases hc157_7 : ((((own_steps q).toUInt64 >>> (tt &&& 0x3f).toInt64.toUInt64).toInt64) &&& (1 : Int64)) = (0 : Int64)
      · refine XS.ifYes X6.here hx rfl (pc0 := 157) (pc' := 164) rfl (hb hby at_157) rfl ((if0 _ _).trans (teq ((lw_eq _ _).mpr hc157_7)).1) (by decide) (by decide) ?_
        show Steps p.tables e below (T6.setTop (mkF m 164 #[.val (.long q), .second, .val (.int tg), .val (.int tt), .val (.int f), .val (.int r), .val (.int rj), .val (.long (own_steps q)), .second, .unset] [])) t
        refine XS.iconst X6.here hx rfl (hb hby at_164) ?_
        show Steps p.tables e below (T6.setTop (mkF m 165 #[.val (.long q), .second, .val (.int tg), .val (.int tt), .val (.int f), .val (.int r), .val (.int rj), .val (.long (own_steps q)), .second, .unset] [(.int (0 : Int32))])) t
        simp only [if_pos hc157_7] at k
        exact k
      · refine XS.ifNo X6.here hx rfl (hb hby at_157) rfl ((if0 _ _).trans (feq (fun q => hc157_7 ((lw_eq _ _).mp q))).1) ?_
        show Steps p.tables e below (T6.setTop (mkF m 160 #[.val (.long q), .second, .val (.int tg), .val (.int tt), .val (.int f), .val (.int r), .val (.int rj), .val (.long (own_steps q)), .second, .unset] [])) t
        refine XS.iconst X6.here hx rfl (hb hby at_160) ?_
        show Steps p.tables e below (T6.setTop (mkF m 161 #[.val (.long q), .second, .val (.int tg), .val (.int tt), .val (.int f), .val (.int r), .val (.int rj), .val (.long (own_steps q)), .second, .unset] [(.int (1 : Int32))])) t
        refine XS.goto X6.here hx rfl (pc0 := 161) (pc' := 165) rfl (hb hby at_161) (by decide) (by decide) ?_
        show Steps p.tables e below (T6.setTop (mkF m 165 #[.val (.long q), .second, .val (.int tg), .val (.int tt), .val (.int f), .val (.int r), .val (.int rj), .val (.long (own_steps q)), .second, .unset] [(.int (1 : Int32))])) t
        simp only [if_neg hc157_7] at k
        exact k
    refine own_up ?_ dm8
    show own_G p.tables e below s _ _ _ (T6.setTop (mkF m 165 #[.val (.long q), .second, .val (.int tg), .val (.int tt), .val (.int f), .val (.int r), .val (.int rj), .val (.long (own_steps q)), .second, .unset] [(.int (if ((((own_steps q).toUInt64 >>> (tt &&& 0x3f).toInt64.toUInt64).toInt64) &&& (1 : Int64)) = (0 : Int64) then (0 : Int32) else (1 : Int32)))]))
    refine own_up ?_ fun t k => XS.istore X6.here hx rfl (hb hby at_165) rfl (l' := #[.val (.long q), .second, .val (.int tg), .val (.int tt), .val (.int f), .val (.int r), .val (.int rj), .val (.long (own_steps q)), .second, .val (.int (if ((((own_steps q).toUInt64 >>> (tt &&& 0x3f).toInt64.toUInt64).toInt64) &&& (1 : Int64)) = (0 : Int64) then (0 : Int32) else (1 : Int32)))]) rfl k
    show own_G p.tables e below s _ _ _ (T6.setTop (mkF m 167 #[.val (.long q), .second, .val (.int tg), .val (.int tt), .val (.int f), .val (.int r), .val (.int rj), .val (.long (own_steps q)), .second, .val (.int (if ((((own_steps q).toUInt64 >>> (tt &&& 0x3f).toInt64.toUInt64).toInt64) &&& (1 : Int64)) = (0 : Int64) then (0 : Int32) else (1 : Int32)))] []))
    refine own_up ?_ fun t k => XS.iload X6.here hx rfl (hb hby at_167) rfl k
    show own_G p.tables e below s _ _ _ (T6.setTop (mkF m 169 #[.val (.long q), .second, .val (.int tg), .val (.int tt), .val (.int f), .val (.int r), .val (.int rj), .val (.long (own_steps q)), .second, .val (.int (if ((((own_steps q).toUInt64 >>> (tt &&& 0x3f).toInt64.toUInt64).toInt64) &&& (1 : Int64)) = (0 : Int64) then (0 : Int32) else (1 : Int32)))] [(.int (if ((((own_steps q).toUInt64 >>> (tt &&& 0x3f).toInt64.toUInt64).toInt64) &&& (1 : Int64)) = (0 : Int64) then (0 : Int32) else (1 : Int32)))]))
    refine own_up ?_ fun t k => XS.iload X6.here hx rfl (hb hby at_169) rfl k
    show own_G p.tables e below s _ _ _ (T6.setTop (mkF m 171 #[.val (.long q), .second, .val (.int tg), .val (.int tt), .val (.int f), .val (.int r), .val (.int rj), .val (.long (own_steps q)), .second, .val (.int (if ((((own_steps q).toUInt64 >>> (tt &&& 0x3f).toInt64.toUInt64).toInt64) &&& (1 : Int64)) = (0 : Int64) then (0 : Int32) else (1 : Int32)))] [(.int rj), (.int (if ((((own_steps q).toUInt64 >>> (tt &&& 0x3f).toInt64.toUInt64).toInt64) &&& (1 : Int64)) = (0 : Int64) then (0 : Int32) else (1 : Int32)))]))
    refine own_up ?_ fun t k => XS.icmpNo X6.here hx rfl (hb hby at_171) rfl (teq ((own_law q tg tt f r h_tt h_f h_r).trans hrj.symm : ((if ((((own_steps q).toUInt64 >>> (tt &&& 0x3f).toInt64.toUInt64).toInt64) &&& (1 : Int64)) = (0 : Int64) then (0 : Int32) else (1 : Int32)) = rj))).2 k
    show own_G p.tables e below s _ _ _ (T6.setTop (mkF m 174 #[.val (.long q), .second, .val (.int tg), .val (.int tt), .val (.int f), .val (.int r), .val (.int rj), .val (.long (own_steps q)), .second, .val (.int (if ((((own_steps q).toUInt64 >>> (tt &&& 0x3f).toInt64.toUInt64).toInt64) &&& (1 : Int64)) = (0 : Int64) then (0 : Int32) else (1 : Int32)))] []))
    refine own_up ?_ fun t k => XS.iconst X6.here hx rfl (hb hby at_174) k
    show own_G p.tables e below s _ _ _ (T6.setTop (mkF m 175 #[.val (.long q), .second, .val (.int tg), .val (.int tt), .val (.int f), .val (.int r), .val (.int rj), .val (.long (own_steps q)), .second, .val (.int (if ((((own_steps q).toUInt64 >>> (tt &&& 0x3f).toInt64.toUInt64).toInt64) &&& (1 : Int64)) = (0 : Int64) then (0 : Int32) else (1 : Int32)))] [(.int (1 : Int32))]))
    refine own_up ?_ fun t k => XS.goto X6.here hx rfl (pc0 := 175) (pc' := 179) rfl (hb hby at_175) (by decide) (by decide) k
    show own_G p.tables e below s _ _ _ (T6.setTop (mkF m 179 #[.val (.long q), .second, .val (.int tg), .val (.int tt), .val (.int f), .val (.int r), .val (.int rj), .val (.long (own_steps q)), .second, .val (.int (if ((((own_steps q).toUInt64 >>> (tt &&& 0x3f).toInt64.toUInt64).toInt64) &&& (1 : Int64)) = (0 : Int64) then (0 : Int32) else (1 : Int32)))] [(.int (1 : Int32))]))
    exact own_retI X6 hx hlk Bd.returns (by simp) rfl (hb hby at_179) ⟨rfl, N6⟩ (by decide) (by decide)
  refine own_up ?_ fun t k => XS.lloadN X0.here hx rfl (hb hby at_16) rfl k
  show own_G p.tables e below s _ _ _ (s₁.setTop (mkF m 17 #[.val (.long q), .second, .val (.int tg), .val (.int tt), .val (.int f), .val (.int r), .unset, .unset, .unset, .unset] [(.long q)]))
  refine own_up ?_ fun t k => XS.iload X0.here hx rfl (hb hby at_17) rfl k
  show own_G p.tables e below s _ _ _ (s₁.setTop (mkF m 19 #[.val (.long q), .second, .val (.int tg), .val (.int tt), .val (.int f), .val (.int r), .unset, .unset, .unset, .unset] [(.int f), (.long q)]))
  refine own_up ?_ fun t k => XS.iconst X0.here hx rfl (hb hby at_19) k
  show own_G p.tables e below s _ _ _ (s₁.setTop (mkF m 20 #[.val (.long q), .second, .val (.int tg), .val (.int tt), .val (.int f), .val (.int r), .unset, .unset, .unset, .unset] [(.int (1 : Int32)), (.int f), (.long q)]))
  refine own_up ?_ fun t k => XS.iadd X0.here hx rfl (hb hby at_20) rfl k
  show own_G p.tables e below s _ _ _ (s₁.setTop (mkF m 21 #[.val (.long q), .second, .val (.int tg), .val (.int tt), .val (.int f), .val (.int r), .unset, .unset, .unset, .unset] [(.int (f + (1 : Int32))), (.long q)]))
  refine own_up ?_ fun t k => XS.iload X0.here hx rfl (hb hby at_21) rfl k
  show own_G p.tables e below s _ _ _ (s₁.setTop (mkF m 23 #[.val (.long q), .second, .val (.int tg), .val (.int tt), .val (.int f), .val (.int r), .unset, .unset, .unset, .unset] [(.int r), (.int (f + (1 : Int32))), (.long q)]))
  refine own_up ?_ fun t k => XS.iconst X0.here hx rfl (hb hby at_23) k
  show own_G p.tables e below s _ _ _ (s₁.setTop (mkF m 24 #[.val (.long q), .second, .val (.int tg), .val (.int tt), .val (.int f), .val (.int r), .unset, .unset, .unset, .unset] [(.int (2 : Int32)), (.int r), (.int (f + (1 : Int32))), (.long q)]))
  refine own_up ?_ fun t k => XS.iadd X0.here hx rfl (hb hby at_24) rfl k
  show own_G p.tables e below s _ _ _ (s₁.setTop (mkF m 25 #[.val (.long q), .second, .val (.int tg), .val (.int tt), .val (.int f), .val (.int r), .unset, .unset, .unset, .unset] [(.int (r + (2 : Int32))), (.int (f + (1 : Int32))), (.long q)]))
  obtain ⟨_, _, ⟨T9, L9, k9, n9⟩, -, X9, ⟨Lc9, hQ9, l9, y9, z9⟩, st9⟩ := Jvm.LawKit.callS X0 hx (y := (⟨"com/example/touchmove/touchmove/board/AttacksKnightStepsPinLaw", "has", "(JII)Z"⟩ : MethodName)) hown (mvT hZ (hw _ (List.mem_of_getElem? (i := 0) rfl))) (mvT hZ (hw _ (List.mem_of_getElem? (i := 1) rfl))) (mvT hZ (hw _ (List.mem_of_getElem? (i := 2) rfl))) (mvT hZ (hw _ (List.mem_of_getElem? (i := 3) rfl))) (by decide) (backOf (W := 0) (rm1 l Z a0 hw [] q (f + (1 : Int32)) (r + (2 : Int32))  h0 n0 Z0 ) hZ (hw _ (List.mem_of_getElem? (i := 3) rfl)) (hw _ (List.mem_of_getElem? (i := 2) rfl)) (by decide) (by decide)) (g := (mkF m 25 #[.val (.long q), .second, .val (.int tg), .val (.int tt), .val (.int f), .val (.int r), .unset, .unset, .unset, .unset] [(.int (r + (2 : Int32))), (.int (f + (1 : Int32))), (.long q)])) rfl (by rw [hml]; rfl) (argsL := [(.long q), (.int (f + (1 : Int32))), (.int (r + (2 : Int32)))]) (rest := []) (lenOf own_pd1 rfl) rfl (by show 2 * 0 + _ ≤ _; exact Nat.le_of_eq rfl) (hb hby at_25) (fun _ _ => ⟨rfl, e0, (by decide : 0 + 0 ≤ _), (by decide : 0 + 0 ≤ _)⟩)
  dsimp only [Pt.U, Pt.locs, Pt.cells, Pt.slots] at X9 l9 y9 z9 st9 hQ9
  subst l9 y9 z9
  obtain ⟨rfl, Nq9, e9⟩ := hQ9
  have N9 := Fr.app N0 Nq9
  refine own_up ?_ (st9)
  show own_G p.tables e below s _ _ _ (T9.setTop (mkF m 28 #[.val (.long q), .second, .val (.int tg), .val (.int tt), .val (.int f), .val (.int r), .unset, .unset, .unset, .unset] [(.int (own_has q (f + (1 : Int32)) (r + (2 : Int32))))]))
  by_cases hc28_10 : (own_has q (f + (1 : Int32)) (r + (2 : Int32))) = (0 : Int32)
  · refine own_up ?_ fun t k => XS.ifNo X9.here hx rfl (hb hby at_28) rfl ((if0 _ _).trans (teq hc28_10).2) k
    show own_G p.tables e below s _ _ _ (T9.setTop (mkF m 31 #[.val (.long q), .second, .val (.int tg), .val (.int tt), .val (.int f), .val (.int r), .unset, .unset, .unset, .unset] []))
    refine own_up ?_ fun t k => XS.lloadN X9.here hx rfl (hb hby at_31) rfl k
    show own_G p.tables e below s _ _ _ (T9.setTop (mkF m 32 #[.val (.long q), .second, .val (.int tg), .val (.int tt), .val (.int f), .val (.int r), .unset, .unset, .unset, .unset] [(.long q)]))
    refine own_up ?_ fun t k => XS.iload X9.here hx rfl (hb hby at_32) rfl k
    show own_G p.tables e below s _ _ _ (T9.setTop (mkF m 34 #[.val (.long q), .second, .val (.int tg), .val (.int tt), .val (.int f), .val (.int r), .unset, .unset, .unset, .unset] [(.int f), (.long q)]))
    refine own_up ?_ fun t k => XS.iconst X9.here hx rfl (hb hby at_34) k
    show own_G p.tables e below s _ _ _ (T9.setTop (mkF m 35 #[.val (.long q), .second, .val (.int tg), .val (.int tt), .val (.int f), .val (.int r), .unset, .unset, .unset, .unset] [(.int (2 : Int32)), (.int f), (.long q)]))
    refine own_up ?_ fun t k => XS.iadd X9.here hx rfl (hb hby at_35) rfl k
    show own_G p.tables e below s _ _ _ (T9.setTop (mkF m 36 #[.val (.long q), .second, .val (.int tg), .val (.int tt), .val (.int f), .val (.int r), .unset, .unset, .unset, .unset] [(.int (f + (2 : Int32))), (.long q)]))
    refine own_up ?_ fun t k => XS.iload X9.here hx rfl (hb hby at_36) rfl k
    show own_G p.tables e below s _ _ _ (T9.setTop (mkF m 38 #[.val (.long q), .second, .val (.int tg), .val (.int tt), .val (.int f), .val (.int r), .unset, .unset, .unset, .unset] [(.int r), (.int (f + (2 : Int32))), (.long q)]))
    refine own_up ?_ fun t k => XS.iconst X9.here hx rfl (hb hby at_38) k
    show own_G p.tables e below s _ _ _ (T9.setTop (mkF m 39 #[.val (.long q), .second, .val (.int tg), .val (.int tt), .val (.int f), .val (.int r), .unset, .unset, .unset, .unset] [(.int (1 : Int32)), (.int r), (.int (f + (2 : Int32))), (.long q)]))
    refine own_up ?_ fun t k => XS.iadd X9.here hx rfl (hb hby at_39) rfl k
    show own_G p.tables e below s _ _ _ (T9.setTop (mkF m 40 #[.val (.long q), .second, .val (.int tg), .val (.int tt), .val (.int f), .val (.int r), .unset, .unset, .unset, .unset] [(.int (r + (1 : Int32))), (.int (f + (2 : Int32))), (.long q)]))
    obtain ⟨_, _, ⟨T11, L11, k11, n11⟩, -, X11, ⟨Lc11, hQ11, l11, y11, z11⟩, st11⟩ := Jvm.LawKit.callS X9 hx (y := (⟨"com/example/touchmove/touchmove/board/AttacksKnightStepsPinLaw", "has", "(JII)Z"⟩ : MethodName)) hown (mvT hZ (hw _ (List.mem_of_getElem? (i := 0) rfl))) (mvT hZ (hw _ (List.mem_of_getElem? (i := 1) rfl))) (mvT hZ (hw _ (List.mem_of_getElem? (i := 2) rfl))) (mvT hZ (hw _ (List.mem_of_getElem? (i := 3) rfl))) (by decide) (backOf (W := 0) (rm1 l Z a0 hw [] q (f + (2 : Int32)) (r + (1 : Int32))  h0 n0 Z0 ) hZ (hw _ (List.mem_of_getElem? (i := 3) rfl)) (hw _ (List.mem_of_getElem? (i := 2) rfl)) (by decide) (by decide)) (g := (mkF m 40 #[.val (.long q), .second, .val (.int tg), .val (.int tt), .val (.int f), .val (.int r), .unset, .unset, .unset, .unset] [(.int (r + (1 : Int32))), (.int (f + (2 : Int32))), (.long q)])) rfl (by rw [hml]; rfl) (argsL := [(.long q), (.int (f + (2 : Int32))), (.int (r + (1 : Int32)))]) (rest := []) (lenOf own_pd1 rfl) rfl (by show 2 * 0 + _ ≤ _; exact Nat.le_of_eq rfl) (hb hby at_40) (fun _ _ => ⟨rfl, e9, (by decide : 0 + 0 ≤ _), (by decide : 0 + 0 ≤ _)⟩)
    dsimp only [Pt.U, Pt.locs, Pt.cells, Pt.slots] at X11 l11 y11 z11 st11 hQ11
    subst l11 y11 z11
    obtain ⟨rfl, Nq11, e11⟩ := hQ11
    have N11 := Fr.app N9 Nq11
    refine own_up ?_ (st11)
    show own_G p.tables e below s _ _ _ (T11.setTop (mkF m 43 #[.val (.long q), .second, .val (.int tg), .val (.int tt), .val (.int f), .val (.int r), .unset, .unset, .unset, .unset] [(.int (own_has q (f + (2 : Int32)) (r + (1 : Int32))))]))
    by_cases hc43_12 : (own_has q (f + (2 : Int32)) (r + (1 : Int32))) = (0 : Int32)
    · refine own_up ?_ fun t k => XS.ifNo X11.here hx rfl (hb hby at_43) rfl ((if0 _ _).trans (teq hc43_12).2) k
      show own_G p.tables e below s _ _ _ (T11.setTop (mkF m 46 #[.val (.long q), .second, .val (.int tg), .val (.int tt), .val (.int f), .val (.int r), .unset, .unset, .unset, .unset] []))
      refine own_up ?_ fun t k => XS.lloadN X11.here hx rfl (hb hby at_46) rfl k
      show own_G p.tables e below s _ _ _ (T11.setTop (mkF m 47 #[.val (.long q), .second, .val (.int tg), .val (.int tt), .val (.int f), .val (.int r), .unset, .unset, .unset, .unset] [(.long q)]))
      refine own_up ?_ fun t k => XS.iload X11.here hx rfl (hb hby at_47) rfl k
      show own_G p.tables e below s _ _ _ (T11.setTop (mkF m 49 #[.val (.long q), .second, .val (.int tg), .val (.int tt), .val (.int f), .val (.int r), .unset, .unset, .unset, .unset] [(.int f), (.long q)]))
      refine own_up ?_ fun t k => XS.iconst X11.here hx rfl (hb hby at_49) k
      show own_G p.tables e below s _ _ _ (T11.setTop (mkF m 50 #[.val (.long q), .second, .val (.int tg), .val (.int tt), .val (.int f), .val (.int r), .unset, .unset, .unset, .unset] [(.int (2 : Int32)), (.int f), (.long q)]))
      refine own_up ?_ fun t k => XS.iadd X11.here hx rfl (hb hby at_50) rfl k
      show own_G p.tables e below s _ _ _ (T11.setTop (mkF m 51 #[.val (.long q), .second, .val (.int tg), .val (.int tt), .val (.int f), .val (.int r), .unset, .unset, .unset, .unset] [(.int (f + (2 : Int32))), (.long q)]))
      refine own_up ?_ fun t k => XS.iload X11.here hx rfl (hb hby at_51) rfl k
      show own_G p.tables e below s _ _ _ (T11.setTop (mkF m 53 #[.val (.long q), .second, .val (.int tg), .val (.int tt), .val (.int f), .val (.int r), .unset, .unset, .unset, .unset] [(.int r), (.int (f + (2 : Int32))), (.long q)]))
      refine own_up ?_ fun t k => XS.iconst X11.here hx rfl (hb hby at_53) k
      show own_G p.tables e below s _ _ _ (T11.setTop (mkF m 54 #[.val (.long q), .second, .val (.int tg), .val (.int tt), .val (.int f), .val (.int r), .unset, .unset, .unset, .unset] [(.int (1 : Int32)), (.int r), (.int (f + (2 : Int32))), (.long q)]))
      refine own_up ?_ fun t k => XS.isub X11.here hx rfl (hb hby at_54) rfl k
      show own_G p.tables e below s _ _ _ (T11.setTop (mkF m 55 #[.val (.long q), .second, .val (.int tg), .val (.int tt), .val (.int f), .val (.int r), .unset, .unset, .unset, .unset] [(.int (r - (1 : Int32))), (.int (f + (2 : Int32))), (.long q)]))
      obtain ⟨_, _, ⟨T13, L13, k13, n13⟩, -, X13, ⟨Lc13, hQ13, l13, y13, z13⟩, st13⟩ := Jvm.LawKit.callS X11 hx (y := (⟨"com/example/touchmove/touchmove/board/AttacksKnightStepsPinLaw", "has", "(JII)Z"⟩ : MethodName)) hown (mvT hZ (hw _ (List.mem_of_getElem? (i := 0) rfl))) (mvT hZ (hw _ (List.mem_of_getElem? (i := 1) rfl))) (mvT hZ (hw _ (List.mem_of_getElem? (i := 2) rfl))) (mvT hZ (hw _ (List.mem_of_getElem? (i := 3) rfl))) (by decide) (backOf (W := 0) (rm1 l Z a0 hw [] q (f + (2 : Int32)) (r - (1 : Int32))  h0 n0 Z0 ) hZ (hw _ (List.mem_of_getElem? (i := 3) rfl)) (hw _ (List.mem_of_getElem? (i := 2) rfl)) (by decide) (by decide)) (g := (mkF m 55 #[.val (.long q), .second, .val (.int tg), .val (.int tt), .val (.int f), .val (.int r), .unset, .unset, .unset, .unset] [(.int (r - (1 : Int32))), (.int (f + (2 : Int32))), (.long q)])) rfl (by rw [hml]; rfl) (argsL := [(.long q), (.int (f + (2 : Int32))), (.int (r - (1 : Int32)))]) (rest := []) (lenOf own_pd1 rfl) rfl (by show 2 * 0 + _ ≤ _; exact Nat.le_of_eq rfl) (hb hby at_55) (fun _ _ => ⟨rfl, e11, (by decide : 0 + 0 ≤ _), (by decide : 0 + 0 ≤ _)⟩)
      dsimp only [Pt.U, Pt.locs, Pt.cells, Pt.slots] at X13 l13 y13 z13 st13 hQ13
      subst l13 y13 z13
      obtain ⟨rfl, Nq13, e13⟩ := hQ13
      have N13 := Fr.app N11 Nq13
      refine own_up ?_ (st13)
      show own_G p.tables e below s _ _ _ (T13.setTop (mkF m 58 #[.val (.long q), .second, .val (.int tg), .val (.int tt), .val (.int f), .val (.int r), .unset, .unset, .unset, .unset] [(.int (own_has q (f + (2 : Int32)) (r - (1 : Int32))))]))
      by_cases hc58_14 : (own_has q (f + (2 : Int32)) (r - (1 : Int32))) = (0 : Int32)
      · refine own_up ?_ fun t k => XS.ifNo X13.here hx rfl (hb hby at_58) rfl ((if0 _ _).trans (teq hc58_14).2) k
        show own_G p.tables e below s _ _ _ (T13.setTop (mkF m 61 #[.val (.long q), .second, .val (.int tg), .val (.int tt), .val (.int f), .val (.int r), .unset, .unset, .unset, .unset] []))
        refine own_up ?_ fun t k => XS.lloadN X13.here hx rfl (hb hby at_61) rfl k
        show own_G p.tables e below s _ _ _ (T13.setTop (mkF m 62 #[.val (.long q), .second, .val (.int tg), .val (.int tt), .val (.int f), .val (.int r), .unset, .unset, .unset, .unset] [(.long q)]))
        refine own_up ?_ fun t k => XS.iload X13.here hx rfl (hb hby at_62) rfl k
        show own_G p.tables e below s _ _ _ (T13.setTop (mkF m 64 #[.val (.long q), .second, .val (.int tg), .val (.int tt), .val (.int f), .val (.int r), .unset, .unset, .unset, .unset] [(.int f), (.long q)]))
        refine own_up ?_ fun t k => XS.iconst X13.here hx rfl (hb hby at_64) k
        show own_G p.tables e below s _ _ _ (T13.setTop (mkF m 65 #[.val (.long q), .second, .val (.int tg), .val (.int tt), .val (.int f), .val (.int r), .unset, .unset, .unset, .unset] [(.int (1 : Int32)), (.int f), (.long q)]))
        refine own_up ?_ fun t k => XS.iadd X13.here hx rfl (hb hby at_65) rfl k
        show own_G p.tables e below s _ _ _ (T13.setTop (mkF m 66 #[.val (.long q), .second, .val (.int tg), .val (.int tt), .val (.int f), .val (.int r), .unset, .unset, .unset, .unset] [(.int (f + (1 : Int32))), (.long q)]))
        refine own_up ?_ fun t k => XS.iload X13.here hx rfl (hb hby at_66) rfl k
        show own_G p.tables e below s _ _ _ (T13.setTop (mkF m 68 #[.val (.long q), .second, .val (.int tg), .val (.int tt), .val (.int f), .val (.int r), .unset, .unset, .unset, .unset] [(.int r), (.int (f + (1 : Int32))), (.long q)]))
        refine own_up ?_ fun t k => XS.iconst X13.here hx rfl (hb hby at_68) k
        show own_G p.tables e below s _ _ _ (T13.setTop (mkF m 69 #[.val (.long q), .second, .val (.int tg), .val (.int tt), .val (.int f), .val (.int r), .unset, .unset, .unset, .unset] [(.int (2 : Int32)), (.int r), (.int (f + (1 : Int32))), (.long q)]))
        refine own_up ?_ fun t k => XS.isub X13.here hx rfl (hb hby at_69) rfl k
        show own_G p.tables e below s _ _ _ (T13.setTop (mkF m 70 #[.val (.long q), .second, .val (.int tg), .val (.int tt), .val (.int f), .val (.int r), .unset, .unset, .unset, .unset] [(.int (r - (2 : Int32))), (.int (f + (1 : Int32))), (.long q)]))
        obtain ⟨_, _, ⟨T15, L15, k15, n15⟩, -, X15, ⟨Lc15, hQ15, l15, y15, z15⟩, st15⟩ := Jvm.LawKit.callS X13 hx (y := (⟨"com/example/touchmove/touchmove/board/AttacksKnightStepsPinLaw", "has", "(JII)Z"⟩ : MethodName)) hown (mvT hZ (hw _ (List.mem_of_getElem? (i := 0) rfl))) (mvT hZ (hw _ (List.mem_of_getElem? (i := 1) rfl))) (mvT hZ (hw _ (List.mem_of_getElem? (i := 2) rfl))) (mvT hZ (hw _ (List.mem_of_getElem? (i := 3) rfl))) (by decide) (backOf (W := 0) (rm1 l Z a0 hw [] q (f + (1 : Int32)) (r - (2 : Int32))  h0 n0 Z0 ) hZ (hw _ (List.mem_of_getElem? (i := 3) rfl)) (hw _ (List.mem_of_getElem? (i := 2) rfl)) (by decide) (by decide)) (g := (mkF m 70 #[.val (.long q), .second, .val (.int tg), .val (.int tt), .val (.int f), .val (.int r), .unset, .unset, .unset, .unset] [(.int (r - (2 : Int32))), (.int (f + (1 : Int32))), (.long q)])) rfl (by rw [hml]; rfl) (argsL := [(.long q), (.int (f + (1 : Int32))), (.int (r - (2 : Int32)))]) (rest := []) (lenOf own_pd1 rfl) rfl (by show 2 * 0 + _ ≤ _; exact Nat.le_of_eq rfl) (hb hby at_70) (fun _ _ => ⟨rfl, e13, (by decide : 0 + 0 ≤ _), (by decide : 0 + 0 ≤ _)⟩)
        dsimp only [Pt.U, Pt.locs, Pt.cells, Pt.slots] at X15 l15 y15 z15 st15 hQ15
        subst l15 y15 z15
        obtain ⟨rfl, Nq15, e15⟩ := hQ15
        have N15 := Fr.app N13 Nq15
        refine own_up ?_ (st15)
        show own_G p.tables e below s _ _ _ (T15.setTop (mkF m 73 #[.val (.long q), .second, .val (.int tg), .val (.int tt), .val (.int f), .val (.int r), .unset, .unset, .unset, .unset] [(.int (own_has q (f + (1 : Int32)) (r - (2 : Int32))))]))
        by_cases hc73_16 : (own_has q (f + (1 : Int32)) (r - (2 : Int32))) = (0 : Int32)
        · refine own_up ?_ fun t k => XS.ifNo X15.here hx rfl (hb hby at_73) rfl ((if0 _ _).trans (teq hc73_16).2) k
          show own_G p.tables e below s _ _ _ (T15.setTop (mkF m 76 #[.val (.long q), .second, .val (.int tg), .val (.int tt), .val (.int f), .val (.int r), .unset, .unset, .unset, .unset] []))
          refine own_up ?_ fun t k => XS.lloadN X15.here hx rfl (hb hby at_76) rfl k
          show own_G p.tables e below s _ _ _ (T15.setTop (mkF m 77 #[.val (.long q), .second, .val (.int tg), .val (.int tt), .val (.int f), .val (.int r), .unset, .unset, .unset, .unset] [(.long q)]))
          refine own_up ?_ fun t k => XS.iload X15.here hx rfl (hb hby at_77) rfl k
          show own_G p.tables e below s _ _ _ (T15.setTop (mkF m 79 #[.val (.long q), .second, .val (.int tg), .val (.int tt), .val (.int f), .val (.int r), .unset, .unset, .unset, .unset] [(.int f), (.long q)]))
          refine own_up ?_ fun t k => XS.iconst X15.here hx rfl (hb hby at_79) k
          show own_G p.tables e below s _ _ _ (T15.setTop (mkF m 80 #[.val (.long q), .second, .val (.int tg), .val (.int tt), .val (.int f), .val (.int r), .unset, .unset, .unset, .unset] [(.int (1 : Int32)), (.int f), (.long q)]))
          refine own_up ?_ fun t k => XS.isub X15.here hx rfl (hb hby at_80) rfl k
          show own_G p.tables e below s _ _ _ (T15.setTop (mkF m 81 #[.val (.long q), .second, .val (.int tg), .val (.int tt), .val (.int f), .val (.int r), .unset, .unset, .unset, .unset] [(.int (f - (1 : Int32))), (.long q)]))
          refine own_up ?_ fun t k => XS.iload X15.here hx rfl (hb hby at_81) rfl k
          show own_G p.tables e below s _ _ _ (T15.setTop (mkF m 83 #[.val (.long q), .second, .val (.int tg), .val (.int tt), .val (.int f), .val (.int r), .unset, .unset, .unset, .unset] [(.int r), (.int (f - (1 : Int32))), (.long q)]))
          refine own_up ?_ fun t k => XS.iconst X15.here hx rfl (hb hby at_83) k
          show own_G p.tables e below s _ _ _ (T15.setTop (mkF m 84 #[.val (.long q), .second, .val (.int tg), .val (.int tt), .val (.int f), .val (.int r), .unset, .unset, .unset, .unset] [(.int (2 : Int32)), (.int r), (.int (f - (1 : Int32))), (.long q)]))
          refine own_up ?_ fun t k => XS.isub X15.here hx rfl (hb hby at_84) rfl k
          show own_G p.tables e below s _ _ _ (T15.setTop (mkF m 85 #[.val (.long q), .second, .val (.int tg), .val (.int tt), .val (.int f), .val (.int r), .unset, .unset, .unset, .unset] [(.int (r - (2 : Int32))), (.int (f - (1 : Int32))), (.long q)]))
          obtain ⟨_, _, ⟨T17, L17, k17, n17⟩, -, X17, ⟨Lc17, hQ17, l17, y17, z17⟩, st17⟩ := Jvm.LawKit.callS X15 hx (y := (⟨"com/example/touchmove/touchmove/board/AttacksKnightStepsPinLaw", "has", "(JII)Z"⟩ : MethodName)) hown (mvT hZ (hw _ (List.mem_of_getElem? (i := 0) rfl))) (mvT hZ (hw _ (List.mem_of_getElem? (i := 1) rfl))) (mvT hZ (hw _ (List.mem_of_getElem? (i := 2) rfl))) (mvT hZ (hw _ (List.mem_of_getElem? (i := 3) rfl))) (by decide) (backOf (W := 0) (rm1 l Z a0 hw [] q (f - (1 : Int32)) (r - (2 : Int32))  h0 n0 Z0 ) hZ (hw _ (List.mem_of_getElem? (i := 3) rfl)) (hw _ (List.mem_of_getElem? (i := 2) rfl)) (by decide) (by decide)) (g := (mkF m 85 #[.val (.long q), .second, .val (.int tg), .val (.int tt), .val (.int f), .val (.int r), .unset, .unset, .unset, .unset] [(.int (r - (2 : Int32))), (.int (f - (1 : Int32))), (.long q)])) rfl (by rw [hml]; rfl) (argsL := [(.long q), (.int (f - (1 : Int32))), (.int (r - (2 : Int32)))]) (rest := []) (lenOf own_pd1 rfl) rfl (by show 2 * 0 + _ ≤ _; exact Nat.le_of_eq rfl) (hb hby at_85) (fun _ _ => ⟨rfl, e15, (by decide : 0 + 0 ≤ _), (by decide : 0 + 0 ≤ _)⟩)
          dsimp only [Pt.U, Pt.locs, Pt.cells, Pt.slots] at X17 l17 y17 z17 st17 hQ17
          subst l17 y17 z17
          obtain ⟨rfl, Nq17, e17⟩ := hQ17
          have N17 := Fr.app N15 Nq17
          refine own_up ?_ (st17)
          show own_G p.tables e below s _ _ _ (T17.setTop (mkF m 88 #[.val (.long q), .second, .val (.int tg), .val (.int tt), .val (.int f), .val (.int r), .unset, .unset, .unset, .unset] [(.int (own_has q (f - (1 : Int32)) (r - (2 : Int32))))]))
          by_cases hc88_18 : (own_has q (f - (1 : Int32)) (r - (2 : Int32))) = (0 : Int32)
          · refine own_up ?_ fun t k => XS.ifNo X17.here hx rfl (hb hby at_88) rfl ((if0 _ _).trans (teq hc88_18).2) k
            show own_G p.tables e below s _ _ _ (T17.setTop (mkF m 91 #[.val (.long q), .second, .val (.int tg), .val (.int tt), .val (.int f), .val (.int r), .unset, .unset, .unset, .unset] []))
            refine own_up ?_ fun t k => XS.lloadN X17.here hx rfl (hb hby at_91) rfl k
            show own_G p.tables e below s _ _ _ (T17.setTop (mkF m 92 #[.val (.long q), .second, .val (.int tg), .val (.int tt), .val (.int f), .val (.int r), .unset, .unset, .unset, .unset] [(.long q)]))
            refine own_up ?_ fun t k => XS.iload X17.here hx rfl (hb hby at_92) rfl k
            show own_G p.tables e below s _ _ _ (T17.setTop (mkF m 94 #[.val (.long q), .second, .val (.int tg), .val (.int tt), .val (.int f), .val (.int r), .unset, .unset, .unset, .unset] [(.int f), (.long q)]))
            refine own_up ?_ fun t k => XS.iconst X17.here hx rfl (hb hby at_94) k
            show own_G p.tables e below s _ _ _ (T17.setTop (mkF m 95 #[.val (.long q), .second, .val (.int tg), .val (.int tt), .val (.int f), .val (.int r), .unset, .unset, .unset, .unset] [(.int (2 : Int32)), (.int f), (.long q)]))
            refine own_up ?_ fun t k => XS.isub X17.here hx rfl (hb hby at_95) rfl k
            show own_G p.tables e below s _ _ _ (T17.setTop (mkF m 96 #[.val (.long q), .second, .val (.int tg), .val (.int tt), .val (.int f), .val (.int r), .unset, .unset, .unset, .unset] [(.int (f - (2 : Int32))), (.long q)]))
            refine own_up ?_ fun t k => XS.iload X17.here hx rfl (hb hby at_96) rfl k
            show own_G p.tables e below s _ _ _ (T17.setTop (mkF m 98 #[.val (.long q), .second, .val (.int tg), .val (.int tt), .val (.int f), .val (.int r), .unset, .unset, .unset, .unset] [(.int r), (.int (f - (2 : Int32))), (.long q)]))
            refine own_up ?_ fun t k => XS.iconst X17.here hx rfl (hb hby at_98) k
            show own_G p.tables e below s _ _ _ (T17.setTop (mkF m 99 #[.val (.long q), .second, .val (.int tg), .val (.int tt), .val (.int f), .val (.int r), .unset, .unset, .unset, .unset] [(.int (1 : Int32)), (.int r), (.int (f - (2 : Int32))), (.long q)]))
            refine own_up ?_ fun t k => XS.isub X17.here hx rfl (hb hby at_99) rfl k
            show own_G p.tables e below s _ _ _ (T17.setTop (mkF m 100 #[.val (.long q), .second, .val (.int tg), .val (.int tt), .val (.int f), .val (.int r), .unset, .unset, .unset, .unset] [(.int (r - (1 : Int32))), (.int (f - (2 : Int32))), (.long q)]))
            obtain ⟨_, _, ⟨T19, L19, k19, n19⟩, -, X19, ⟨Lc19, hQ19, l19, y19, z19⟩, st19⟩ := Jvm.LawKit.callS X17 hx (y := (⟨"com/example/touchmove/touchmove/board/AttacksKnightStepsPinLaw", "has", "(JII)Z"⟩ : MethodName)) hown (mvT hZ (hw _ (List.mem_of_getElem? (i := 0) rfl))) (mvT hZ (hw _ (List.mem_of_getElem? (i := 1) rfl))) (mvT hZ (hw _ (List.mem_of_getElem? (i := 2) rfl))) (mvT hZ (hw _ (List.mem_of_getElem? (i := 3) rfl))) (by decide) (backOf (W := 0) (rm1 l Z a0 hw [] q (f - (2 : Int32)) (r - (1 : Int32))  h0 n0 Z0 ) hZ (hw _ (List.mem_of_getElem? (i := 3) rfl)) (hw _ (List.mem_of_getElem? (i := 2) rfl)) (by decide) (by decide)) (g := (mkF m 100 #[.val (.long q), .second, .val (.int tg), .val (.int tt), .val (.int f), .val (.int r), .unset, .unset, .unset, .unset] [(.int (r - (1 : Int32))), (.int (f - (2 : Int32))), (.long q)])) rfl (by rw [hml]; rfl) (argsL := [(.long q), (.int (f - (2 : Int32))), (.int (r - (1 : Int32)))]) (rest := []) (lenOf own_pd1 rfl) rfl (by show 2 * 0 + _ ≤ _; exact Nat.le_of_eq rfl) (hb hby at_100) (fun _ _ => ⟨rfl, e17, (by decide : 0 + 0 ≤ _), (by decide : 0 + 0 ≤ _)⟩)
            dsimp only [Pt.U, Pt.locs, Pt.cells, Pt.slots] at X19 l19 y19 z19 st19 hQ19
            subst l19 y19 z19
            obtain ⟨rfl, Nq19, e19⟩ := hQ19
            have N19 := Fr.app N17 Nq19
            refine own_up ?_ (st19)
            show own_G p.tables e below s _ _ _ (T19.setTop (mkF m 103 #[.val (.long q), .second, .val (.int tg), .val (.int tt), .val (.int f), .val (.int r), .unset, .unset, .unset, .unset] [(.int (own_has q (f - (2 : Int32)) (r - (1 : Int32))))]))
            by_cases hc103_20 : (own_has q (f - (2 : Int32)) (r - (1 : Int32))) = (0 : Int32)
            · refine own_up ?_ fun t k => XS.ifNo X19.here hx rfl (hb hby at_103) rfl ((if0 _ _).trans (teq hc103_20).2) k
              show own_G p.tables e below s _ _ _ (T19.setTop (mkF m 106 #[.val (.long q), .second, .val (.int tg), .val (.int tt), .val (.int f), .val (.int r), .unset, .unset, .unset, .unset] []))
              refine own_up ?_ fun t k => XS.lloadN X19.here hx rfl (hb hby at_106) rfl k
              show own_G p.tables e below s _ _ _ (T19.setTop (mkF m 107 #[.val (.long q), .second, .val (.int tg), .val (.int tt), .val (.int f), .val (.int r), .unset, .unset, .unset, .unset] [(.long q)]))
              refine own_up ?_ fun t k => XS.iload X19.here hx rfl (hb hby at_107) rfl k
              show own_G p.tables e below s _ _ _ (T19.setTop (mkF m 109 #[.val (.long q), .second, .val (.int tg), .val (.int tt), .val (.int f), .val (.int r), .unset, .unset, .unset, .unset] [(.int f), (.long q)]))
              refine own_up ?_ fun t k => XS.iconst X19.here hx rfl (hb hby at_109) k
              show own_G p.tables e below s _ _ _ (T19.setTop (mkF m 110 #[.val (.long q), .second, .val (.int tg), .val (.int tt), .val (.int f), .val (.int r), .unset, .unset, .unset, .unset] [(.int (2 : Int32)), (.int f), (.long q)]))
              refine own_up ?_ fun t k => XS.isub X19.here hx rfl (hb hby at_110) rfl k
              show own_G p.tables e below s _ _ _ (T19.setTop (mkF m 111 #[.val (.long q), .second, .val (.int tg), .val (.int tt), .val (.int f), .val (.int r), .unset, .unset, .unset, .unset] [(.int (f - (2 : Int32))), (.long q)]))
              refine own_up ?_ fun t k => XS.iload X19.here hx rfl (hb hby at_111) rfl k
              show own_G p.tables e below s _ _ _ (T19.setTop (mkF m 113 #[.val (.long q), .second, .val (.int tg), .val (.int tt), .val (.int f), .val (.int r), .unset, .unset, .unset, .unset] [(.int r), (.int (f - (2 : Int32))), (.long q)]))
              refine own_up ?_ fun t k => XS.iconst X19.here hx rfl (hb hby at_113) k
              show own_G p.tables e below s _ _ _ (T19.setTop (mkF m 114 #[.val (.long q), .second, .val (.int tg), .val (.int tt), .val (.int f), .val (.int r), .unset, .unset, .unset, .unset] [(.int (1 : Int32)), (.int r), (.int (f - (2 : Int32))), (.long q)]))
              refine own_up ?_ fun t k => XS.iadd X19.here hx rfl (hb hby at_114) rfl k
              show own_G p.tables e below s _ _ _ (T19.setTop (mkF m 115 #[.val (.long q), .second, .val (.int tg), .val (.int tt), .val (.int f), .val (.int r), .unset, .unset, .unset, .unset] [(.int (r + (1 : Int32))), (.int (f - (2 : Int32))), (.long q)]))
              obtain ⟨_, _, ⟨T21, L21, k21, n21⟩, -, X21, ⟨Lc21, hQ21, l21, y21, z21⟩, st21⟩ := Jvm.LawKit.callS X19 hx (y := (⟨"com/example/touchmove/touchmove/board/AttacksKnightStepsPinLaw", "has", "(JII)Z"⟩ : MethodName)) hown (mvT hZ (hw _ (List.mem_of_getElem? (i := 0) rfl))) (mvT hZ (hw _ (List.mem_of_getElem? (i := 1) rfl))) (mvT hZ (hw _ (List.mem_of_getElem? (i := 2) rfl))) (mvT hZ (hw _ (List.mem_of_getElem? (i := 3) rfl))) (by decide) (backOf (W := 0) (rm1 l Z a0 hw [] q (f - (2 : Int32)) (r + (1 : Int32))  h0 n0 Z0 ) hZ (hw _ (List.mem_of_getElem? (i := 3) rfl)) (hw _ (List.mem_of_getElem? (i := 2) rfl)) (by decide) (by decide)) (g := (mkF m 115 #[.val (.long q), .second, .val (.int tg), .val (.int tt), .val (.int f), .val (.int r), .unset, .unset, .unset, .unset] [(.int (r + (1 : Int32))), (.int (f - (2 : Int32))), (.long q)])) rfl (by rw [hml]; rfl) (argsL := [(.long q), (.int (f - (2 : Int32))), (.int (r + (1 : Int32)))]) (rest := []) (lenOf own_pd1 rfl) rfl (by show 2 * 0 + _ ≤ _; exact Nat.le_of_eq rfl) (hb hby at_115) (fun _ _ => ⟨rfl, e19, (by decide : 0 + 0 ≤ _), (by decide : 0 + 0 ≤ _)⟩)
              dsimp only [Pt.U, Pt.locs, Pt.cells, Pt.slots] at X21 l21 y21 z21 st21 hQ21
              subst l21 y21 z21
              obtain ⟨rfl, Nq21, e21⟩ := hQ21
              have N21 := Fr.app N19 Nq21
              refine own_up ?_ (st21)
              show own_G p.tables e below s _ _ _ (T21.setTop (mkF m 118 #[.val (.long q), .second, .val (.int tg), .val (.int tt), .val (.int f), .val (.int r), .unset, .unset, .unset, .unset] [(.int (own_has q (f - (2 : Int32)) (r + (1 : Int32))))]))
              by_cases hc118_22 : (own_has q (f - (2 : Int32)) (r + (1 : Int32))) = (0 : Int32)
              · refine own_up ?_ fun t k => XS.ifNo X21.here hx rfl (hb hby at_118) rfl ((if0 _ _).trans (teq hc118_22).2) k
                show own_G p.tables e below s _ _ _ (T21.setTop (mkF m 121 #[.val (.long q), .second, .val (.int tg), .val (.int tt), .val (.int f), .val (.int r), .unset, .unset, .unset, .unset] []))
                refine own_up ?_ fun t k => XS.lloadN X21.here hx rfl (hb hby at_121) rfl k
                show own_G p.tables e below s _ _ _ (T21.setTop (mkF m 122 #[.val (.long q), .second, .val (.int tg), .val (.int tt), .val (.int f), .val (.int r), .unset, .unset, .unset, .unset] [(.long q)]))
                refine own_up ?_ fun t k => XS.iload X21.here hx rfl (hb hby at_122) rfl k
                show own_G p.tables e below s _ _ _ (T21.setTop (mkF m 124 #[.val (.long q), .second, .val (.int tg), .val (.int tt), .val (.int f), .val (.int r), .unset, .unset, .unset, .unset] [(.int f), (.long q)]))
                refine own_up ?_ fun t k => XS.iconst X21.here hx rfl (hb hby at_124) k
                show own_G p.tables e below s _ _ _ (T21.setTop (mkF m 125 #[.val (.long q), .second, .val (.int tg), .val (.int tt), .val (.int f), .val (.int r), .unset, .unset, .unset, .unset] [(.int (1 : Int32)), (.int f), (.long q)]))
                refine own_up ?_ fun t k => XS.isub X21.here hx rfl (hb hby at_125) rfl k
                show own_G p.tables e below s _ _ _ (T21.setTop (mkF m 126 #[.val (.long q), .second, .val (.int tg), .val (.int tt), .val (.int f), .val (.int r), .unset, .unset, .unset, .unset] [(.int (f - (1 : Int32))), (.long q)]))
                refine own_up ?_ fun t k => XS.iload X21.here hx rfl (hb hby at_126) rfl k
                show own_G p.tables e below s _ _ _ (T21.setTop (mkF m 128 #[.val (.long q), .second, .val (.int tg), .val (.int tt), .val (.int f), .val (.int r), .unset, .unset, .unset, .unset] [(.int r), (.int (f - (1 : Int32))), (.long q)]))
                refine own_up ?_ fun t k => XS.iconst X21.here hx rfl (hb hby at_128) k
                show own_G p.tables e below s _ _ _ (T21.setTop (mkF m 129 #[.val (.long q), .second, .val (.int tg), .val (.int tt), .val (.int f), .val (.int r), .unset, .unset, .unset, .unset] [(.int (2 : Int32)), (.int r), (.int (f - (1 : Int32))), (.long q)]))
                refine own_up ?_ fun t k => XS.iadd X21.here hx rfl (hb hby at_129) rfl k
                show own_G p.tables e below s _ _ _ (T21.setTop (mkF m 130 #[.val (.long q), .second, .val (.int tg), .val (.int tt), .val (.int f), .val (.int r), .unset, .unset, .unset, .unset] [(.int (r + (2 : Int32))), (.int (f - (1 : Int32))), (.long q)]))
                obtain ⟨_, _, ⟨T23, L23, k23, n23⟩, -, X23, ⟨Lc23, hQ23, l23, y23, z23⟩, st23⟩ := Jvm.LawKit.callS X21 hx (y := (⟨"com/example/touchmove/touchmove/board/AttacksKnightStepsPinLaw", "has", "(JII)Z"⟩ : MethodName)) hown (mvT hZ (hw _ (List.mem_of_getElem? (i := 0) rfl))) (mvT hZ (hw _ (List.mem_of_getElem? (i := 1) rfl))) (mvT hZ (hw _ (List.mem_of_getElem? (i := 2) rfl))) (mvT hZ (hw _ (List.mem_of_getElem? (i := 3) rfl))) (by decide) (backOf (W := 0) (rm1 l Z a0 hw [] q (f - (1 : Int32)) (r + (2 : Int32))  h0 n0 Z0 ) hZ (hw _ (List.mem_of_getElem? (i := 3) rfl)) (hw _ (List.mem_of_getElem? (i := 2) rfl)) (by decide) (by decide)) (g := (mkF m 130 #[.val (.long q), .second, .val (.int tg), .val (.int tt), .val (.int f), .val (.int r), .unset, .unset, .unset, .unset] [(.int (r + (2 : Int32))), (.int (f - (1 : Int32))), (.long q)])) rfl (by rw [hml]; rfl) (argsL := [(.long q), (.int (f - (1 : Int32))), (.int (r + (2 : Int32)))]) (rest := []) (lenOf own_pd1 rfl) rfl (by show 2 * 0 + _ ≤ _; exact Nat.le_of_eq rfl) (hb hby at_130) (fun _ _ => ⟨rfl, e21, (by decide : 0 + 0 ≤ _), (by decide : 0 + 0 ≤ _)⟩)
                dsimp only [Pt.U, Pt.locs, Pt.cells, Pt.slots] at X23 l23 y23 z23 st23 hQ23
                subst l23 y23 z23
                obtain ⟨rfl, Nq23, e23⟩ := hQ23
                have N23 := Fr.app N21 Nq23
                refine own_up ?_ (st23)
                show own_G p.tables e below s _ _ _ (T23.setTop (mkF m 133 #[.val (.long q), .second, .val (.int tg), .val (.int tt), .val (.int f), .val (.int r), .unset, .unset, .unset, .unset] [(.int (own_has q (f - (1 : Int32)) (r + (2 : Int32))))]))
                by_cases hc133_24 : (own_has q (f - (1 : Int32)) (r + (2 : Int32))) = (0 : Int32)
                · refine own_up ?_ fun t k => XS.ifYes X23.here hx rfl (pc0 := 133) (pc' := 140) rfl (hb hby at_133) rfl ((if0 _ _).trans (teq hc133_24).1) (by decide) (by decide) k
                  show own_G p.tables e below s _ _ _ (T23.setTop (mkF m 140 #[.val (.long q), .second, .val (.int tg), .val (.int tt), .val (.int f), .val (.int r), .unset, .unset, .unset, .unset] []))
                  refine own_up ?_ fun t k => XS.iconst X23.here hx rfl (hb hby at_140) k
                  show own_G p.tables e below s _ _ _ (T23.setTop (mkF m 141 #[.val (.long q), .second, .val (.int tg), .val (.int tt), .val (.int f), .val (.int r), .unset, .unset, .unset, .unset] [(.int (0 : Int32))]))
                  exact J _ _ _ X23 e23 N23 (by simp only [own_exp, if_pos hc28_10, if_pos hc43_12, if_pos hc58_14, if_pos hc73_16, if_pos hc88_18, if_pos hc103_20, if_pos hc118_22, if_pos hc133_24])
                · refine own_up ?_ fun t k => XS.ifNo X23.here hx rfl (hb hby at_133) rfl ((if0 _ _).trans (feq hc133_24).1) k
                  show own_G p.tables e below s _ _ _ (T23.setTop (mkF m 136 #[.val (.long q), .second, .val (.int tg), .val (.int tt), .val (.int f), .val (.int r), .unset, .unset, .unset, .unset] []))
                  refine own_up ?_ fun t k => XS.iconst X23.here hx rfl (hb hby at_136) k
                  show own_G p.tables e below s _ _ _ (T23.setTop (mkF m 137 #[.val (.long q), .second, .val (.int tg), .val (.int tt), .val (.int f), .val (.int r), .unset, .unset, .unset, .unset] [(.int (1 : Int32))]))
                  refine own_up ?_ fun t k => XS.goto X23.here hx rfl (pc0 := 137) (pc' := 141) rfl (hb hby at_137) (by decide) (by decide) k
                  show own_G p.tables e below s _ _ _ (T23.setTop (mkF m 141 #[.val (.long q), .second, .val (.int tg), .val (.int tt), .val (.int f), .val (.int r), .unset, .unset, .unset, .unset] [(.int (1 : Int32))]))
                  exact J _ _ _ X23 e23 N23 (by simp only [own_exp, if_pos hc28_10, if_pos hc43_12, if_pos hc58_14, if_pos hc73_16, if_pos hc88_18, if_pos hc103_20, if_pos hc118_22, if_neg hc133_24])
              · refine own_up ?_ fun t k => XS.ifYes X21.here hx rfl (pc0 := 118) (pc' := 136) rfl (hb hby at_118) rfl ((if0 _ _).trans (feq hc118_22).2) (by decide) (by decide) k
                show own_G p.tables e below s _ _ _ (T21.setTop (mkF m 136 #[.val (.long q), .second, .val (.int tg), .val (.int tt), .val (.int f), .val (.int r), .unset, .unset, .unset, .unset] []))
                refine own_up ?_ fun t k => XS.iconst X21.here hx rfl (hb hby at_136) k
                show own_G p.tables e below s _ _ _ (T21.setTop (mkF m 137 #[.val (.long q), .second, .val (.int tg), .val (.int tt), .val (.int f), .val (.int r), .unset, .unset, .unset, .unset] [(.int (1 : Int32))]))
                refine own_up ?_ fun t k => XS.goto X21.here hx rfl (pc0 := 137) (pc' := 141) rfl (hb hby at_137) (by decide) (by decide) k
                show own_G p.tables e below s _ _ _ (T21.setTop (mkF m 141 #[.val (.long q), .second, .val (.int tg), .val (.int tt), .val (.int f), .val (.int r), .unset, .unset, .unset, .unset] [(.int (1 : Int32))]))
                exact J _ _ _ X21 e21 N21 (by simp only [own_exp, if_pos hc28_10, if_pos hc43_12, if_pos hc58_14, if_pos hc73_16, if_pos hc88_18, if_pos hc103_20, if_neg hc118_22])
            · refine own_up ?_ fun t k => XS.ifYes X19.here hx rfl (pc0 := 103) (pc' := 136) rfl (hb hby at_103) rfl ((if0 _ _).trans (feq hc103_20).2) (by decide) (by decide) k
              show own_G p.tables e below s _ _ _ (T19.setTop (mkF m 136 #[.val (.long q), .second, .val (.int tg), .val (.int tt), .val (.int f), .val (.int r), .unset, .unset, .unset, .unset] []))
              refine own_up ?_ fun t k => XS.iconst X19.here hx rfl (hb hby at_136) k
              show own_G p.tables e below s _ _ _ (T19.setTop (mkF m 137 #[.val (.long q), .second, .val (.int tg), .val (.int tt), .val (.int f), .val (.int r), .unset, .unset, .unset, .unset] [(.int (1 : Int32))]))
              refine own_up ?_ fun t k => XS.goto X19.here hx rfl (pc0 := 137) (pc' := 141) rfl (hb hby at_137) (by decide) (by decide) k
              show own_G p.tables e below s _ _ _ (T19.setTop (mkF m 141 #[.val (.long q), .second, .val (.int tg), .val (.int tt), .val (.int f), .val (.int r), .unset, .unset, .unset, .unset] [(.int (1 : Int32))]))
              exact J _ _ _ X19 e19 N19 (by simp only [own_exp, if_pos hc28_10, if_pos hc43_12, if_pos hc58_14, if_pos hc73_16, if_pos hc88_18, if_neg hc103_20])
          · refine own_up ?_ fun t k => XS.ifYes X17.here hx rfl (pc0 := 88) (pc' := 136) rfl (hb hby at_88) rfl ((if0 _ _).trans (feq hc88_18).2) (by decide) (by decide) k
            show own_G p.tables e below s _ _ _ (T17.setTop (mkF m 136 #[.val (.long q), .second, .val (.int tg), .val (.int tt), .val (.int f), .val (.int r), .unset, .unset, .unset, .unset] []))
            refine own_up ?_ fun t k => XS.iconst X17.here hx rfl (hb hby at_136) k
            show own_G p.tables e below s _ _ _ (T17.setTop (mkF m 137 #[.val (.long q), .second, .val (.int tg), .val (.int tt), .val (.int f), .val (.int r), .unset, .unset, .unset, .unset] [(.int (1 : Int32))]))
            refine own_up ?_ fun t k => XS.goto X17.here hx rfl (pc0 := 137) (pc' := 141) rfl (hb hby at_137) (by decide) (by decide) k
            show own_G p.tables e below s _ _ _ (T17.setTop (mkF m 141 #[.val (.long q), .second, .val (.int tg), .val (.int tt), .val (.int f), .val (.int r), .unset, .unset, .unset, .unset] [(.int (1 : Int32))]))
            exact J _ _ _ X17 e17 N17 (by simp only [own_exp, if_pos hc28_10, if_pos hc43_12, if_pos hc58_14, if_pos hc73_16, if_neg hc88_18])
        · refine own_up ?_ fun t k => XS.ifYes X15.here hx rfl (pc0 := 73) (pc' := 136) rfl (hb hby at_73) rfl ((if0 _ _).trans (feq hc73_16).2) (by decide) (by decide) k
          show own_G p.tables e below s _ _ _ (T15.setTop (mkF m 136 #[.val (.long q), .second, .val (.int tg), .val (.int tt), .val (.int f), .val (.int r), .unset, .unset, .unset, .unset] []))
          refine own_up ?_ fun t k => XS.iconst X15.here hx rfl (hb hby at_136) k
          show own_G p.tables e below s _ _ _ (T15.setTop (mkF m 137 #[.val (.long q), .second, .val (.int tg), .val (.int tt), .val (.int f), .val (.int r), .unset, .unset, .unset, .unset] [(.int (1 : Int32))]))
          refine own_up ?_ fun t k => XS.goto X15.here hx rfl (pc0 := 137) (pc' := 141) rfl (hb hby at_137) (by decide) (by decide) k
          show own_G p.tables e below s _ _ _ (T15.setTop (mkF m 141 #[.val (.long q), .second, .val (.int tg), .val (.int tt), .val (.int f), .val (.int r), .unset, .unset, .unset, .unset] [(.int (1 : Int32))]))
          exact J _ _ _ X15 e15 N15 (by simp only [own_exp, if_pos hc28_10, if_pos hc43_12, if_pos hc58_14, if_neg hc73_16])
      · refine own_up ?_ fun t k => XS.ifYes X13.here hx rfl (pc0 := 58) (pc' := 136) rfl (hb hby at_58) rfl ((if0 _ _).trans (feq hc58_14).2) (by decide) (by decide) k
        show own_G p.tables e below s _ _ _ (T13.setTop (mkF m 136 #[.val (.long q), .second, .val (.int tg), .val (.int tt), .val (.int f), .val (.int r), .unset, .unset, .unset, .unset] []))
        refine own_up ?_ fun t k => XS.iconst X13.here hx rfl (hb hby at_136) k
        show own_G p.tables e below s _ _ _ (T13.setTop (mkF m 137 #[.val (.long q), .second, .val (.int tg), .val (.int tt), .val (.int f), .val (.int r), .unset, .unset, .unset, .unset] [(.int (1 : Int32))]))
        refine own_up ?_ fun t k => XS.goto X13.here hx rfl (pc0 := 137) (pc' := 141) rfl (hb hby at_137) (by decide) (by decide) k
        show own_G p.tables e below s _ _ _ (T13.setTop (mkF m 141 #[.val (.long q), .second, .val (.int tg), .val (.int tt), .val (.int f), .val (.int r), .unset, .unset, .unset, .unset] [(.int (1 : Int32))]))
        exact J _ _ _ X13 e13 N13 (by simp only [own_exp, if_pos hc28_10, if_pos hc43_12, if_neg hc58_14])
    · refine own_up ?_ fun t k => XS.ifYes X11.here hx rfl (pc0 := 43) (pc' := 136) rfl (hb hby at_43) rfl ((if0 _ _).trans (feq hc43_12).2) (by decide) (by decide) k
      show own_G p.tables e below s _ _ _ (T11.setTop (mkF m 136 #[.val (.long q), .second, .val (.int tg), .val (.int tt), .val (.int f), .val (.int r), .unset, .unset, .unset, .unset] []))
      refine own_up ?_ fun t k => XS.iconst X11.here hx rfl (hb hby at_136) k
      show own_G p.tables e below s _ _ _ (T11.setTop (mkF m 137 #[.val (.long q), .second, .val (.int tg), .val (.int tt), .val (.int f), .val (.int r), .unset, .unset, .unset, .unset] [(.int (1 : Int32))]))
      refine own_up ?_ fun t k => XS.goto X11.here hx rfl (pc0 := 137) (pc' := 141) rfl (hb hby at_137) (by decide) (by decide) k
      show own_G p.tables e below s _ _ _ (T11.setTop (mkF m 141 #[.val (.long q), .second, .val (.int tg), .val (.int tt), .val (.int f), .val (.int r), .unset, .unset, .unset, .unset] [(.int (1 : Int32))]))
      exact J _ _ _ X11 e11 N11 (by simp only [own_exp, if_pos hc28_10, if_neg hc43_12])
  · refine own_up ?_ fun t k => XS.ifYes X9.here hx rfl (pc0 := 28) (pc' := 136) rfl (hb hby at_28) rfl ((if0 _ _).trans (feq hc28_10).2) (by decide) (by decide) k
    show own_G p.tables e below s _ _ _ (T9.setTop (mkF m 136 #[.val (.long q), .second, .val (.int tg), .val (.int tt), .val (.int f), .val (.int r), .unset, .unset, .unset, .unset] []))
    refine own_up ?_ fun t k => XS.iconst X9.here hx rfl (hb hby at_136) k
    show own_G p.tables e below s _ _ _ (T9.setTop (mkF m 137 #[.val (.long q), .second, .val (.int tg), .val (.int tt), .val (.int f), .val (.int r), .unset, .unset, .unset, .unset] [(.int (1 : Int32))]))
    refine own_up ?_ fun t k => XS.goto X9.here hx rfl (pc0 := 137) (pc' := 141) rfl (hb hby at_137) (by decide) (by decide) k
    show own_G p.tables e below s _ _ _ (T9.setTop (mkF m 141 #[.val (.long q), .second, .val (.int tg), .val (.int tt), .val (.int f), .val (.int r), .unset, .unset, .unset, .unset] [(.int (1 : Int32))]))
    exact J _ _ _ X9 e9 N9 (by simp only [own_exp, if_neg hc28_10])
set_option maxRecDepth 65536 in
set_option maxHeartbeats 40000000 in
theorem comes_1 {Post : Tables → Env → Array Value → State → Outcome → State → Prop} (hpost : ∀ tb e args s v u, (limb_1_1.after args s (.returned v) u = true ∧ limb_1_2.after args s (.returned v) u = true ∧ True) → FrameEnd s (.returned v) u (Jvm.fieldLocs frame_1_writes args s ++ Jvm.arrayLocs frame_1_arrays args s ++ Jvm.staticLocs frame_1_statics s) 0 0 → Post tb e args s (.returned v) u) :
    ArmFor flags0 classFile x code maxLocals ret World_1 tables_1 room_1 Calls_1 rest_1 Pre_1 Post := by
  intro l hfl _ _ p e ha hc hk s m args below hf hA hF happ hP
  obtain ⟨hcalls, hrest, hpre⟩ := hP
  obtain ⟨-, -, -, hnamed, -, -, -, hat⟩ := (Spec.applies_iff hf).mp happ
  obtain ⟨hg, hn⟩ := and_e (Cond.before_iff.mp (show (Jvm.Cond.and given_1 narrow_1).before args s = true from hpre))
  obtain ⟨gc, g0⟩ := and_e hg
  obtain ⟨gv0, g1⟩ := and_e g0
  obtain ⟨w0, w1, rfl⟩ : ∃ w0 w1 : Value, args = #[w0, w1] := by
    have hs : args.size = 2 := by simpa [Cond.value, given_1] using gc
    obtain ⟨L⟩ := args
    match L, hs with
    | [w0, w1], _ => exact ⟨w0, w1, rfl⟩
  have hw := fun d (hd : d ∈ tables_1) => atoms_spec (ws := Jvm.Cond.code x code maxLocals ret :: tables_1) hat d (List.mem_cons_of_mem _ hd)
  have hfit : Fit s := fun {y c} hc i hi => by
    obtain ⟨ha, rfl⟩ := Array.getElem?_eq_some_iff.mp hc
    have q := List.all_eq_true.mp ((Array.all_eq_true_iff_forall_mem.mp hF) _ (Array.getElem_mem ha)) i (List.mem_range.mpr hi)
    simpa [Array.getElem?_eq_getElem hi] using q
  obtain ⟨i0, ei0⟩ := isL_v gv0
  obtain rfl : w0 = (.long i0) := Option.some.inj ei0
  obtain ⟨i1, ei1⟩ := is_v g1
  obtain rfl : w1 = (.int i1) := Option.some.inj ei1
  obtain ⟨n, o, h1, h2, h3, _, L, rfl, ⟨rfl, N⟩, hq⟩ := rm0 l s _ hw tables_1 i0 i1  s.heap s.heap.size (Nat.le_refl _)  p e ha hc hk s m _ below hf ((Spec.applies_iff_loose hf).mp happ).1 ⟨rfl, State.Warmed39.refl s, rfl⟩ trivial
  refine ⟨n, _, h1, h2, h3, hpost _ _ _ _ _ _ ⟨Cond.after_iff.mpr rfl, Cond.after_iff.mpr (eq_i res_at (Term.int_eval (1)) rfl), trivial⟩ ⟨hq.1, hq.2.1, (hq.2.2.sift fun y hy => Or.inr (N y hy)).mono (by decide) (by decide)⟩⟩
theorem main_1_1 : Claimed_1_1 := comes_1 fun _ _ _ _ _ _ h hF => ⟨h.1, hF⟩
theorem main_1_2 : Claimed_1_2 := comes_1 fun _ _ _ _ _ _ h hF => ⟨h.2.1, hF⟩
end Jvm.Pilot.@@N@@
namespace Jvm.Pilot.@@N@@
open Jvm Jvm.ClassFile Sem Op Lib Jvm.Free Jvm.Stand Jvm.Pilot.@@N@@.Jvm.D
/-! MADE BY PROGRAM (witnessworld.py) out of the Statement's table words and the real class files: 9 classes; the members and pool entries that the words name. The judged class is class 1, her method 2. -/
namespace start1
open Jvm.ClassFile
def u (s : String) : CpInfo := .utf8 (stringToUtf16 s)
/-- a pool by its gaps: so many unusable entries, then the entry; so many at the end -/
def gap : Nat → List CpInfo → List CpInfo
  | 0, r => r
  | n + 1, r => .unusable :: gap n r
def poolList (es : List (Nat × CpInfo)) (last : Nat) : List CpInfo := es.foldr (fun e r => gap e.1 (e.2 :: r)) (gap last [])
def pool (es : List (Nat × CpInfo)) (last : Nat) : Array CpInfo := ⟨poolList es last⟩
def fileOf (pool : Array CpInfo) (this : Nat) (attrs : Array Attribute := #[]) (ms : Array MethodInfo := #[]) (fl : Nat := 33) (sup : Nat := 0) (ifs : Array Nat := #[]) (fds : Array FieldInfo := #[]) : ClassFile where
  minorVersion := 0
  majorVersion := 65
  constantPool := pool
  accessFlags := fl
  thisClass := this
  superClass := sup
  interfaces := ifs
  fields := fds
  methods := ms
  attributes := attrs
def plain (name : String) (sup : Option ClassId) : Class where
  name := name
  kind := .ordinary
  loader := none
  accessFlags := 33
  super := sup
  interfaces := #[]
  cf := none
  fields := #[]
  methods := #[]
  instanceTypes := #[]
  staticTypes := #[]
  resolved := #[]
  callSites := []
  init := .initialized
  statics := none
  mirror := none

def pool0 : Array CpInfo := pool [(5, u "<init>"), (0, u "()V"), (1, .class_ 10), (1, u "java/lang/Object")] 113

def k0m0 : Method := { name := "<init>", desc := "()V", sig := { parameters := [], returnType := none }, accessFlags := 1, code := none }
/-- java/lang/Object -/
def k0 : Class := { plain "java/lang/Object" none with
  accessFlags := 33
  interfaces := #[]
  cf := some (fileOf pool0 8 #[] #[{ accessFlags := 1, nameIndex := 5, descriptorIndex := 6, attributes := #[] }] 33 0 #[] #[])
  fields := #[]
  methods := #[k0m0]
  instanceTypes := #[]
  staticTypes := #[]
  resolved := Array.replicate 124 none
  statics := none }

def pool1 : Array CpInfo := pool [(2, .class_ 4), (1, u "java/lang/Object"), (0, u "<init>"), (0, u "()V"), (0, .methodref 8 9), (0, .class_ 10), (0, .nameAndType 11 12), (0, u "com/example/touchmove/touchmove/board/AttacksKnightStepsPinLaw"), (0, u "has"), (0, u "(JII)Z"), (0, .methodref 14 15), (0, .class_ 16), (0, .nameAndType 17 18), (0, u "com/example/touchmove/touchmove/board/Attacks"), (0, u "knightSteps"), (0, u "(J)J"), (3, u "law"), (0, u "(JI)Z")] 2

def k1m0 : Method := { name := "<init>", desc := "()V", sig := { parameters := [], returnType := none }, accessFlags := 2, code := none }
def k1c1 : Code := { maxStack := 4, maxLocals := 4, code := method_2_code, exceptionTable := #[], attributes := #[] }
def k1m1 : Method := { name := "has", desc := "(JII)Z", sig := { parameters := [.long, .int, .int], returnType := some .boolean }, accessFlags := 10, code := some k1c1 }
def k1c2 : Code := { maxStack := 5, maxLocals := 10, code := code, exceptionTable := #[], attributes := #[] }
def k1m2 : Method := { name := "law", desc := "(JI)Z", sig := { parameters := [.long, .int], returnType := some .boolean }, accessFlags := 9, code := some k1c2 }
/-- com/example/touchmove/touchmove/board/AttacksKnightStepsPinLaw -/
def k1 : Class := { plain "com/example/touchmove/touchmove/board/AttacksKnightStepsPinLaw" (some 0) with
  accessFlags := 49
  interfaces := #[]
  cf := some (fileOf pool1 8 #[] #[{ accessFlags := 2, nameIndex := 5, descriptorIndex := 6, attributes := #[] }, { accessFlags := 10, nameIndex := 11, descriptorIndex := 12, attributes := #[] }, { accessFlags := 9, nameIndex := 22, descriptorIndex := 23, attributes := #[] }] 49 2 #[] #[])
  fields := #[]
  methods := #[k1m0, k1m1, k1m2]
  instanceTypes := #[]
  staticTypes := #[]
  resolved := Array.replicate 26 none
  statics := none }

def pool2 : Array CpInfo := pool [(2, .class_ 4), (1, u "java/lang/Object"), (0, u "<init>"), (0, u "()V"), (1, .class_ 10), (1, u "com/example/touchmove/touchmove/board/Attacks"), (10, u "KNIGHT"), (0, u "[J"), (2, u "KING"), (2, u "PAWN"), (0, u "[[J"), (8, u "LINES"), (8, .long 18374403900871474942), (1, .long 9187201950435737471), (4, u "(J)J"), (3, .long 18229723555195321596), (1, .long 4557430888798830399), (48, u "RANK_ATTACKS"), (0, u "[B"), (9, u "DIRECTIONS"), (0, u "[[I"), (11, u "FILE"), (0, u "I"), (2, u "DIAGONAL"), (1, u "ANTI_DIAGONAL"), (1, u "NOT_A"), (0, u "J"), (0, u "NOT_H"), (0, u "NOT_AB"), (0, u "NOT_GH"), (4, u "knightSteps")] 8

def k2m0 : Method := { name := "<init>", desc := "()V", sig := { parameters := [], returnType := none }, accessFlags := 2, code := none }
def k2c1 : Code := { maxStack := 6, maxLocals := 2, code := prog_34_method_13_code, exceptionTable := #[], attributes := #[] }
def k2m1 : Method := { name := "knightSteps", desc := "(J)J", sig := { parameters := [.long], returnType := some .long }, accessFlags := 9, code := some k2c1 }
/-- com/example/touchmove/touchmove/board/Attacks -/
def k2 : Class := { plain "com/example/touchmove/touchmove/board/Attacks" (some 0) with
  accessFlags := 49
  interfaces := #[]
  cf := some (fileOf pool2 8 #[] #[{ accessFlags := 2, nameIndex := 5, descriptorIndex := 6, attributes := #[] }, { accessFlags := 9, nameIndex := 150, descriptorIndex := 54, attributes := #[] }] 49 2 #[] #[{ accessFlags := 26, nameIndex := 120, descriptorIndex := 121, attributes := #[] }, { accessFlags := 26, nameIndex := 133, descriptorIndex := 134, attributes := #[] }, { accessFlags := 26, nameIndex := 137, descriptorIndex := 134, attributes := #[] }, { accessFlags := 26, nameIndex := 139, descriptorIndex := 134, attributes := #[] }, { accessFlags := 26, nameIndex := 141, descriptorIndex := 142, attributes := #[] }, { accessFlags := 26, nameIndex := 143, descriptorIndex := 142, attributes := #[] }, { accessFlags := 26, nameIndex := 144, descriptorIndex := 142, attributes := #[] }, { accessFlags := 26, nameIndex := 145, descriptorIndex := 142, attributes := #[] }, { accessFlags := 26, nameIndex := 38, descriptorIndex := 29, attributes := #[] }, { accessFlags := 26, nameIndex := 109, descriptorIndex := 110, attributes := #[] }, { accessFlags := 26, nameIndex := 21, descriptorIndex := 22, attributes := #[] }, { accessFlags := 26, nameIndex := 25, descriptorIndex := 22, attributes := #[] }, { accessFlags := 26, nameIndex := 28, descriptorIndex := 29, attributes := #[] }])
  fields := #[{ name := "DIRECTIONS", type := (.array (.array .int)), accessFlags := 26, slot := 0, constantValue := 0 }, { name := "FILE", type := .int, accessFlags := 26, slot := 1, constantValue := 0 }, { name := "DIAGONAL", type := .int, accessFlags := 26, slot := 2, constantValue := 0 }, { name := "ANTI_DIAGONAL", type := .int, accessFlags := 26, slot := 3, constantValue := 0 }, { name := "NOT_A", type := .long, accessFlags := 26, slot := 4, constantValue := 0 }, { name := "NOT_H", type := .long, accessFlags := 26, slot := 5, constantValue := 0 }, { name := "NOT_AB", type := .long, accessFlags := 26, slot := 6, constantValue := 0 }, { name := "NOT_GH", type := .long, accessFlags := 26, slot := 7, constantValue := 0 }, { name := "LINES", type := (.array (.array .long)), accessFlags := 26, slot := 8, constantValue := 0 }, { name := "RANK_ATTACKS", type := (.array .byte), accessFlags := 26, slot := 9, constantValue := 0 }, { name := "KNIGHT", type := (.array .long), accessFlags := 26, slot := 10, constantValue := 0 }, { name := "KING", type := (.array .long), accessFlags := 26, slot := 11, constantValue := 0 }, { name := "PAWN", type := (.array (.array .long)), accessFlags := 26, slot := 12, constantValue := 0 }]
  methods := #[k2m0, k2m1]
  instanceTypes := #[]
  staticTypes := #[(.array (.array .int)), .int, .int, .int, .long, .long, .long, .long, (.array (.array .long)), (.array .byte), (.array .long), (.array .long), (.array (.array .long))]
  resolved := Array.replicate 159 none
  statics := none }

def pool3 : Array CpInfo := pool [(1, u "java/lang/Cloneable"), (0, .class_ 1), (0, u "java/lang/Object"), (0, .class_ 3)] 3

/-- java/lang/Cloneable -/
def k3 : Class := { plain "java/lang/Cloneable" (some 0) with
  accessFlags := 1537
  interfaces := #[]
  cf := some (fileOf pool3 2 #[] #[] 1537 4 #[] #[])
  fields := #[]
  methods := #[]
  instanceTypes := #[]
  staticTypes := #[]
  resolved := Array.replicate 8 none
  statics := none }

def pool4 : Array CpInfo := pool [(1, u "java/io/Serializable"), (0, .class_ 1), (0, u "java/lang/Object"), (0, .class_ 3)] 3

/-- java/io/Serializable -/
def k4 : Class := { plain "java/io/Serializable" (some 0) with
  accessFlags := 1537
  interfaces := #[]
  cf := some (fileOf pool4 2 #[] #[] 1537 4 #[] #[])
  fields := #[]
  methods := #[]
  instanceTypes := #[]
  staticTypes := #[]
  resolved := Array.replicate 8 none
  statics := none }

/-- the primitive byte -/
def k5 : Class := { plain "byte" none with kind := .primitive 'B', accessFlags := 0x411 }
/-- [B -/
def k6 : Class := { plain "[B" (some 0) with kind := .array 5 .byte, interfaces := #[3, 4], accessFlags := 1041 }

/-- the primitive int -/
def k7 : Class := { plain "int" none with kind := .primitive 'I', accessFlags := 0x411 }
/-- [I -/
def k8 : Class := { plain "[I" (some 0) with kind := .array 7 .int, interfaces := #[3, 4], accessFlags := 1041 }

def heap : Heap := #[]
def classes : Array Class := #[k0, k1, k2, k3, k4, k5, k6, k7, k8]
def interned : List (Array UInt16 × Addr) := []
def slotsUsed : Nat := 0
def theMethod : MethodId := ⟨1, 2⟩
def args0 : Array Value := #[.long 5, .int 9]
def aboutOver (below : List Frame) : State where
  vm := { classes := classes, interned := interned.toArray }
  heap := heap
  slotsUsed := slotsUsed
  threads := #[{ frames := .invoking theMethod args0 :: below }]
def below0 : List Frame := [.native { method := ⟨0, 0⟩, args := #[] }]
def about1 : State := aboutOver below0
def p0 : Program := .bare "" "" ""
def e0 : Env := launch0.env 0 0 0
theorem w_frames : about1.frames = Frame.invoking theMethod args0 :: below0 := rfl
set_option maxRecDepth 65536 in
theorem w_args : argsFit about1.vm theMethod args0 = true := by decide +kernel
set_option maxRecDepth 65536 in
theorem w_heap : heapFits about1 = true := by decide +kernel
set_option maxRecDepth 65536 in
theorem w_runnable : about1.curStatus? = some .runnable := by decide +kernel
set_option maxRecDepth 65536 in
theorem w_alone : about1.alone = true := by decide +kernel
set_option maxRecDepth 65536 in
theorem w_named : about1.methodNamed? x = some theMethod := by decide +kernel
set_option maxRecDepth 65536 in
theorem w_hears : about1.hears theMethod below0 = true := by decide +kernel
set_option maxRecDepth 65536 in
theorem w_ripe : about1.ripe theMethod args0 below0 = true := by decide +kernel
theorem w_running : about1.status = .running := rfl
set_option maxRecDepth 65536 in
theorem w_room : about1.hasRoom e0.platform room_1 = true :=
  launch0.hasRoom_least _ room_1 (by decide +kernel) (by decide +kernel) (by decide +kernel) (by decide +kernel) (by decide +kernel) (by decide +kernel)
theorem allAtoms_all (ts : List Jvm.Cond) (a : Array Jvm.Value) (st : Jvm.State) : (allAtoms ts).before a st = ts.all (fun c => c.before a st) := by
  induction ts with
  | nil => rfl
  | cons c t ih =>
    show (Jvm.Cond.and c (allAtoms t)).before a st = _
    rw [Jvm.Cond.before_and, ih, List.all_cons]
def words1 : List Jvm.Cond := Jvm.Cond.code x code maxLocals ret :: tables_1
/-- a 'code' word, met by the world's own term for the bytes: nothing is compared byte by byte -/
theorem code_word {y : MethodName} {bytes : ByteArray} {mx : Nat} {rt : Option FieldType} {a : Array Value} {s : State} {m : MethodId} {meth : Method} {c : Code} (h1 : s.methodNamed? y = some m) (h2 : s.vm.method? m = some meth) (h3 : meth.code = some c) (h4 : c.code = bytes)
    (h5 : (c.maxLocals == mx && c.exceptionTable.isEmpty && decide (c.maxStack ≤ mostOperands) && decide (meth.sig.returnType = rt) && !meth.locks && decide (parseMethodDescriptor y.desc = some meth.sig)) = true) : (Jvm.Cond.code y bytes mx rt).before a s = true := by
  simp only [Bool.and_eq_true, beq_iff_eq, Bool.not_eq_true', decide_eq_true_eq] at h5
  obtain ⟨⟨⟨⟨⟨g1, g2⟩, g3⟩, g4⟩, g5⟩, g6⟩ := h5
  simp [Cond.before, Cond.holds, Cond.value, h1, h2, h3, h4, g1, g2, g3, g4, g5, g6]
def isCode : Jvm.Cond → Bool
  | .code _ _ _ _ => true
  | _ => false
theorem all_split {L : List Jvm.Cond} {P : Jvm.Cond → Bool} (h1 : L.all (fun c => isCode c || P c) = true) (h2 : ∀ c ∈ L.filter isCode, P c = true) : L.all P = true := by
  refine List.all_eq_true.mpr fun c hc => ?_
  have h := List.all_eq_true.mp h1 c hc
  rcases Bool.eq_false_or_eq_true (isCode c) with hi | hi
  · exact h2 c (List.mem_filter.mpr ⟨hc, hi⟩)
  · simpa [hi] using h
set_option maxRecDepth 65536 in
theorem w_c0 : (Jvm.Cond.code x code maxLocals ret).before args0 about1 = true := code_word (m := ⟨1, 2⟩) (meth := k1m2) (c := k1c2) (by decide +kernel) rfl rfl rfl (by decide +kernel)
set_option maxRecDepth 65536 in
theorem w_c1 : (Jvm.Cond.code ({ cls := "com/example/touchmove/touchmove/board/AttacksKnightStepsPinLaw", name := "has", desc := "(JII)Z" } : Jvm.MethodName) method_2_code (4 : Nat) (Option.some Jvm.ClassFile.FieldType.boolean)).before args0 about1 = true := code_word (m := ⟨1, 1⟩) (meth := k1m1) (c := k1c1) (by decide +kernel) rfl rfl rfl (by decide +kernel)
set_option maxRecDepth 65536 in
theorem w_c2 : (Jvm.Cond.code ({ cls := "com/example/touchmove/touchmove/board/Attacks", name := "knightSteps", desc := "(J)J" } : Jvm.MethodName) prog_34_method_13_code (2 : Nat) (Option.some Jvm.ClassFile.FieldType.long)).before args0 about1 = true := code_word (m := ⟨2, 1⟩) (meth := k2m1) (c := k2c1) (by decide +kernel) rfl rfl rfl (by decide +kernel)
def codes1 : List Jvm.Cond := [Jvm.Cond.code x code maxLocals ret, Jvm.Cond.code ({ cls := "com/example/touchmove/touchmove/board/AttacksKnightStepsPinLaw", name := "has", desc := "(JII)Z" } : Jvm.MethodName) method_2_code (4 : Nat) (Option.some Jvm.ClassFile.FieldType.boolean), Jvm.Cond.code ({ cls := "com/example/touchmove/touchmove/board/Attacks", name := "knightSteps", desc := "(J)J" } : Jvm.MethodName) prog_34_method_13_code (2 : Nat) (Option.some Jvm.ClassFile.FieldType.long)]
set_option maxRecDepth 65536 in
theorem codes_eq : words1.filter isCode = codes1 := rfl
theorem w_codes : ∀ c ∈ words1.filter isCode, c.before args0 about1 = true := by
  rw [codes_eq]
  intro c hc
  simp only [codes1, List.mem_cons, List.not_mem_nil, or_false] at hc
  rcases hc with rfl | rfl | rfl
  · exact w_c0
  · exact w_c1
  · exact w_c2
set_option maxRecDepth 65536 in
theorem w_t1 : words1.all (fun c => isCode c || c.before args0 about1) = true := by decide +kernel
theorem w_tables : (allAtoms (Jvm.Cond.code x code maxLocals ret :: tables_1)).before args0 about1 = true := by
  rw [allAtoms_all]
  show words1.all (fun c => c.before args0 about1) = true
  refine all_split ?_ w_codes
  rw [w_t1]
set_option maxRecDepth 65536 in
theorem w_case : (Jvm.Cond.and given_1 narrow_1).before args0 about1 = true := by decide +kernel
theorem w_applies : (headSpec (Jvm.Cond.code x code maxLocals ret :: tables_1) room_1).applies x e0.platform about1 = true :=
  (Spec.applies_iff w_frames).mpr ⟨w_running, w_runnable, w_alone, w_named, w_hears, w_ripe, w_room, w_tables⟩
theorem atStart : AtStart classFile x code maxLocals ret World_1 tables_1 room_1 Calls_1 rest_1 Pre_1 launch0 p0 e0 about1 theMethod args0 below0 :=
  ⟨lists_1, trivial, launch0.admits_env _ _ _, launch0.least_env, fairChoices_fair.cas, fairChoices_fair.clock, w_frames, w_args, w_heap, w_applies, trivial, trivial, w_case⟩
end start1
theorem witness_1 : WitnessClaimed_1 := ⟨start1.p0, start1.e0, start1.about1, start1.theMethod, start1.args0, start1.below0, start1.atStart⟩
end Jvm.Pilot.@@N@@
