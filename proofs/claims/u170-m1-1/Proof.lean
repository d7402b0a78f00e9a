import JvmDerived
import JvmDerived.Pilot.@@N@@Statement
import JvmDerived.Pilot.@@N@@Code
set_option linter.unusedVariables false
set_option linter.unusedSimpArgs false
namespace Jvm.Pilot.@@N@@
open Jvm Jvm.ClassFile Sem Op Lib Jvm.Free Jvm.Stand Jvm.LawKit Jvm.RoadKit Bundle Jvm.Pilot.@@N@@.Jvm.D
set_option maxRecDepth 65536
set_option maxHeartbeats 40000000
section Own
/-- from the state U the body comes to its end, and P holds there of what it returns, of the heap and of the places that were written -/
def own_G {tb : Tables} {e : Env} {below : List Frame} {s : State} {P : Option Value → Heap → List Loc → Prop} {k n : Nat} (U : State) : Prop :=
  ∃ s₂ o, Steps tb e below U s₂ ∧ s₂.status = .running ∧ Ended s₂ below o ∧ ∃ v L, o = .returned v ∧ P v s₂.heap L ∧ FrameEnd s o s₂ L k n
theorem up {tb : Tables} {e : Env} {below : List Frame} {s : State} {P : Option Value → Heap → List Loc → Prop} {k n : Nat} {U U' : State} (h : own_G (tb := tb) (e := e) (below := below) (s := s) (P := P) (k := k) (n := n) U') (q : ∀ t, Steps tb e below U' t → Steps tb e below U t) : own_G (tb := tb) (e := e) (below := below) (s := s) (P := P) (k := k) (n := n) U := by
  obtain ⟨s₂, o, h1, r⟩ := h
  exact ⟨s₂, o, q _ h1, r⟩
variable {p : Program} {l : Launch} {e : Env} {R : Room} {s : State} {m : MethodId} {args : Array Value} {below : List Frame} {meth : Method} {c : Code} {T : State} {locs : List Loc} {cells slots : Nat} {P : Option Value → Heap → List Loc → Prop} {k n : Nat}
theorem own_retI (X : Stand p l e R s m args below meth c T locs cells slots) (hx : p.tables.exec = Jvm.exec) (hlk : meth.locks = false) {t : FieldType} (hret : meth.sig.returnType = some t) (hti : t = .int ∨ t = .boolean ∨ t = .byte ∨ t = .char ∨ t = .short) {pc : Nat} {Ls : Array Slot} {w : Int32} (hn : narrow t (.int w) = .int w) (hd : decode c.code pc = .ok (.ireturn, 1)) (hP : P (some (.int w)) T.heap locs) (hk : cells ≤ k) (hs : slots ≤ n) : own_G (tb := p.tables) (e := e) (below := below) (s := s) (P := P) (k := k) (n := n) (T.setTop (mkF m pc Ls [.int w])) := by
  obtain ⟨fs, hr, hrun, hended, hW, hsame⟩ := X.leave (v := some (.int w)) (fun h => by rw [hret] at h; cases h) hlk
  exact ⟨_, _, X.ireturnOut hx hret hn hti hd hr, hrun, hended, _, _, rfl, hP, ⟨_, rfl⟩, hW, hsame.mono hk hs⟩
theorem own_retJ (X : Stand p l e R s m args below meth c T locs cells slots) (hx : p.tables.exec = Jvm.exec) (hlk : meth.locks = false) (hret : meth.sig.returnType = some .long) {pc : Nat} {Ls : Array Slot} {w : Int64} (hd : decode c.code pc = .ok (.lreturn, 1)) (hP : P (some (.long w)) T.heap locs) (hk : cells ≤ k) (hs : slots ≤ n) : own_G (tb := p.tables) (e := e) (below := below) (s := s) (P := P) (k := k) (n := n) (T.setTop (mkF m pc Ls [.long w])) := by
  obtain ⟨fs, hr, hrun, hended, hW, hsame⟩ := X.leave (v := some (.long w)) (fun h => by rw [hret] at h; cases h) hlk
  exact ⟨_, _, X.lreturnOut hx hret hd hr, hrun, hended, _, _, rfl, hP, ⟨_, rfl⟩, hW, hsame.mono hk hs⟩
theorem own_retA (X : Stand p l e R s m args below meth c T locs cells slots) (hx : p.tables.exec = Jvm.exec) (hlk : meth.locks = false) {t : FieldType} (hret : meth.sig.returnType = some t) (ht : t.isReference = true) {pc : Nat} {Ls : Array Slot} {w : Value} (hw : w.isRef = true) (hd : decode c.code pc = .ok (.areturn, 1)) (hP : P (some w) T.heap locs) (hk : cells ≤ k) (hs : slots ≤ n) : own_G (tb := p.tables) (e := e) (below := below) (s := s) (P := P) (k := k) (n := n) (T.setTop (mkF m pc Ls [w])) := by
  obtain ⟨fs, hr, hrun, hended, hW, hsame⟩ := X.leave (v := some w) (fun h => by rw [hret] at h; cases h) hlk
  exact ⟨_, _, X.areturnOut hx hw hret ht hd hr, hrun, hended, _, _, rfl, hP, ⟨_, rfl⟩, hW, hsame.mono hk hs⟩
theorem own_retV (X : Stand p l e R s m args below meth c T locs cells slots) (hx : p.tables.exec = Jvm.exec) (hlk : meth.locks = false) (hret : meth.sig.returnType = none) {pc : Nat} {Ls : Array Slot} (hd : decode c.code pc = .ok (.return_, 1)) (hP : P none T.heap locs) (hk : cells ≤ k) (hs : slots ≤ n) : own_G (tb := p.tables) (e := e) (below := below) (s := s) (P := P) (k := k) (n := n) (T.setTop (mkF m pc Ls [])) := by
  obtain ⟨fs, hr, hrun, hended, hW, hsame⟩ := X.leave (v := none) (fun _ => rfl) hlk
  exact ⟨_, _, X.returnOut hx hret hd hr, hrun, hended, _, _, rfl, hP, ⟨_, rfl⟩, hW, hsame.mono hk hs⟩
end Own
abbrev own_W (Z : State) (a0 : Array Value) : Prop := ∀ d ∈ tables_1, d.before a0 Z = true
abbrev own_M (l : Launch) (Z : State) (y : MethodName) (cd : ByteArray) (ml : Nat) (rt : Option FieldType) (ws : List Jvm.Cond) (R : Room) (as : Array Value) (h0 : Heap) (Q : Option Value → Heap → List Loc → Prop) : Prop :=
  MetFree l y (head1 (Jvm.Cond.code y cd ml rt :: ws) R) (fun aa UU => aa = as ∧ Z.Warmed39 UU.vm ∧ UU.heap = h0) (fun _ _ _ _ _ => True) (fun _ UU oo UU' => ∃ vv LL, oo = .returned vv ∧ Q vv UU'.heap LL ∧ FrameEnd UU oo UU' LL R.cells R.slots)
theorem own_body {l : Launch} {Z : State} {y : MethodName} {cd : ByteArray} {ml : Nat} {rt : Option FieldType} {ws : List Jvm.Cond} {R : Room} {as : Array Value} {h0 : Heap} {Q : Option Value → Heap → List Loc → Prop} (hp : plainFor y = true)
    (body : ∀ (p : Program) (e : Env) (s : State) (m : MethodId) (below : List Frame) (meth : Method) (c : Code) (s₁ : State), p.tables.exec = Jvm.exec → Z.Warmed39 s.vm → c.code = cd → c.maxLocals = ml → s.vm.findClass y.cls = some m.cls → meth.name = y.name → meth.locks = false → meth.sig.returnType = rt → Stand p l e R s m as below meth c s₁ [] 0 0 → s₁.heap = h0 →
      own_G (tb := p.tables) (e := e) (below := below) (s := s) (P := Q) (k := R.cells) (n := R.slots) (s₁.setTop (entryFrame m as ml))) : own_M l Z y cd ml rt ws R as h0 Q := by
  refine MetFree.of_bodySF hp hisR ?_
  intro p e s m args below meth c s₁ Bd hml0 hP hK
  obtain ⟨rfl, hZ, hh⟩ := hP
  exact body p e s m below meth c s₁ Bd.exec hZ Bd.bytes hml0 (findClass_of_methodNamed Bd.named) (name_of_methodNamed Bd.named Bd.method).1 Bd.notSynchronized Bd.returns (Stand.of_body Bd) (by rw [← hh, Bd.state]; rfl)
abbrev oU : Slot := .unset
abbrev oS : Slot := .second
abbrev oN : Slot := .val .null
abbrev oI (x : Int32) : Slot := .val (.int x)
abbrev oJ (x : Int64) : Slot := .val (.long x)
abbrev oA (x : Addr) : Slot := .val (.ref x)
theorem own_sel {s : State} {args : Array Value} {y : MethodName} {n : Nat} (hy : y.cls ≠ "java/lang/invoke/MethodHandle" ∧ y.cls ≠ "java/lang/invoke/VarHandle") (h1 : (Jvm.Cond.instanceMethod y).before args s = true) (h2 : (Jvm.Cond.privateMethod y).before args s = true) (h3 : (Jvm.Cond.instantiable y.cls n).before args s = true) : (Jvm.Cond.selects y.cls y y).before args s = true := by
  obtain ⟨mk, meth, hn, hm, -, -⟩ := Cond.instanceMethod_spec h1
  obtain ⟨c, k, g1, g2, g3, g4, -⟩ := Cond.instantiable_spec h3
  have hc : s.vm.findClass y.cls = some mk.cls := findClass_of_methodNamed hn
  cases g1.symm.trans hc
  have g8 : k.isInterface = false := (Bool.or_eq_false_iff.mp g4).1
  have hp := Cond.privateMethod_at h2 mk meth hn hm
  have hs : selectMethod {} s.vm mk.cls mk = .method mk := selectMethod_private hm hp
  have hf : s.methodFound? y.cls y.name y.desc = some mk := State.methodFound?_of_named hn hy
  simp [Cond.before, Cond.holds, Cond.value, hc, hf, hn, hs, g2, g8]
/-- the shift by which the program takes a word's sign -/
def own_sg (w : Int64) : Int64 := (w >>> ((63 : Int32) &&& 0x3f).toInt64)
def own_co (b w a : Int64) : Int64 := ((((b &&& w) ||| ((b ||| w) &&& (a ^^^ (-1 : Int64)))).toUInt64 >>> ((63 : Int32) &&& 0x3f).toInt64.toUInt64).toInt64)
/-- a word without its sign -/
def own_u (w : Int64) : Int := w.toInt % 18446744073709551616
def own_val (y0 y1 : Int64) : Int := y1.toInt * 18446744073709551616 + own_u y0
theorem own_u_rng (w : Int64) : 0 ≤ own_u w ∧ own_u w < 18446744073709551616 ∧ (0 ≤ w.toInt → own_u w = w.toInt) ∧ (w.toInt < 0 → own_u w = w.toInt + 18446744073709551616) := by
  have := rng64 w
  unfold own_u
  omega
theorem own_sg_val (w : Int64) : (w.toInt < 0 → (own_sg w).toInt = -1) ∧ (0 ≤ w.toInt → (own_sg w).toInt = 0) := by
  unfold own_sg
  rw [c_lshr w 63 63 (by decide)]
  have := rng64 w
  omega
theorem own_ms (w : Int64) : w.toBitVec.msb = decide (w.toInt < 0) := BitVec.msb_eq_toInt
theorem own_co_val (b w a : Int64) : (own_co b w a).toInt = (if (b.toInt < 0 ∧ w.toInt < 0) ∨ ((b.toInt < 0 ∨ w.toInt < 0) ∧ ¬ a.toInt < 0) then 1 else 0) := by
  unfold own_co
  rw [c_lushr _ 63 63 (by decide) (by decide)]
  have hm := own_ms ((b &&& w) ||| ((b ||| w) &&& (a ^^^ (-1 : Int64))))
  have hr := rng64 ((b &&& w) ||| ((b ||| w) &&& (a ^^^ (-1 : Int64))))
  rw [Int64.toBitVec_or, Int64.toBitVec_and, Int64.toBitVec_and, Int64.toBitVec_or, Int64.toBitVec_xor, BitVec.msb_or, BitVec.msb_and, BitVec.msb_and, BitVec.msb_or, BitVec.msb_xor, own_ms b, own_ms w, own_ms a, show (-1 : Int64).toBitVec.msb = true by decide] at hm
  generalize ((b &&& w) ||| ((b ||| w) &&& (a ^^^ (-1 : Int64)))).toInt = E at *
  by_cases h1 : b.toInt < 0 <;> by_cases h2 : w.toInt < 0 <;> by_cases h3 : a.toInt < 0 <;> simp [h1, h2, h3] at hm ⊢ <;> omega
theorem own_carry {b w c a : Int64} (e : a = (b + w) + c) (hc : c.toInt = 0 ∨ c.toInt = 1) : own_u b + own_u w + c.toInt = own_u a + 18446744073709551616 * (own_co b w a).toInt ∧ ((own_co b w a).toInt = 0 ∨ (own_co b w a).toInt = 1) := by
  have h1 := own_co_val b w a
  have h2 := c_ladd b w
  have h3 := c_ladd (b + w) c
  rw [← e] at h3
  have := rng64 b; have := rng64 w; have := rng64 a; have := rng64 (b + w)
  have := own_u_rng b; have := own_u_rng w; have := own_u_rng a
  generalize (own_co b w a).toInt = K at *
  split at h1 <;> omega
theorem own_add3 {x0 x1 x2 f g t y0 y1 y2 : Int64} (A B : Int) (hA : own_u x0 + 18446744073709551616 * own_u x1 + 340282366920938463463374607431768211456 * x2.toInt = A) (hB : own_u f + 18446744073709551616 * own_u g + 340282366920938463463374607431768211456 * t.toInt = B)
    (h1 : -170141183460469231731687303715884105728 ≤ A + B) (h2 : A + B < 170141183460469231731687303715884105728) (e0 : y0 = (x0 + f) + (0 : Int64)) (e1 : y1 = (x1 + g) + own_co x0 f y0) (e2 : y2 = (x2 + t) + own_co x1 g y1) : y2 = own_sg y1 ∧ own_val y0 y1 = A + B := by
  obtain ⟨a1, a2⟩ := own_carry e0 (Or.inl rfl)
  obtain ⟨b1, b2⟩ := own_carry e1 a2
  have q1 := c_ladd x2 t
  have q2 := c_ladd (x2 + t) (own_co x1 g y1)
  rw [← e2] at q2
  have z0 : (0 : Int64).toInt = 0 := rfl
  have := rng64 x2; have := rng64 t; have := rng64 y2; have := rng64 y1; have := rng64 (x2 + t)
  have r0 := own_u_rng y0; have r1 := own_u_rng y1
  have s1 := own_sg_val y1
  have v : own_val y0 y1 = y1.toInt * 18446744073709551616 + own_u y0 := rfl
  generalize (own_co x0 f y0).toInt = K0 at *
  generalize (own_co x1 g y1).toInt = K1 at *
  generalize own_u x0 = X0 at *; generalize own_u x1 = X1 at *; generalize own_u f = F at *; generalize own_u g = G at *; generalize own_u y0 = Y0 at *; generalize own_u y1 = Y1 at *
  have k : y2.toInt = (own_sg y1).toInt ∧ own_val y0 y1 = A + B := by omega
  exact ⟨Int64.toInt_inj.mp k.1, k.2⟩
theorem own_top4 {Y0 Y1 Y2 M S : Int} {y1 y2 y3 : Int64} (r0 : 0 ≤ Y0 ∧ Y0 < 18446744073709551616) (r1 : Y1 = own_u y1) (r2 : Y2 = own_u y2) (hS : S = Y0 + 18446744073709551616 * Y1 + 340282366920938463463374607431768211456 * Y2 + 6277101735386680763835789423207666416102355444464034512896 * M) (h1 : -170141183460469231731687303715884105728 ≤ S) (h2 : S < 170141183460469231731687303715884105728) (h3 : (y3.toInt - M) % 18446744073709551616 = 0) :
    y3 = own_sg y2 ∧ y2 = own_sg y1 ∧ y1.toInt * 18446744073709551616 + Y0 = S := by
  have a1 := own_u_rng y1; have a2 := own_u_rng y2
  have b1 := rng64 y1; have b2 := rng64 y2; have b3 := rng64 y3
  have s1 := own_sg_val y1; have s2 := own_sg_val y2
  rw [← r1] at a1; rw [← r2] at a2
  have m : M = 0 ∨ M = -1 := by omega
  rcases m with rfl | rfl
  · have e2 : Y2 = 0 := by omega
    have e3 : y2.toInt = 0 := by omega
    have e1 : y1.toInt = Y1 := by omega
    have k : y3.toInt = (own_sg y2).toInt ∧ y2.toInt = (own_sg y1).toInt ∧ y1.toInt * 18446744073709551616 + Y0 = S := by omega
    exact ⟨Int64.toInt_inj.mp k.1, Int64.toInt_inj.mp k.2.1, k.2.2⟩
  · have e2 : Y2 = 18446744073709551615 := by omega
    have e3 : y2.toInt = -1 := by omega
    have e1 : y1.toInt = Y1 - 18446744073709551616 := by omega
    have k : y3.toInt = (own_sg y2).toInt ∧ y2.toInt = (own_sg y1).toInt ∧ y1.toInt * 18446744073709551616 + Y0 = S := by omega
    exact ⟨Int64.toInt_inj.mp k.1, Int64.toInt_inj.mp k.2.1, k.2.2⟩
theorem own_add4 {x0 x1 x2 x3 f g t y0 y1 y2 y3 : Int64} (A B : Int) (hA : own_u x0 + 18446744073709551616 * own_u x1 + 340282366920938463463374607431768211456 * own_u x2 + 6277101735386680763835789423207666416102355444464034512896 * x3.toInt = A) (hB : own_u f + 18446744073709551616 * own_u g + 340282366920938463463374607431768211456 * t.toInt = B)
    (h1 : -170141183460469231731687303715884105728 ≤ A + B) (h2 : A + B < 170141183460469231731687303715884105728) (e0 : y0 = (x0 + f) + (0 : Int64)) (e1 : y1 = (x1 + g) + own_co x0 f y0) (e2 : y2 = (x2 + t) + own_co x1 g y1) (e3 : y3 = (x3 + own_sg t) + own_co x2 t y2) : y3 = own_sg y2 ∧ y2 = own_sg y1 ∧ own_val y0 y1 = A + B := by
  obtain ⟨a1, a2⟩ := own_carry e0 (Or.inl rfl)
  obtain ⟨b1, b2⟩ := own_carry e1 a2
  obtain ⟨d1, d2⟩ := own_carry e2 b2
  have q1 := c_ladd x3 (own_sg t)
  have q2 := c_ladd (x3 + own_sg t) (own_co x2 t y2)
  rw [← e3] at q2
  have z0 : (0 : Int64).toInt = 0 := rfl
  have r0 := own_u_rng y0
  have r3 : own_u t = t.toInt - 18446744073709551616 * (own_sg t).toInt := by
    have := own_u_rng t; have := own_sg_val t
    omega
  refine own_top4 (Y0 := own_u y0) (S := A + B) (M := x3.toInt + (own_sg t).toInt + (own_co x2 t y2).toInt) ⟨r0.1, r0.2.1⟩ rfl rfl ?_ h1 h2 (by omega)
  rw [← hA, ← hB]
  omega
/-! shifts -/
theorem own_u_nat (w : Int64) : own_u w = (w.toBitVec.toNat : Int) := by
  have h : w.toInt = w.toBitVec.toInt := rfl
  have := w.toBitVec.isLt
  unfold own_u
  rw [h, BitVec.toInt_eq_toNat_cond]
  split <;> omega
def own_s1 (lo : Int64) (bs : Int32) : Int64 := (lo <<< (bs &&& 0x3f).toInt64)
def own_s2 (hi lo : Int64) (bs : Int32) : Int64 := ((hi <<< (bs &&& 0x3f).toInt64) ||| ((((lo.toUInt64 >>> ((1 : Int32) &&& 0x3f).toInt64.toUInt64).toInt64).toUInt64 >>> (((63 : Int32) - bs) &&& 0x3f).toInt64.toUInt64).toInt64))
def own_s3 (hi : Int64) (bs : Int32) : Int64 := ((hi >>> ((1 : Int32) &&& 0x3f).toInt64) >>> (((63 : Int32) - bs) &&& 0x3f).toInt64)
theorem own_sh (q : Int32) (k : Nat) (hk : q.toBitVec.toNat % 64 = k) : ((q &&& 0x3f).toInt64.toBitVec % 64).toNat = k := by
  have h5 := (sm64 q k hk).2
  rw [BitVec.toNat_umod, (sm64 q k hk).1, BitVec.toNat_ofNat]
  show k % 2 ^ 64 % 64 = k
  omega
theorem own_p64 : ((2 ^ 64 : Nat) : Int) = 18446744073709551616 := by decide
theorem own_u_s1 (lo : Int64) (bs : Int32) (k : Nat) (hk : bs.toBitVec.toNat % 64 = k) : own_u (own_s1 lo bs) = (own_u lo * (2 ^ k : Nat)) % 18446744073709551616 := by
  rw [own_u_nat, own_u_nat]
  have e : (own_s1 lo bs).toBitVec = lo.toBitVec <<< k := by
    show lo.toBitVec <<< ((bs &&& 0x3f).toInt64.toBitVec.smod 64) = _
    rw [BitVec.shiftLeft_eq', (sm64 bs k hk).1, smod64 k (sm64 bs k hk).2]
  rw [e, BitVec.toNat_shiftLeft, Nat.shiftLeft_eq, Int.natCast_emod, Int.natCast_mul, own_p64]
theorem own_k63 (bs : Int32) (k : Nat) (hk : bs.toBitVec.toNat = k) (h : k < 64) : ((63 : Int32) - bs).toBitVec.toNat % 64 = 63 - k := by
  have e : bs = Int32.ofBitVec (BitVec.ofNat 32 k) := Int32.toBitVec_inj.mp (BitVec.eq_of_toNat_eq (by rw [hk]; show k = k % 2 ^ 32; omega))
  have : ∀ k : Fin 64, ((63 : Int32) - Int32.ofBitVec (BitVec.ofNat 32 k.val)).toBitVec.toNat % 64 = 63 - k.val := by decide +kernel
  rw [e]; exact this ⟨k, h⟩
theorem own_u_s2 (hi lo : Int64) (bs : Int32) (k : Nat) (hk : bs.toBitVec.toNat = k) (h : k < 64) : own_u (own_s2 hi lo bs) = (own_u hi * (2 ^ k : Nat)) % 18446744073709551616 + own_u lo / (2 ^ (64 - k) : Nat) := by
  rw [own_u_nat, own_u_nat, own_u_nat]
  have hk' : bs.toBitVec.toNat % 64 = k := by rw [hk]; omega
  have e : (own_s2 hi lo bs).toBitVec = (hi.toBitVec <<< k) ||| ((lo.toBitVec >>> 1) >>> (63 - k)) := by
    show (hi.toBitVec <<< ((bs &&& 0x3f).toInt64.toBitVec.smod 64)) ||| ((lo.toBitVec >>> (((1 : Int32) &&& 0x3f).toInt64.toBitVec % 64)) >>> ((((63 : Int32) - bs) &&& 0x3f).toInt64.toBitVec % 64)) = _
    rw [BitVec.shiftLeft_eq', (sm64 bs k hk').1, smod64 k h, BitVec.ushiftRight_eq', BitVec.ushiftRight_eq', own_sh 1 1 (by decide), own_sh _ (63 - k) (own_k63 bs k hk h)]
  rw [e, BitVec.toNat_or, BitVec.toNat_shiftLeft, BitVec.toNat_ushiftRight, BitVec.toNat_ushiftRight]
  have h1 := hi.toBitVec.isLt
  have h2 := lo.toBitVec.isLt
  generalize hi.toBitVec.toNat = H at *
  generalize lo.toBitVec.toNat = L at *
  have e1 : L >>> 1 >>> (63 - k) = L / 2 ^ (64 - k) := by
    rw [← Nat.shiftRight_add, Nat.shiftRight_eq_div_pow]; congr 2; omega
  have e2 : H <<< k % 2 ^ 64 = (H % 2 ^ (64 - k)) <<< k := by
    rw [Nat.shiftLeft_eq, Nat.shiftLeft_eq, show (2 : Nat) ^ 64 = 2 ^ (64 - k) * 2 ^ k by rw [← Nat.pow_add]; congr 1; omega, Nat.mul_mod_mul_right]
  have e3 : L / 2 ^ (64 - k) < 2 ^ k := by
    rw [Nat.div_lt_iff_lt_mul (Nat.two_pow_pos _), ← Nat.pow_add, show k + (64 - k) = 64 by omega]; exact h2
  rw [e1, e2, ← Nat.shiftLeft_add_eq_or_of_lt e3, ← e2, Nat.shiftLeft_eq, Int.natCast_add, Int.natCast_emod, Int.natCast_mul, Int.natCast_ediv, own_p64]
theorem own_s3_val (hi : Int64) (bs : Int32) (k : Nat) (hk : bs.toBitVec.toNat = k) (h : k < 64) : (own_s3 hi bs).toInt = hi.toInt / 2 / (2 ^ (63 - k) : Nat) := by
  unfold own_s3
  rw [c_lshr _ _ (63 - k) (own_k63 bs k hk h), c_lshr hi 1 1 (by decide)]
  rfl
/-- the number on the words' grid -/
theorem own_num (hi lo : Int64) (bs : Int32) (k : Nat) (hk : bs.toBitVec.toNat = k) (h : k ≤ 3) : own_u (own_s1 lo bs) + 18446744073709551616 * own_u (own_s2 hi lo bs) + 340282366920938463463374607431768211456 * (own_s3 hi bs).toInt = own_val lo hi * (2 ^ k : Nat) := by
  have h1 := own_u_s1 lo bs k (by rw [hk]; omega)
  have h2 := own_u_s2 hi lo bs k hk (by omega)
  have h3 := own_s3_val hi bs k hk (by omega)
  have v : own_val lo hi = hi.toInt * 18446744073709551616 + own_u lo := rfl
  have r1 := own_u_rng lo
  have r2 : own_u hi = hi.toInt % 18446744073709551616 := rfl
  have r3 := rng64 hi
  rw [h1, h2, h3, v]
  generalize own_u lo = U at *; generalize own_u hi = H at *; generalize hi.toInt = I at *
  have : k = 0 ∨ k = 1 ∨ k = 2 ∨ k = 3 := by omega
  rcases this with rfl | rfl | rfl | rfl <;> simp only [Nat.reducePow, Nat.reduceSub, Int.cast_ofNat_Int] <;> omega
/-- one word (and its sign), moved up within two words and their sign -/
theorem own_upA (x0 : Int64) (bs : Int32) (k : Nat) (hk : bs.toBitVec.toNat = k) (h : k ≤ 3 ∨ k = 61 ∨ k = 62 ∨ k = 63) : own_u (own_s2 x0 (0 : Int64) bs) + 18446744073709551616 * own_u (own_s2 (own_sg x0) x0 bs) + 340282366920938463463374607431768211456 * (own_s2 (own_sg (own_sg x0)) (own_sg x0) bs).toInt = x0.toInt * (2 ^ k : Nat) := by
  have h1 := own_u_s2 x0 0 bs k hk (by omega)
  have h2 := own_u_s2 (own_sg x0) x0 bs k hk (by omega)
  have h3 := own_u_s2 (own_sg (own_sg x0)) (own_sg x0) bs k hk (by omega)
  have r0 := own_u_rng (own_s2 (own_sg (own_sg x0)) (own_sg x0) bs)
  have t0 := rng64 (own_s2 (own_sg (own_sg x0)) (own_sg x0) bs)
  have s1 := own_sg_val x0; have s2 := own_sg_val (own_sg x0)
  have r1 := own_u_rng x0; have r2 := own_u_rng (own_sg x0); have r3 := own_u_rng (own_sg (own_sg x0))
  have z : own_u (0 : Int64) = 0 := rfl
  have r4 := rng64 x0
  rw [z] at h1
  generalize own_u (own_s2 x0 0 bs) = A0 at *; generalize own_u (own_s2 (own_sg x0) x0 bs) = A1 at *; generalize own_u (own_s2 (own_sg (own_sg x0)) (own_sg x0) bs) = A2 at *
  generalize (own_s2 (own_sg (own_sg x0)) (own_sg x0) bs).toInt = B2 at *
  generalize own_u x0 = U0 at *; generalize own_u (own_sg x0) = U1 at *; generalize own_u (own_sg (own_sg x0)) = U2 at *
  generalize (own_sg (own_sg x0)).toInt = S2 at *; generalize (own_sg x0).toInt = S1 at *; generalize x0.toInt = X at *
  have : k = 0 ∨ k = 1 ∨ k = 2 ∨ k = 3 ∨ k = 61 ∨ k = 62 ∨ k = 63 := by omega
  by_cases hx : X < 0
  · have e1 : S1 = -1 := by omega
    have e2 : S2 = -1 := by omega
    have e3 : U1 = 18446744073709551615 := by omega
    have e4 : U2 = 18446744073709551615 := by omega
    have e5 : U0 = X + 18446744073709551616 := by omega
    subst e1 e2 e3 e4 e5
    rcases this with rfl | rfl | rfl | rfl | rfl | rfl | rfl <;> simp only [Nat.reducePow, Nat.reduceSub, Int.cast_ofNat_Int] at * <;> omega
  · have e1 : S1 = 0 := by omega
    have e2 : S2 = 0 := by omega
    have e3 : U1 = 0 := by omega
    have e4 : U2 = 0 := by omega
    have e5 : U0 = X := by omega
    subst e1 e2 e3 e4 e5
    rcases this with rfl | rfl | rfl | rfl | rfl | rfl | rfl <;> simp only [Nat.reducePow, Nat.reduceSub, Int.cast_ofNat_Int] at * <;> omega
/-- two words and their sign, moved up by at most three bits, in four words -/
theorem own_upB (x0 x1 : Int64) (bs : Int32) (k : Nat) (hk : bs.toBitVec.toNat = k) (h : k ≤ 3) : own_u (own_s2 x0 (0 : Int64) bs) + 18446744073709551616 * own_u (own_s2 x1 x0 bs) + 340282366920938463463374607431768211456 * own_u (own_s2 (own_sg x1) x1 bs) + 6277101735386680763835789423207666416102355444464034512896 * (own_s2 (own_sg (own_sg x1)) (own_sg x1) bs).toInt = own_val x0 x1 * (2 ^ k : Nat) := by
  have h0 := own_u_s2 x0 0 bs k hk (by omega)
  have h1 := own_u_s2 x1 x0 bs k hk (by omega)
  have hA := own_upA x1 bs k hk (by omega)
  have hz := own_u_s2 x1 0 bs k hk (by omega)
  have z : own_u (0 : Int64) = 0 := rfl
  have v : own_val x0 x1 = x1.toInt * 18446744073709551616 + own_u x0 := rfl
  have r1 := own_u_rng x0; have r2 := own_u_rng x1
  rw [z] at h0 hz
  rw [v]
  generalize own_u (own_s2 (own_sg x1) x1 bs) = A2 at *; generalize (own_s2 (own_sg (own_sg x1)) (own_sg x1) bs).toInt = B3 at *
  generalize own_u (own_s2 x0 0 bs) = A0 at *; generalize own_u (own_s2 x1 x0 bs) = A1 at *; generalize own_u (own_s2 x1 0 bs) = A1' at *
  generalize own_u x0 = U0 at *; generalize own_u x1 = U1 at *; generalize x1.toInt = X1 at *
  have : k = 0 ∨ k = 1 ∨ k = 2 ∨ k = 3 := by omega
  rcases this with rfl | rfl | rfl | rfl <;> simp only [Nat.reducePow, Nat.reduceSub, Int.cast_ofNat_Int] at * <;> omega
/-- one word, moved up by a word and at most three bits -/
theorem own_upC (x0 : Int64) (bs : Int32) (k : Nat) (hk : bs.toBitVec.toNat = k) (h : k ≤ 3) : own_u (0 : Int64) + 18446744073709551616 * own_u (own_s2 x0 (0 : Int64) bs) + 340282366920938463463374607431768211456 * own_u (own_s2 (own_sg x0) x0 bs) + 6277101735386680763835789423207666416102355444464034512896 * (own_s2 (own_sg (own_sg x0)) (own_sg x0) bs).toInt = x0.toInt * 18446744073709551616 * (2 ^ k : Nat) := by
  have hA := own_upA x0 bs k hk (by omega)
  have z : own_u (0 : Int64) = 0 := rfl
  rw [z]
  have e : x0.toInt * 18446744073709551616 * ((2 ^ k : Nat) : Int) = 18446744073709551616 * (x0.toInt * ((2 ^ k : Nat) : Int)) := by rw [Int.mul_comm x0.toInt, Int.mul_assoc]
  rw [e, ← hA]
  omega
theorem own_m {d : Jvm.Cond} (i : Nat) (h : tables_1[i]? = some d) : d ∈ tables_1 := List.mem_of_getElem? h
def own_O (Z : State) (h : Heap) (a r : Addr) (kr : ClassId) (zc n pw : Int32) (vs : List Value) : Prop := Exa Z h a "com/example/eventweir/eventweir/ExactSum" ∧ Fld Z h a "com/example/eventweir/eventweir/ExactSum" "words" "[J" (.ref r) ∧ Fld Z h a "com/example/eventweir/eventweir/ExactSum" "length" "I" (.int n) ∧ Fld Z h a "com/example/eventweir/eventweir/ExactSum" "power" "I" (.int pw) ∧ Arv Z h r kr .long zc vs (.long (0 : Int64))
def own_cap (zc : Int32) (tl : List Value) : Prop := (zc = (3 : Int32) ∧ tl = []) ∨ (zc = (4 : Int32) ∧ ∃ x3 : Int64, tl = [(.long x3)])
theorem own_i0 {zc : Int32} {tl : List Value} (h : own_cap zc tl) : (0 : Int32) < zc := by rcases h with ⟨rfl, -⟩ | ⟨rfl, -⟩ <;> decide
theorem own_i1 {zc : Int32} {tl : List Value} (h : own_cap zc tl) : (1 : Int32) < zc := by rcases h with ⟨rfl, -⟩ | ⟨rfl, -⟩ <;> decide
theorem own_i2 {zc : Int32} {tl : List Value} (h : own_cap zc tl) : (2 : Int32) < zc := by rcases h with ⟨rfl, -⟩ | ⟨rfl, -⟩ <;> decide
theorem own_n2 {zc : Int32} {tl : List Value} (h : own_cap zc tl) : ¬ (zc < (2 : Int32)) := by rcases h with ⟨rfl, -⟩ | ⟨rfl, -⟩ <;> decide
theorem own_n3 {zc : Int32} {tl : List Value} (h : own_cap zc tl) : ¬ (zc < (3 : Int32)) := by rcases h with ⟨rfl, -⟩ | ⟨rfl, -⟩ <;> decide
theorem own_big {zc : Int32} {tl : List Value} (h : own_cap zc tl) : ¬ (((((2 : Int32) * (0 : Int32)) + (8 : Int32)) < zc) ∨ ((((2 : Int32) * (1 : Int32)) + (8 : Int32)) < zc) ∨ ((((2 : Int32) * (2 : Int32)) + (8 : Int32)) < zc)) := by rcases h with ⟨rfl, -⟩ | ⟨rfl, -⟩ <;> decide
theorem own_cap4 (x3 : Int64) : own_cap (4 : Int32) [(.long x3)] := Or.inr ⟨rfl, x3, rfl⟩
def own_minI (a b : Int32) : Int32 := if b < a then b else a
def own_Q_sg (Z : State) (w : Int32) (h0 : Heap) (n0 : Nat) (v : Option Value) (h : Heap) (L : List Loc) : Prop := v = some (.int w) ∧ Fr n0 L ∧ h = h0
theorem own_cpin {zc : Int32} {tl : List Value} (h : own_cap zc tl) : (1 : Int32).toNatClampNeg + (1 : Int32).toNatClampNeg ≤ zc.toNatClampNeg := by rcases h with ⟨rfl, -⟩ | ⟨rfl, -⟩ <;> decide
theorem own_cpin0 {zc : Int32} {tl : List Value} (h : own_cap zc tl) : (0 : Int32).toNatClampNeg + (1 : Int32).toNatClampNeg ≤ zc.toNatClampNeg := by rcases h with ⟨rfl, -⟩ | ⟨rfl, -⟩ <;> decide
theorem own_nz0 {zc : Int32} {tl : List Value} (h : own_cap zc tl) : ¬ (zc < (0 : Int32)) := by rcases h with ⟨rfl, -⟩ | ⟨rfl, -⟩ <;> decide
def own_St (Z : State) (h : Heap) (n0 : Nat) (a : Addr) (y0 y1 : Int64) (q : Int32) : Prop :=
  ∃ (r : Addr) (kr : ClassId) (zc n pw : Int32) (vs : List Value), own_O Z h a r kr zc n pw vs ∧
    ((n = (0 : Int32) ∧ y0 = 0 ∧ y1 = 0 ∧ ((zc = (0 : Int32) ∧ vs = []) ∨ (n0 ≤ r ∧ ∃ (x0 x1 x2 : Int64) (tl : List Value), own_cap zc tl ∧ vs = (.long x0) :: (.long x1) :: (.long x2) :: tl))) ∨
     (n0 ≤ r ∧ ∃ (x2 : Int64) (tl : List Value), own_cap zc tl ∧
        ((n = (2 : Int32) ∧ pw = q ∧ ¬ y0 = 0 ∧ y1 = own_sg y0 ∧ vs = (.long y0) :: (.long y1) :: (.long x2) :: tl) ∨
         (n = (2 : Int32) ∧ pw = q + (64 : Int32) ∧ y0 = 0 ∧ ¬ y1 = 0 ∧ vs = (.long y1) :: (.long (own_sg y1)) :: (.long x2) :: tl) ∨
         (n = (3 : Int32) ∧ pw = q ∧ ¬ y0 = 0 ∧ ¬ y1 = own_sg y0 ∧ x2 = own_sg y1 ∧ vs = (.long y0) :: (.long y1) :: (.long x2) :: tl))))
theorem own_sg0 : own_sg (0 : Int64) = 0 := by decide
section OwnSt
variable {Z : State} {h : Heap} {n0 : Nat} {a r : Addr} {kr : ClassId} {zc pw q : Int32} {x0 x1 x2 y0 y1 : Int64} {tl : List Value}
theorem own_StZ (O : own_O Z h a r kr zc (0 : Int32) pw ((.long x0) :: (.long x1) :: (.long x2) :: tl)) (g : n0 ≤ r) (hc : own_cap zc tl) (h0 : y0 = 0) (h1 : y1 = own_sg y0) : own_St Z h n0 a y0 y1 q :=
  ⟨_, _, _, _, _, _, O, Or.inl ⟨rfl, h0, by rw [h1, h0]; exact own_sg0, Or.inr ⟨g, _, _, _, _, hc, rfl⟩⟩⟩
theorem own_StA (O : own_O Z h a r kr zc (2 : Int32) pw ((.long y0) :: (.long (own_sg y0)) :: (.long x2) :: tl)) (g : n0 ≤ r) (hc : own_cap zc tl) (h0 : ¬ y0 = 0) (h1 : y1 = own_sg y0) : own_St Z h n0 a y0 y1 pw :=
  ⟨_, _, _, _, _, _, O, Or.inr ⟨g, _, _, hc, Or.inl ⟨rfl, rfl, h0, h1, by rw [h1]⟩⟩⟩
theorem own_StB (O : own_O Z h a r kr zc (2 : Int32) (pw + (64 : Int32)) ((.long y1) :: (.long (own_sg y1)) :: (.long x2) :: tl)) (g : n0 ≤ r) (hc : own_cap zc tl) (h0 : y0 = 0) (h1 : ¬ y1 = 0) : own_St Z h n0 a y0 y1 pw :=
  ⟨_, _, _, _, _, _, O, Or.inr ⟨g, _, _, hc, Or.inr (Or.inl ⟨rfl, rfl, h0, h1, rfl⟩)⟩⟩
theorem own_StC (O : own_O Z h a r kr zc (3 : Int32) pw ((.long y0) :: (.long y1) :: (.long x2) :: tl)) (g : n0 ≤ r) (hc : own_cap zc tl) (h0 : ¬ y0 = 0) (h1 : ¬ y1 = own_sg y0) (h2 : x2 = own_sg y1) : own_St Z h n0 a y0 y1 pw :=
  ⟨_, _, _, _, _, _, O, Or.inr ⟨g, _, _, hc, Or.inr (Or.inr ⟨rfl, rfl, h0, h1, h2, rfl⟩)⟩⟩
end OwnSt
theorem own_nz1 {y0 y1 : Int64} (h0 : y0 = 0) (h1 : ¬ y1 = own_sg y0) : ¬ y1 = 0 := fun q => h1 (by rw [h0, q]; exact own_sg0.symm)
theorem own_skip {x3 g c y3 : Int64} (hy : ((x3 + g) + c) = y3) (h : (g + c) = (0 : Int64)) : x3 = y3 := by rw [← hy, Int64.add_assoc, h, Int64.add_zero]
def own_Q_add (Z : State) (a : Addr) (y0 y1 : Int64) (q : Int32) (h0 : Heap) (n0 : Nat) (v : Option Value) (h : Heap) (L : List Loc) : Prop := v = none ∧ Fr n0 L ∧ h0.size ≤ h.size ∧ own_St Z h n0 a y0 y1 q
theorem own_pd0 : parseMethodDescriptor "(JJJ)J" = some ⟨[.long, .long, .long], some .long⟩ := by decide +kernel
theorem own_pd1 : parseMethodDescriptor "(II)I" = some ⟨[.int, .int], some .int⟩ := by decide +kernel
theorem own_pd2 : parseMethodDescriptor "([JI)[J" = some ⟨[(.array .long), .int], some (.array .long)⟩ := by decide +kernel
theorem own_pd3 : parseMethodDescriptor "(III)V" = some ⟨[.int, .int, .int], none⟩ := by decide +kernel
theorem own_pd4 : parseMethodDescriptor "([JIIJ)V" = some ⟨[(.array .long), .int, .int, .long], none⟩ := by decide +kernel
theorem own_pd5 : parseMethodDescriptor "(I)Z" = some ⟨[.int], some .boolean⟩ := by decide +kernel
theorem own_pd6 : parseMethodDescriptor "(I)V" = some ⟨[.int], none⟩ := by decide +kernel
theorem own_pd7 : parseMethodDescriptor "()V" = some ⟨[], none⟩ := by decide +kernel
theorem own_pd8 : parseMethodDescriptor "(IJJ)J" = some ⟨[.int, .long, .long], some .long⟩ := by decide +kernel
theorem own_pd9 : parseMethodDescriptor "()I" = some ⟨[], some .int⟩ := by decide +kernel
theorem own_pd10 : parseMethodDescriptor "(JJI)V" = some ⟨[.long, .long, .int], none⟩ := by decide +kernel
theorem d8_0 : decode prog_78_method_19_code 0 = .ok (.lload_n 0, 1) := by decide +kernel
theorem d8_1 : decode prog_78_method_19_code 1 = .ok (.lload_n 2, 1) := by decide +kernel
theorem d8_2 : decode prog_78_method_19_code 2 = .ok (.land, 1) := by decide +kernel
theorem d8_3 : decode prog_78_method_19_code 3 = .ok (.lload_n 0, 1) := by decide +kernel
theorem d8_4 : decode prog_78_method_19_code 4 = .ok (.lload_n 2, 1) := by decide +kernel
theorem d8_5 : decode prog_78_method_19_code 5 = .ok (.lor, 1) := by decide +kernel
theorem d8_6 : decode prog_78_method_19_code 6 = .ok (.lload 4, 2) := by decide +kernel
theorem d8_8 : decode prog_78_method_19_code 8 = .ok (.ldc2_w 114, 3) := by decide +kernel
theorem d8_11 : decode prog_78_method_19_code 11 = .ok (.lxor, 1) := by decide +kernel
theorem d8_12 : decode prog_78_method_19_code 12 = .ok (.land, 1) := by decide +kernel
theorem d8_13 : decode prog_78_method_19_code 13 = .ok (.lor, 1) := by decide +kernel
theorem d8_14 : decode prog_78_method_19_code 14 = .ok (.bipush 63, 2) := by decide +kernel
theorem d8_16 : decode prog_78_method_19_code 16 = .ok (.lushr, 1) := by decide +kernel
theorem d8_17 : decode prog_78_method_19_code 17 = .ok (.lreturn, 1) := by decide +kernel
theorem own_pn0 : plainName "com/example/eventweir/eventweir/ExactSum" = true := by first | (simp [plainName, overriddenIn]; done) | decide +kernel
theorem own_ef_rmco (m : MethodId) (x0 : Int64) (x1 : Int64) (x2 : Int64) : entryFrame m #[(.long x0), (.long x1), (.long x2)] 6 = mkF m 0 #[oJ x0, .second, oJ x1, .second, oJ x2, .second] [] := by first | (simp [entryFrame, mkF, argsToLocals, Value.category]; done) | rfl
def own_Q_rmco (Z : State) (b1 : Int64) (b2 : Int64) (b3 : Int64) (h0 : Heap) (n0 : Nat) (v : Option Value) (h : Heap) (L : List Loc) : Prop := v = some (.long (own_co b1 b2 b3)) ∧ Fr n0 L ∧ h = h0
theorem rmco (l : Launch) (Z : State) (a0 : Array Value) (hw : own_W Z a0) (ws : List Jvm.Cond) (b1 : Int64) (b2 : Int64) (b3 : Int64) (h0 : Heap) (n0 : Nat) (Z0 : n0 ≤ h0.size) :
    own_M l Z (⟨"com/example/eventweir/eventweir/ExactSum", "carryOut", "(JJJ)J"⟩ : MethodName) prog_78_method_19_code 6 (some .long) ws ({ frames := 0, cells := 0, slots := 0, locals := 0 } : Room) #[(.long b1), (.long b2), (.long b3)] h0 (own_Q_rmco Z b1 b2 b3 h0 n0) := by
  refine own_body (plainFor_of_name own_pn0) ?_
  intro p e s m below meth c s₁ hx hZ hby hml hown hnm hlk hret X0 e0
  have N0 := Fr.nil n0
  refine up (U' := s₁.setTop (mkF m 0 #[oJ b1, oS, oJ b2, oS, oJ b3, oS] [])) ?_ (fun t k => castTop (own_ef_rmco m b1 b2 b3) k)
  refine up ?_ fun t k => XS.lloadN X0.here hx rfl (hb hby d8_0) rfl (XS.lloadN X0.here hx rfl (hb hby d8_1) rfl (XS.land X0.here hx rfl (hb hby d8_2) rfl (XS.lloadN X0.here hx rfl (hb hby d8_3) rfl (XS.lloadN X0.here hx rfl (hb hby d8_4) rfl (XS.lor X0.here hx rfl (hb hby d8_5) rfl (XS.lload X0.here hx rfl (hb hby d8_6) rfl k))))))
  show own_G (s₁.setTop (mkF m 8 #[oJ b1, oS, oJ b2, oS, oJ b3, oS] [(.long b3), (.long (b1 ||| b2)), (.long (b1 &&& b2))]))
  refine up ?_ fun t k => X0.ldc2Long hx hown (mvT hZ (hw _ (own_m 48 rfl))) (g := (mkF m 8 #[oJ b1, oS, oJ b2, oS, oJ b3, oS] [(.long b3), (.long (b1 ||| b2)), (.long (b1 &&& b2))])) rfl (hb hby d8_8) _ (XS.lxor X0.here hx rfl (hb hby d8_11) rfl (XS.land X0.here hx rfl (hb hby d8_12) rfl (XS.lor X0.here hx rfl (hb hby d8_13) rfl (XS.bipush X0.here hx rfl (hb hby d8_14) (XS.lushr X0.here hx rfl (hb hby d8_16) rfl k)))))
  show own_G (s₁.setTop (mkF m 17 #[oJ b1, oS, oJ b2, oS, oJ b3, oS] [(.long ((((b1 &&& b2) ||| ((b1 ||| b2) &&& (b3 ^^^ (-1 : Int64)))).toUInt64 >>> ((63 : Int32) &&& 0x3f).toInt64.toUInt64).toInt64))]))
  exact own_retJ X0 hx hlk hret (hb hby d8_17) ⟨rfl, N0, e0⟩ (by decide) (by decide)
theorem d6_0 : decode jdk_29_method_69_code 0 = .ok (.iload_n 0, 1) := by decide +kernel
theorem d6_1 : decode jdk_29_method_69_code 1 = .ok (.iload_n 1, 1) := by decide +kernel
theorem d6_2 : decode jdk_29_method_69_code 2 = .ok (.if_icmp .gt 7, 3) := by decide +kernel
theorem d6_5 : decode jdk_29_method_69_code 5 = .ok (.iload_n 0, 1) := by decide +kernel
theorem d6_6 : decode jdk_29_method_69_code 6 = .ok (.goto 4, 3) := by decide +kernel
theorem d6_9 : decode jdk_29_method_69_code 9 = .ok (.iload_n 1, 1) := by decide +kernel
theorem d6_10 : decode jdk_29_method_69_code 10 = .ok (.ireturn, 1) := by decide +kernel
theorem own_ef_rmmn (m : MethodId) (x0 : Int32) (x1 : Int32) : entryFrame m #[(.int x0), (.int x1)] 2 = mkF m 0 #[oI x0, oI x1] [] := by first | (simp [entryFrame, mkF, argsToLocals, Value.category]; done) | rfl
def own_Q_rmmn (Z : State) (b1 : Int32) (b2 : Int32) (h0 : Heap) (n0 : Nat) (v : Option Value) (h : Heap) (L : List Loc) : Prop := v = some (.int (own_minI b1 b2)) ∧ Fr n0 L ∧ h = h0
theorem rmmn (l : Launch) (Z : State) (a0 : Array Value) (hw : own_W Z a0) (ws : List Jvm.Cond) (b1 : Int32) (b2 : Int32) (h0 : Heap) (n0 : Nat) (Z0 : n0 ≤ h0.size) :
    own_M l Z (⟨"java/lang/Math", "min", "(II)I"⟩ : MethodName) jdk_29_method_69_code 2 (some .int) ws ({ frames := 0, cells := 0, slots := 0, locals := 0 } : Room) #[(.int b1), (.int b2)] h0 (own_Q_rmmn Z b1 b2 h0 n0) := by
  refine own_body (Jvm.Free.JP.mathPlain rfl (by decide +kernel)) ?_
  intro p e s m below meth c s₁ hx hZ hby hml hown hnm hlk hret X0 e0
  have N0 := Fr.nil n0
  refine up (U' := s₁.setTop (mkF m 0 #[oI b1, oI b2] [])) ?_ (fun t k => castTop (own_ef_rmmn m b1 b2) k)
  refine up ?_ fun t k => XS.iloadN X0.here hx rfl (hb hby d6_0) rfl (XS.iloadN X0.here hx rfl (hb hby d6_1) rfl k)
  show own_G (s₁.setTop (mkF m 2 #[oI b1, oI b2] [(.int b2), (.int b1)]))
  by_cases hc2_1 : b2 < b1
  · refine up ?_ fun t k => XS.icmpYes X0.here hx rfl (pc0 := 2) (pc' := 9) rfl (hb hby d6_2) rfl (tlt hc2_1).2.2.1 (by decide) (by decide) (XS.iloadN X0.here hx rfl (hb hby d6_9) rfl k)
    show own_G (s₁.setTop (mkF m 10 #[oI b1, oI b2] [(.int b2)]))
    exact own_retI X0 hx hlk hret (by simp) rfl (hb hby d6_10) ⟨congrArg (fun z => some (Value.int z)) (by simp only [own_minI, if_pos hc2_1]), N0, e0⟩ (by decide) (by decide)
  · refine up ?_ fun t k => XS.icmpNo X0.here hx rfl (hb hby d6_2) rfl (flt hc2_1).2.2.1 (XS.iloadN X0.here hx rfl (hb hby d6_5) rfl (XS.goto X0.here hx rfl (pc0 := 6) (pc' := 10) rfl (hb hby d6_6) (by decide) (by decide) k))
    show own_G (s₁.setTop (mkF m 10 #[oI b1, oI b2] [(.int b1)]))
    exact own_retI X0 hx hlk hret (by simp) rfl (hb hby d6_10) ⟨congrArg (fun z => some (Value.int z)) (by simp only [own_minI, if_neg hc2_1]), N0, e0⟩ (by decide) (by decide)
theorem d7_0 : decode prog_78_method_9_code 0 = .ok (.aload_n 0, 1) := by decide +kernel
theorem d7_1 : decode prog_78_method_9_code 1 = .ok (.getfield 13, 3) := by decide +kernel
theorem d7_4 : decode prog_78_method_9_code 4 = .ok (.iload_n 1, 1) := by decide +kernel
theorem d7_5 : decode prog_78_method_9_code 5 = .ok (.laload, 1) := by decide +kernel
theorem d7_6 : decode prog_78_method_9_code 6 = .ok (.lstore 6, 2) := by decide +kernel
theorem d7_8 : decode prog_78_method_9_code 8 = .ok (.lload 6, 2) := by decide +kernel
theorem d7_10 : decode prog_78_method_9_code 10 = .ok (.lload_n 2, 1) := by decide +kernel
theorem d7_11 : decode prog_78_method_9_code 11 = .ok (.ladd, 1) := by decide +kernel
theorem d7_12 : decode prog_78_method_9_code 12 = .ok (.lload 4, 2) := by decide +kernel
theorem d7_14 : decode prog_78_method_9_code 14 = .ok (.ladd, 1) := by decide +kernel
theorem d7_15 : decode prog_78_method_9_code 15 = .ok (.lstore 8, 2) := by decide +kernel
theorem d7_17 : decode prog_78_method_9_code 17 = .ok (.aload_n 0, 1) := by decide +kernel
theorem d7_18 : decode prog_78_method_9_code 18 = .ok (.getfield 13, 3) := by decide +kernel
theorem d7_21 : decode prog_78_method_9_code 21 = .ok (.iload_n 1, 1) := by decide +kernel
theorem d7_22 : decode prog_78_method_9_code 22 = .ok (.lload 8, 2) := by decide +kernel
theorem d7_24 : decode prog_78_method_9_code 24 = .ok (.lastore, 1) := by decide +kernel
theorem d7_25 : decode prog_78_method_9_code 25 = .ok (.lload 6, 2) := by decide +kernel
theorem d7_27 : decode prog_78_method_9_code 27 = .ok (.lload_n 2, 1) := by decide +kernel
theorem d7_28 : decode prog_78_method_9_code 28 = .ok (.lload 8, 2) := by decide +kernel
theorem d7_30 : decode prog_78_method_9_code 30 = .ok (.invokestatic 95, 3) := by decide +kernel
theorem d7_33 : decode prog_78_method_9_code 33 = .ok (.lreturn, 1) := by decide +kernel
theorem own_ef_rmad0 (m : MethodId) (x0 : Addr) (x1 : Int32) (x2 : Int64) (x3 : Int64) : entryFrame m #[(.ref x0), (.int x1), (.long x2), (.long x3)] 10 = mkF m 0 #[oA x0, oI x1, oJ x2, .second, oJ x3, .second, .unset, .unset, .unset, .unset] [] := by first | (simp [entryFrame, mkF, argsToLocals, Value.category]; done) | rfl
def own_Q_rmad0 (Z : State) (a : Addr) (wd : Int64) (cy : Int64) (r : Addr) (kr : ClassId) (zc : Int32) (pw : Int32) (tl : List Value) (x0 : Int64) (x1 : Int64) (x2 : Int64) (n : Int32) (y : Int64) (h0 : Heap) (n0 : Nat) (v : Option Value) (h : Heap) (L : List Loc) : Prop := v = some (.long (own_co x0 wd y)) ∧ Fr n0 L ∧ h0.size ≤ h.size ∧ own_O Z h a r kr zc n pw ((.long y) :: (.long x1) :: (.long x2) :: tl)
theorem rmad0 (l : Launch) (Z : State) (a0 : Array Value) (hw : own_W Z a0) (ws : List Jvm.Cond) (a : Addr) (wd : Int64) (cy : Int64) (r : Addr) (kr : ClassId) (zc : Int32) (pw : Int32) (tl : List Value) (x0 : Int64) (x1 : Int64) (x2 : Int64) (n : Int32) (y : Int64) (h0 : Heap) (n0 : Nat) (Z0 : n0 ≤ h0.size) (O0 : own_O Z h0 a r kr zc n pw ((.long x0) :: (.long x1) :: (.long x2) :: tl)) (g_a : n0 ≤ a) (g_r : n0 ≤ r) (hc : own_cap zc tl) (hy : ((x0 + wd) + cy) = y) :
    own_M l Z (⟨"com/example/eventweir/eventweir/ExactSum", "addAt", "(IJJ)J"⟩ : MethodName) prog_78_method_9_code 10 (some .long) ws ({ frames := 1, cells := 0, slots := 0, locals := 17 } : Room) #[(.ref a), (.int (0 : Int32)), (.long wd), (.long cy)] h0 (own_Q_rmad0 Z a wd cy r kr zc pw tl x0 x1 x2 n y h0 n0) := by
  refine own_body (plainFor_of_name own_pn0) ?_
  intro p e s m below meth c s₁ hx hZ hby hml hown hnm hlk hret X0 e0
  have N0 := Fr.nil n0
  obtain ⟨E_a, Fw, Fl, Fp, V⟩ := O0
  have ne_ar : a ≠ r := E_a.neArv V (hw _ (own_m 3 rfl))
  refine up (U' := s₁.setTop (mkF m 0 #[oA a, oI (0 : Int32), oJ wd, oS, oJ cy, oS, oU, oU, oU, oU] [])) ?_ (fun t k => castTop (own_ef_rmad0 m a (0 : Int32) wd cy) k)
  refine up ?_ fun t k => XS.aloadN X0.here hx rfl (hb hby d7_0) rfl rfl k
  show own_G (s₁.setTop (mkF m 1 #[oA a, oI (0 : Int32), oJ wd, oS, oJ cy, oS, oU, oU, oU, oU] [(.ref a)]))
  obtain ⟨T2, X2, e2, st2⟩ := getF X0 hx hZ hown (host := "") (Or.inl (hw _ (own_m 13 rfl))) Via.refl e0 Fw (g := (mkF m 1 #[oA a, oI (0 : Int32), oJ wd, oS, oJ cy, oS, oU, oU, oU, oU] [(.ref a)])) rfl rfl (hb hby d7_1)
  refine up ?_ st2
  show own_G (T2.setTop (mkF m 4 #[oA a, oI (0 : Int32), oJ wd, oS, oJ cy, oS, oU, oU, oU, oU] [(.ref r)]))
  refine up ?_ fun t k => XS.iloadN X2.here hx rfl (hb hby d7_4) rfl k
  show own_G (T2.setTop (mkF m 5 #[oA a, oI (0 : Int32), oJ wd, oS, oJ cy, oS, oU, oU, oU, oU] [(.int (0 : Int32)), (.ref r)]))
  obtain ⟨cl3, Ar3, qa3, Sa3, Na3, Ha3, Ga3⟩ := id V
  have hin3 : ¬ ((0 : Int32) < 0 ∨ cl3.slots.size ≤ ((0 : Int32)).toNatClampNeg) := inb_of Sa3 ⟨by decide, own_i0 hc⟩
  refine up ?_ fun t k => X2.laload hx (j := (0 : Int32)) (v := (.long x0)) (by rw [e2]; exact Ar3.1) (State.isArrayOf_alike hZ.alike Ar3.2.1) Ar3.2.2 hin3 (Ha3.at hin3 rfl) (g := (mkF m 5 #[oA a, oI (0 : Int32), oJ wd, oS, oJ cy, oS, oU, oU, oU, oU] [(.int (0 : Int32)), (.ref r)])) rfl rfl (hb hby d7_5) _ (XS.lstore X2.here hx rfl (hb hby d7_6) rfl (l' := #[oA a, oI (0 : Int32), oJ wd, oS, oJ cy, oS, oJ x0, oS, oU, oU]) rfl (XS.lload X2.here hx rfl (hb hby d7_8) rfl (XS.lloadN X2.here hx rfl (hb hby d7_10) rfl (XS.ladd X2.here hx rfl (hb hby d7_11) rfl (XS.lload X2.here hx rfl (hb hby d7_12) rfl (XS.ladd X2.here hx rfl (hb hby d7_14) rfl k))))))
  show own_G (T2.setTop (mkF m 15 #[oA a, oI (0 : Int32), oJ wd, oS, oJ cy, oS, oJ x0, oS, oU, oU] [(.long ((x0 + wd) + cy))]))
  rw [hy]
  show own_G (T2.setTop (mkF m 15 #[oA a, oI (0 : Int32), oJ wd, oS, oJ cy, oS, oJ x0, oS, oU, oU] [(.long y)]))
  refine up ?_ fun t k => XS.lstore X2.here hx rfl (hb hby d7_15) rfl (l' := #[oA a, oI (0 : Int32), oJ wd, oS, oJ cy, oS, oJ x0, oS, oJ y, oS]) rfl (XS.aloadN X2.here hx rfl (hb hby d7_17) rfl rfl k)
  show own_G (T2.setTop (mkF m 18 #[oA a, oI (0 : Int32), oJ wd, oS, oJ cy, oS, oJ x0, oS, oJ y, oS] [(.ref a)]))
  obtain ⟨T4, X4, e4, st4⟩ := getF X2 hx hZ hown (host := "") (Or.inl (hw _ (own_m 13 rfl))) Via.refl e2 Fw (g := (mkF m 18 #[oA a, oI (0 : Int32), oJ wd, oS, oJ cy, oS, oJ x0, oS, oJ y, oS] [(.ref a)])) rfl rfl (hb hby d7_18)
  refine up ?_ st4
  show own_G (T4.setTop (mkF m 21 #[oA a, oI (0 : Int32), oJ wd, oS, oJ cy, oS, oJ x0, oS, oJ y, oS] [(.ref r)]))
  refine up ?_ fun t k => XS.iloadN X4.here hx rfl (hb hby d7_21) rfl (XS.lload X4.here hx rfl (hb hby d7_22) rfl k)
  show own_G (T4.setTop (mkF m 24 #[oA a, oI (0 : Int32), oJ wd, oS, oJ cy, oS, oJ x0, oS, oJ y, oS] [(.long y), (.int (0 : Int32)), (.ref r)]))
  obtain ⟨cl5, Ar5, qa5, Sa5, Na5, Ha5, Ga5⟩ := id V
  have hin5 : ¬ ((0 : Int32) < 0 ∨ cl5.slots.size ≤ ((0 : Int32)).toNatClampNeg) := inb_of Sa5 ⟨by decide, own_i0 hc⟩
  obtain ⟨T5, h5, X5, e5, W5, st5⟩ := stJ X4 hx hZ e4 Ar5 (j := (0 : Int32)) hin5 (g := (mkF m 24 #[oA a, oI (0 : Int32), oJ wd, oS, oJ cy, oS, oJ x0, oS, oJ y, oS] [(.long y), (.int (0 : Int32)), (.ref r)])) rfl rfl (hb hby d7_24)
  refine up ?_ st5
  have E_a_c6 := E_a.wr W5
  have Fw_c6 := Fw.other W5 (Or.inl ne_ar)
  have Fl_c6 := Fl.other W5 (Or.inl ne_ar)
  have Fp_c6 := Fp.other W5 (Or.inl ne_ar)
  have V5 : Arv Z h5 r kr .long zc ((.long y) :: (.long x1) :: (.long x2) :: tl) (.long (0 : Int64)) := Arv.set Ar5 qa5 Sa5 Na5 Ha5 Ga5 rfl W5 0 rfl (by simp only [List.length_cons]; omega)
  have N5 := Fr.snoc X5 N0 g_r
  have kq7 := Nat.le_trans (Nat.le_refl h0.size) (Keep.of_wr W5).1
  have Zs8 : n0 ≤ h5.size := Nat.le_trans Z0 (Keep.of_wr W5).1
  show own_G (T5.setTop (mkF m 25 #[oA a, oI (0 : Int32), oJ wd, oS, oJ cy, oS, oJ x0, oS, oJ y, oS] []))
  refine up ?_ fun t k => XS.lload X5.here hx rfl (hb hby d7_25) rfl (XS.lloadN X5.here hx rfl (hb hby d7_27) rfl (XS.lload X5.here hx rfl (hb hby d7_28) rfl k))
  show own_G (T5.setTop (mkF m 30 #[oA a, oI (0 : Int32), oJ wd, oS, oJ cy, oS, oJ x0, oS, oJ y, oS] [(.long y), (.long wd), (.long x0)]))
  obtain ⟨_, _, ⟨T9, L9, k9, n9⟩, -, X9, ⟨Lc9, hQ9, l9, y9, z9⟩, st9⟩ := Jvm.LawKit.callS X5 hx (y := (⟨"com/example/eventweir/eventweir/ExactSum", "carryOut", "(JJJ)J"⟩ : MethodName)) hown (mvT hZ (hw _ (own_m 45 rfl))) (mvT hZ (hw _ (own_m 46 rfl))) (mvT hZ (hw _ (own_m 4 rfl))) (mvT hZ (hw _ (own_m 47 rfl))) (by decide) (backOf (W := 0) (rmco l Z a0 hw [] x0 wd y  h5 n0 Zs8 ) hZ (hw _ (own_m 47 rfl)) (hw _ (own_m 4 rfl)) (by decide) (by decide)) (g := (mkF m 30 #[oA a, oI (0 : Int32), oJ wd, oS, oJ cy, oS, oJ x0, oS, oJ y, oS] [(.long y), (.long wd), (.long x0)])) rfl (by rw [hml]; rfl) (argsL := [(.long x0), (.long wd), (.long y)]) (rest := []) (lenOf own_pd0 rfl) rfl (by show 2 * 0 + _ ≤ _; exact Nat.le_of_eq rfl) (hb hby d7_30) (fun _ _ => ⟨rfl, e5, (by decide : 0 + 0 ≤ _), (by decide : 0 + 0 ≤ _)⟩)
  dsimp only [Pt.U, Pt.locs, Pt.cells, Pt.slots] at X9 l9 y9 z9 st9 hQ9
  subst l9 y9 z9
  obtain ⟨rfl, Nq9, e9⟩ := hQ9
  have N9 := Fr.app N5 Nq9
  refine up ?_ (st9)
  show own_G (T9.setTop (mkF m 33 #[oA a, oI (0 : Int32), oJ wd, oS, oJ cy, oS, oJ x0, oS, oJ y, oS] [(.long (own_co x0 wd y))]))
  exact own_retJ X9 hx hlk hret (hb hby d7_33) (by rw [e9]; exact ⟨rfl, N9, kq7, ⟨E_a_c6, Fw_c6, Fl_c6, Fp_c6, V5⟩⟩) (by decide) (by decide)
def own_Q_rmad1 (Z : State) (a : Addr) (wd : Int64) (cy : Int64) (r : Addr) (kr : ClassId) (zc : Int32) (pw : Int32) (tl : List Value) (x0 : Int64) (x1 : Int64) (x2 : Int64) (n : Int32) (y : Int64) (h0 : Heap) (n0 : Nat) (v : Option Value) (h : Heap) (L : List Loc) : Prop := v = some (.long (own_co x1 wd y)) ∧ Fr n0 L ∧ h0.size ≤ h.size ∧ own_O Z h a r kr zc n pw ((.long x0) :: (.long y) :: (.long x2) :: tl)
theorem rmad1 (l : Launch) (Z : State) (a0 : Array Value) (hw : own_W Z a0) (ws : List Jvm.Cond) (a : Addr) (wd : Int64) (cy : Int64) (r : Addr) (kr : ClassId) (zc : Int32) (pw : Int32) (tl : List Value) (x0 : Int64) (x1 : Int64) (x2 : Int64) (n : Int32) (y : Int64) (h0 : Heap) (n0 : Nat) (Z0 : n0 ≤ h0.size) (O0 : own_O Z h0 a r kr zc n pw ((.long x0) :: (.long x1) :: (.long x2) :: tl)) (g_a : n0 ≤ a) (g_r : n0 ≤ r) (hc : own_cap zc tl) (hy : ((x1 + wd) + cy) = y) :
    own_M l Z (⟨"com/example/eventweir/eventweir/ExactSum", "addAt", "(IJJ)J"⟩ : MethodName) prog_78_method_9_code 10 (some .long) ws ({ frames := 1, cells := 0, slots := 0, locals := 17 } : Room) #[(.ref a), (.int (1 : Int32)), (.long wd), (.long cy)] h0 (own_Q_rmad1 Z a wd cy r kr zc pw tl x0 x1 x2 n y h0 n0) := by
  refine own_body (plainFor_of_name own_pn0) ?_
  intro p e s m below meth c s₁ hx hZ hby hml hown hnm hlk hret X0 e0
  have N0 := Fr.nil n0
  obtain ⟨E_a, Fw, Fl, Fp, V⟩ := O0
  have ne_ar : a ≠ r := E_a.neArv V (hw _ (own_m 3 rfl))
  refine up (U' := s₁.setTop (mkF m 0 #[oA a, oI (1 : Int32), oJ wd, oS, oJ cy, oS, oU, oU, oU, oU] [])) ?_ (fun t k => castTop (own_ef_rmad0 m a (1 : Int32) wd cy) k)
  refine up ?_ fun t k => XS.aloadN X0.here hx rfl (hb hby d7_0) rfl rfl k
  show own_G (s₁.setTop (mkF m 1 #[oA a, oI (1 : Int32), oJ wd, oS, oJ cy, oS, oU, oU, oU, oU] [(.ref a)]))
  obtain ⟨T10, X10, e10, st10⟩ := getF X0 hx hZ hown (host := "") (Or.inl (hw _ (own_m 13 rfl))) Via.refl e0 Fw (g := (mkF m 1 #[oA a, oI (1 : Int32), oJ wd, oS, oJ cy, oS, oU, oU, oU, oU] [(.ref a)])) rfl rfl (hb hby d7_1)
  refine up ?_ st10
  show own_G (T10.setTop (mkF m 4 #[oA a, oI (1 : Int32), oJ wd, oS, oJ cy, oS, oU, oU, oU, oU] [(.ref r)]))
  refine up ?_ fun t k => XS.iloadN X10.here hx rfl (hb hby d7_4) rfl k
  show own_G (T10.setTop (mkF m 5 #[oA a, oI (1 : Int32), oJ wd, oS, oJ cy, oS, oU, oU, oU, oU] [(.int (1 : Int32)), (.ref r)]))
  obtain ⟨cl11, Ar11, qa11, Sa11, Na11, Ha11, Ga11⟩ := id V
  have hin11 : ¬ ((1 : Int32) < 0 ∨ cl11.slots.size ≤ ((1 : Int32)).toNatClampNeg) := inb_of Sa11 ⟨by decide, own_i1 hc⟩
  refine up ?_ fun t k => X10.laload hx (j := (1 : Int32)) (v := (.long x1)) (by rw [e10]; exact Ar11.1) (State.isArrayOf_alike hZ.alike Ar11.2.1) Ar11.2.2 hin11 (Ha11.at hin11 rfl) (g := (mkF m 5 #[oA a, oI (1 : Int32), oJ wd, oS, oJ cy, oS, oU, oU, oU, oU] [(.int (1 : Int32)), (.ref r)])) rfl rfl (hb hby d7_5) _ (XS.lstore X10.here hx rfl (hb hby d7_6) rfl (l' := #[oA a, oI (1 : Int32), oJ wd, oS, oJ cy, oS, oJ x1, oS, oU, oU]) rfl (XS.lload X10.here hx rfl (hb hby d7_8) rfl (XS.lloadN X10.here hx rfl (hb hby d7_10) rfl (XS.ladd X10.here hx rfl (hb hby d7_11) rfl (XS.lload X10.here hx rfl (hb hby d7_12) rfl (XS.ladd X10.here hx rfl (hb hby d7_14) rfl k))))))
  show own_G (T10.setTop (mkF m 15 #[oA a, oI (1 : Int32), oJ wd, oS, oJ cy, oS, oJ x1, oS, oU, oU] [(.long ((x1 + wd) + cy))]))
  rw [hy]
  show own_G (T10.setTop (mkF m 15 #[oA a, oI (1 : Int32), oJ wd, oS, oJ cy, oS, oJ x1, oS, oU, oU] [(.long y)]))
  refine up ?_ fun t k => XS.lstore X10.here hx rfl (hb hby d7_15) rfl (l' := #[oA a, oI (1 : Int32), oJ wd, oS, oJ cy, oS, oJ x1, oS, oJ y, oS]) rfl (XS.aloadN X10.here hx rfl (hb hby d7_17) rfl rfl k)
  show own_G (T10.setTop (mkF m 18 #[oA a, oI (1 : Int32), oJ wd, oS, oJ cy, oS, oJ x1, oS, oJ y, oS] [(.ref a)]))
  obtain ⟨T12, X12, e12, st12⟩ := getF X10 hx hZ hown (host := "") (Or.inl (hw _ (own_m 13 rfl))) Via.refl e10 Fw (g := (mkF m 18 #[oA a, oI (1 : Int32), oJ wd, oS, oJ cy, oS, oJ x1, oS, oJ y, oS] [(.ref a)])) rfl rfl (hb hby d7_18)
  refine up ?_ st12
  show own_G (T12.setTop (mkF m 21 #[oA a, oI (1 : Int32), oJ wd, oS, oJ cy, oS, oJ x1, oS, oJ y, oS] [(.ref r)]))
  refine up ?_ fun t k => XS.iloadN X12.here hx rfl (hb hby d7_21) rfl (XS.lload X12.here hx rfl (hb hby d7_22) rfl k)
  show own_G (T12.setTop (mkF m 24 #[oA a, oI (1 : Int32), oJ wd, oS, oJ cy, oS, oJ x1, oS, oJ y, oS] [(.long y), (.int (1 : Int32)), (.ref r)]))
  obtain ⟨cl13, Ar13, qa13, Sa13, Na13, Ha13, Ga13⟩ := id V
  have hin13 : ¬ ((1 : Int32) < 0 ∨ cl13.slots.size ≤ ((1 : Int32)).toNatClampNeg) := inb_of Sa13 ⟨by decide, own_i1 hc⟩
  obtain ⟨T13, h13, X13, e13, W13, st13⟩ := stJ X12 hx hZ e12 Ar13 (j := (1 : Int32)) hin13 (g := (mkF m 24 #[oA a, oI (1 : Int32), oJ wd, oS, oJ cy, oS, oJ x1, oS, oJ y, oS] [(.long y), (.int (1 : Int32)), (.ref r)])) rfl rfl (hb hby d7_24)
  refine up ?_ st13
  have E_a_c14 := E_a.wr W13
  have Fw_c14 := Fw.other W13 (Or.inl ne_ar)
  have Fl_c14 := Fl.other W13 (Or.inl ne_ar)
  have Fp_c14 := Fp.other W13 (Or.inl ne_ar)
  have V13 : Arv Z h13 r kr .long zc ((.long x0) :: (.long y) :: (.long x2) :: tl) (.long (0 : Int64)) := Arv.set Ar13 qa13 Sa13 Na13 Ha13 Ga13 rfl W13 1 rfl (by simp only [List.length_cons]; omega)
  have N13 := Fr.snoc X13 N0 g_r
  have kq15 := Nat.le_trans (Nat.le_refl h0.size) (Keep.of_wr W13).1
  have Zs16 : n0 ≤ h13.size := Nat.le_trans Z0 (Keep.of_wr W13).1
  show own_G (T13.setTop (mkF m 25 #[oA a, oI (1 : Int32), oJ wd, oS, oJ cy, oS, oJ x1, oS, oJ y, oS] []))
  refine up ?_ fun t k => XS.lload X13.here hx rfl (hb hby d7_25) rfl (XS.lloadN X13.here hx rfl (hb hby d7_27) rfl (XS.lload X13.here hx rfl (hb hby d7_28) rfl k))
  show own_G (T13.setTop (mkF m 30 #[oA a, oI (1 : Int32), oJ wd, oS, oJ cy, oS, oJ x1, oS, oJ y, oS] [(.long y), (.long wd), (.long x1)]))
  obtain ⟨_, _, ⟨T17, L17, k17, n17⟩, -, X17, ⟨Lc17, hQ17, l17, y17, z17⟩, st17⟩ := Jvm.LawKit.callS X13 hx (y := (⟨"com/example/eventweir/eventweir/ExactSum", "carryOut", "(JJJ)J"⟩ : MethodName)) hown (mvT hZ (hw _ (own_m 45 rfl))) (mvT hZ (hw _ (own_m 46 rfl))) (mvT hZ (hw _ (own_m 4 rfl))) (mvT hZ (hw _ (own_m 47 rfl))) (by decide) (backOf (W := 0) (rmco l Z a0 hw [] x1 wd y  h13 n0 Zs16 ) hZ (hw _ (own_m 47 rfl)) (hw _ (own_m 4 rfl)) (by decide) (by decide)) (g := (mkF m 30 #[oA a, oI (1 : Int32), oJ wd, oS, oJ cy, oS, oJ x1, oS, oJ y, oS] [(.long y), (.long wd), (.long x1)])) rfl (by rw [hml]; rfl) (argsL := [(.long x1), (.long wd), (.long y)]) (rest := []) (lenOf own_pd0 rfl) rfl (by show 2 * 0 + _ ≤ _; exact Nat.le_of_eq rfl) (hb hby d7_30) (fun _ _ => ⟨rfl, e13, (by decide : 0 + 0 ≤ _), (by decide : 0 + 0 ≤ _)⟩)
  dsimp only [Pt.U, Pt.locs, Pt.cells, Pt.slots] at X17 l17 y17 z17 st17 hQ17
  subst l17 y17 z17
  obtain ⟨rfl, Nq17, e17⟩ := hQ17
  have N17 := Fr.app N13 Nq17
  refine up ?_ (st17)
  show own_G (T17.setTop (mkF m 33 #[oA a, oI (1 : Int32), oJ wd, oS, oJ cy, oS, oJ x1, oS, oJ y, oS] [(.long (own_co x1 wd y))]))
  exact own_retJ X17 hx hlk hret (hb hby d7_33) (by rw [e17]; exact ⟨rfl, N17, kq15, ⟨E_a_c14, Fw_c14, Fl_c14, Fp_c14, V13⟩⟩) (by decide) (by decide)
def own_Q_rmad2 (Z : State) (a : Addr) (wd : Int64) (cy : Int64) (r : Addr) (kr : ClassId) (zc : Int32) (pw : Int32) (tl : List Value) (x0 : Int64) (x1 : Int64) (x2 : Int64) (n : Int32) (y : Int64) (h0 : Heap) (n0 : Nat) (v : Option Value) (h : Heap) (L : List Loc) : Prop := v = some (.long (own_co x2 wd y)) ∧ Fr n0 L ∧ h0.size ≤ h.size ∧ own_O Z h a r kr zc n pw ((.long x0) :: (.long x1) :: (.long y) :: tl)
theorem rmad2 (l : Launch) (Z : State) (a0 : Array Value) (hw : own_W Z a0) (ws : List Jvm.Cond) (a : Addr) (wd : Int64) (cy : Int64) (r : Addr) (kr : ClassId) (zc : Int32) (pw : Int32) (tl : List Value) (x0 : Int64) (x1 : Int64) (x2 : Int64) (n : Int32) (y : Int64) (h0 : Heap) (n0 : Nat) (Z0 : n0 ≤ h0.size) (O0 : own_O Z h0 a r kr zc n pw ((.long x0) :: (.long x1) :: (.long x2) :: tl)) (g_a : n0 ≤ a) (g_r : n0 ≤ r) (hc : own_cap zc tl) (hy : ((x2 + wd) + cy) = y) :
    own_M l Z (⟨"com/example/eventweir/eventweir/ExactSum", "addAt", "(IJJ)J"⟩ : MethodName) prog_78_method_9_code 10 (some .long) ws ({ frames := 1, cells := 0, slots := 0, locals := 17 } : Room) #[(.ref a), (.int (2 : Int32)), (.long wd), (.long cy)] h0 (own_Q_rmad2 Z a wd cy r kr zc pw tl x0 x1 x2 n y h0 n0) := by
  refine own_body (plainFor_of_name own_pn0) ?_
  intro p e s m below meth c s₁ hx hZ hby hml hown hnm hlk hret X0 e0
  have N0 := Fr.nil n0
  obtain ⟨E_a, Fw, Fl, Fp, V⟩ := O0
  have ne_ar : a ≠ r := E_a.neArv V (hw _ (own_m 3 rfl))
  refine up (U' := s₁.setTop (mkF m 0 #[oA a, oI (2 : Int32), oJ wd, oS, oJ cy, oS, oU, oU, oU, oU] [])) ?_ (fun t k => castTop (own_ef_rmad0 m a (2 : Int32) wd cy) k)
  refine up ?_ fun t k => XS.aloadN X0.here hx rfl (hb hby d7_0) rfl rfl k
  show own_G (s₁.setTop (mkF m 1 #[oA a, oI (2 : Int32), oJ wd, oS, oJ cy, oS, oU, oU, oU, oU] [(.ref a)]))
  obtain ⟨T18, X18, e18, st18⟩ := getF X0 hx hZ hown (host := "") (Or.inl (hw _ (own_m 13 rfl))) Via.refl e0 Fw (g := (mkF m 1 #[oA a, oI (2 : Int32), oJ wd, oS, oJ cy, oS, oU, oU, oU, oU] [(.ref a)])) rfl rfl (hb hby d7_1)
  refine up ?_ st18
  show own_G (T18.setTop (mkF m 4 #[oA a, oI (2 : Int32), oJ wd, oS, oJ cy, oS, oU, oU, oU, oU] [(.ref r)]))
  refine up ?_ fun t k => XS.iloadN X18.here hx rfl (hb hby d7_4) rfl k
  show own_G (T18.setTop (mkF m 5 #[oA a, oI (2 : Int32), oJ wd, oS, oJ cy, oS, oU, oU, oU, oU] [(.int (2 : Int32)), (.ref r)]))
  obtain ⟨cl19, Ar19, qa19, Sa19, Na19, Ha19, Ga19⟩ := id V
  have hin19 : ¬ ((2 : Int32) < 0 ∨ cl19.slots.size ≤ ((2 : Int32)).toNatClampNeg) := inb_of Sa19 ⟨by decide, own_i2 hc⟩
  refine up ?_ fun t k => X18.laload hx (j := (2 : Int32)) (v := (.long x2)) (by rw [e18]; exact Ar19.1) (State.isArrayOf_alike hZ.alike Ar19.2.1) Ar19.2.2 hin19 (Ha19.at hin19 rfl) (g := (mkF m 5 #[oA a, oI (2 : Int32), oJ wd, oS, oJ cy, oS, oU, oU, oU, oU] [(.int (2 : Int32)), (.ref r)])) rfl rfl (hb hby d7_5) _ (XS.lstore X18.here hx rfl (hb hby d7_6) rfl (l' := #[oA a, oI (2 : Int32), oJ wd, oS, oJ cy, oS, oJ x2, oS, oU, oU]) rfl (XS.lload X18.here hx rfl (hb hby d7_8) rfl (XS.lloadN X18.here hx rfl (hb hby d7_10) rfl (XS.ladd X18.here hx rfl (hb hby d7_11) rfl (XS.lload X18.here hx rfl (hb hby d7_12) rfl (XS.ladd X18.here hx rfl (hb hby d7_14) rfl k))))))
  show own_G (T18.setTop (mkF m 15 #[oA a, oI (2 : Int32), oJ wd, oS, oJ cy, oS, oJ x2, oS, oU, oU] [(.long ((x2 + wd) + cy))]))
  rw [hy]
  show own_G (T18.setTop (mkF m 15 #[oA a, oI (2 : Int32), oJ wd, oS, oJ cy, oS, oJ x2, oS, oU, oU] [(.long y)]))
  refine up ?_ fun t k => XS.lstore X18.here hx rfl (hb hby d7_15) rfl (l' := #[oA a, oI (2 : Int32), oJ wd, oS, oJ cy, oS, oJ x2, oS, oJ y, oS]) rfl (XS.aloadN X18.here hx rfl (hb hby d7_17) rfl rfl k)
  show own_G (T18.setTop (mkF m 18 #[oA a, oI (2 : Int32), oJ wd, oS, oJ cy, oS, oJ x2, oS, oJ y, oS] [(.ref a)]))
  obtain ⟨T20, X20, e20, st20⟩ := getF X18 hx hZ hown (host := "") (Or.inl (hw _ (own_m 13 rfl))) Via.refl e18 Fw (g := (mkF m 18 #[oA a, oI (2 : Int32), oJ wd, oS, oJ cy, oS, oJ x2, oS, oJ y, oS] [(.ref a)])) rfl rfl (hb hby d7_18)
  refine up ?_ st20
  show own_G (T20.setTop (mkF m 21 #[oA a, oI (2 : Int32), oJ wd, oS, oJ cy, oS, oJ x2, oS, oJ y, oS] [(.ref r)]))
  refine up ?_ fun t k => XS.iloadN X20.here hx rfl (hb hby d7_21) rfl (XS.lload X20.here hx rfl (hb hby d7_22) rfl k)
  show own_G (T20.setTop (mkF m 24 #[oA a, oI (2 : Int32), oJ wd, oS, oJ cy, oS, oJ x2, oS, oJ y, oS] [(.long y), (.int (2 : Int32)), (.ref r)]))
  obtain ⟨cl21, Ar21, qa21, Sa21, Na21, Ha21, Ga21⟩ := id V
  have hin21 : ¬ ((2 : Int32) < 0 ∨ cl21.slots.size ≤ ((2 : Int32)).toNatClampNeg) := inb_of Sa21 ⟨by decide, own_i2 hc⟩
  obtain ⟨T21, h21, X21, e21, W21, st21⟩ := stJ X20 hx hZ e20 Ar21 (j := (2 : Int32)) hin21 (g := (mkF m 24 #[oA a, oI (2 : Int32), oJ wd, oS, oJ cy, oS, oJ x2, oS, oJ y, oS] [(.long y), (.int (2 : Int32)), (.ref r)])) rfl rfl (hb hby d7_24)
  refine up ?_ st21
  have E_a_c22 := E_a.wr W21
  have Fw_c22 := Fw.other W21 (Or.inl ne_ar)
  have Fl_c22 := Fl.other W21 (Or.inl ne_ar)
  have Fp_c22 := Fp.other W21 (Or.inl ne_ar)
  have V21 : Arv Z h21 r kr .long zc ((.long x0) :: (.long x1) :: (.long y) :: tl) (.long (0 : Int64)) := Arv.set Ar21 qa21 Sa21 Na21 Ha21 Ga21 rfl W21 2 rfl (by simp only [List.length_cons]; omega)
  have N21 := Fr.snoc X21 N0 g_r
  have kq23 := Nat.le_trans (Nat.le_refl h0.size) (Keep.of_wr W21).1
  have Zs24 : n0 ≤ h21.size := Nat.le_trans Z0 (Keep.of_wr W21).1
  show own_G (T21.setTop (mkF m 25 #[oA a, oI (2 : Int32), oJ wd, oS, oJ cy, oS, oJ x2, oS, oJ y, oS] []))
  refine up ?_ fun t k => XS.lload X21.here hx rfl (hb hby d7_25) rfl (XS.lloadN X21.here hx rfl (hb hby d7_27) rfl (XS.lload X21.here hx rfl (hb hby d7_28) rfl k))
  show own_G (T21.setTop (mkF m 30 #[oA a, oI (2 : Int32), oJ wd, oS, oJ cy, oS, oJ x2, oS, oJ y, oS] [(.long y), (.long wd), (.long x2)]))
  obtain ⟨_, _, ⟨T25, L25, k25, n25⟩, -, X25, ⟨Lc25, hQ25, l25, y25, z25⟩, st25⟩ := Jvm.LawKit.callS X21 hx (y := (⟨"com/example/eventweir/eventweir/ExactSum", "carryOut", "(JJJ)J"⟩ : MethodName)) hown (mvT hZ (hw _ (own_m 45 rfl))) (mvT hZ (hw _ (own_m 46 rfl))) (mvT hZ (hw _ (own_m 4 rfl))) (mvT hZ (hw _ (own_m 47 rfl))) (by decide) (backOf (W := 0) (rmco l Z a0 hw [] x2 wd y  h21 n0 Zs24 ) hZ (hw _ (own_m 47 rfl)) (hw _ (own_m 4 rfl)) (by decide) (by decide)) (g := (mkF m 30 #[oA a, oI (2 : Int32), oJ wd, oS, oJ cy, oS, oJ x2, oS, oJ y, oS] [(.long y), (.long wd), (.long x2)])) rfl (by rw [hml]; rfl) (argsL := [(.long x2), (.long wd), (.long y)]) (rest := []) (lenOf own_pd0 rfl) rfl (by show 2 * 0 + _ ≤ _; exact Nat.le_of_eq rfl) (hb hby d7_30) (fun _ _ => ⟨rfl, e21, (by decide : 0 + 0 ≤ _), (by decide : 0 + 0 ≤ _)⟩)
  dsimp only [Pt.U, Pt.locs, Pt.cells, Pt.slots] at X25 l25 y25 z25 st25 hQ25
  subst l25 y25 z25
  obtain ⟨rfl, Nq25, e25⟩ := hQ25
  have N25 := Fr.app N21 Nq25
  refine up ?_ (st25)
  show own_G (T25.setTop (mkF m 33 #[oA a, oI (2 : Int32), oJ wd, oS, oJ cy, oS, oJ x2, oS, oJ y, oS] [(.long (own_co x2 wd y))]))
  exact own_retJ X25 hx hlk hret (hb hby d7_33) (by rw [e25]; exact ⟨rfl, N25, kq23, ⟨E_a_c22, Fw_c22, Fl_c22, Fp_c22, V21⟩⟩) (by decide) (by decide)
def own_Q_rmad3 (Z : State) (a : Addr) (wd : Int64) (cy : Int64) (r : Addr) (kr : ClassId) (pw : Int32) (x0 : Int64) (x1 : Int64) (x2 : Int64) (x3 : Int64) (n : Int32) (y : Int64) (h0 : Heap) (n0 : Nat) (v : Option Value) (h : Heap) (L : List Loc) : Prop := v = some (.long (own_co x3 wd y)) ∧ Fr n0 L ∧ h0.size ≤ h.size ∧ own_O Z h a r kr (4 : Int32) n pw [(.long x0), (.long x1), (.long x2), (.long y)]
theorem rmad3 (l : Launch) (Z : State) (a0 : Array Value) (hw : own_W Z a0) (ws : List Jvm.Cond) (a : Addr) (wd : Int64) (cy : Int64) (r : Addr) (kr : ClassId) (pw : Int32) (x0 : Int64) (x1 : Int64) (x2 : Int64) (x3 : Int64) (n : Int32) (y : Int64) (h0 : Heap) (n0 : Nat) (Z0 : n0 ≤ h0.size) (O0 : own_O Z h0 a r kr (4 : Int32) n pw [(.long x0), (.long x1), (.long x2), (.long x3)]) (g_a : n0 ≤ a) (g_r : n0 ≤ r) (hy : ((x3 + wd) + cy) = y) :
    own_M l Z (⟨"com/example/eventweir/eventweir/ExactSum", "addAt", "(IJJ)J"⟩ : MethodName) prog_78_method_9_code 10 (some .long) ws ({ frames := 1, cells := 0, slots := 0, locals := 17 } : Room) #[(.ref a), (.int (3 : Int32)), (.long wd), (.long cy)] h0 (own_Q_rmad3 Z a wd cy r kr pw x0 x1 x2 x3 n y h0 n0) := by
  refine own_body (plainFor_of_name own_pn0) ?_
  intro p e s m below meth c s₁ hx hZ hby hml hown hnm hlk hret X0 e0
  have N0 := Fr.nil n0
  obtain ⟨E_a, Fw, Fl, Fp, V⟩ := O0
  have ne_ar : a ≠ r := E_a.neArv V (hw _ (own_m 3 rfl))
  refine up (U' := s₁.setTop (mkF m 0 #[oA a, oI (3 : Int32), oJ wd, oS, oJ cy, oS, oU, oU, oU, oU] [])) ?_ (fun t k => castTop (own_ef_rmad0 m a (3 : Int32) wd cy) k)
  refine up ?_ fun t k => XS.aloadN X0.here hx rfl (hb hby d7_0) rfl rfl k
  show own_G (s₁.setTop (mkF m 1 #[oA a, oI (3 : Int32), oJ wd, oS, oJ cy, oS, oU, oU, oU, oU] [(.ref a)]))
  obtain ⟨T26, X26, e26, st26⟩ := getF X0 hx hZ hown (host := "") (Or.inl (hw _ (own_m 13 rfl))) Via.refl e0 Fw (g := (mkF m 1 #[oA a, oI (3 : Int32), oJ wd, oS, oJ cy, oS, oU, oU, oU, oU] [(.ref a)])) rfl rfl (hb hby d7_1)
  refine up ?_ st26
  show own_G (T26.setTop (mkF m 4 #[oA a, oI (3 : Int32), oJ wd, oS, oJ cy, oS, oU, oU, oU, oU] [(.ref r)]))
  refine up ?_ fun t k => XS.iloadN X26.here hx rfl (hb hby d7_4) rfl k
  show own_G (T26.setTop (mkF m 5 #[oA a, oI (3 : Int32), oJ wd, oS, oJ cy, oS, oU, oU, oU, oU] [(.int (3 : Int32)), (.ref r)]))
  obtain ⟨cl27, Ar27, qa27, Sa27, Na27, Ha27, Ga27⟩ := id V
  have hin27 : ¬ ((3 : Int32) < 0 ∨ cl27.slots.size ≤ ((3 : Int32)).toNatClampNeg) := inb_of Sa27 ⟨by decide, by decide⟩
  refine up ?_ fun t k => X26.laload hx (j := (3 : Int32)) (v := (.long x3)) (by rw [e26]; exact Ar27.1) (State.isArrayOf_alike hZ.alike Ar27.2.1) Ar27.2.2 hin27 (Ha27.at hin27 rfl) (g := (mkF m 5 #[oA a, oI (3 : Int32), oJ wd, oS, oJ cy, oS, oU, oU, oU, oU] [(.int (3 : Int32)), (.ref r)])) rfl rfl (hb hby d7_5) _ (XS.lstore X26.here hx rfl (hb hby d7_6) rfl (l' := #[oA a, oI (3 : Int32), oJ wd, oS, oJ cy, oS, oJ x3, oS, oU, oU]) rfl (XS.lload X26.here hx rfl (hb hby d7_8) rfl (XS.lloadN X26.here hx rfl (hb hby d7_10) rfl (XS.ladd X26.here hx rfl (hb hby d7_11) rfl (XS.lload X26.here hx rfl (hb hby d7_12) rfl (XS.ladd X26.here hx rfl (hb hby d7_14) rfl k))))))
  show own_G (T26.setTop (mkF m 15 #[oA a, oI (3 : Int32), oJ wd, oS, oJ cy, oS, oJ x3, oS, oU, oU] [(.long ((x3 + wd) + cy))]))
  rw [hy]
  show own_G (T26.setTop (mkF m 15 #[oA a, oI (3 : Int32), oJ wd, oS, oJ cy, oS, oJ x3, oS, oU, oU] [(.long y)]))
  refine up ?_ fun t k => XS.lstore X26.here hx rfl (hb hby d7_15) rfl (l' := #[oA a, oI (3 : Int32), oJ wd, oS, oJ cy, oS, oJ x3, oS, oJ y, oS]) rfl (XS.aloadN X26.here hx rfl (hb hby d7_17) rfl rfl k)
  show own_G (T26.setTop (mkF m 18 #[oA a, oI (3 : Int32), oJ wd, oS, oJ cy, oS, oJ x3, oS, oJ y, oS] [(.ref a)]))
  obtain ⟨T28, X28, e28, st28⟩ := getF X26 hx hZ hown (host := "") (Or.inl (hw _ (own_m 13 rfl))) Via.refl e26 Fw (g := (mkF m 18 #[oA a, oI (3 : Int32), oJ wd, oS, oJ cy, oS, oJ x3, oS, oJ y, oS] [(.ref a)])) rfl rfl (hb hby d7_18)
  refine up ?_ st28
  show own_G (T28.setTop (mkF m 21 #[oA a, oI (3 : Int32), oJ wd, oS, oJ cy, oS, oJ x3, oS, oJ y, oS] [(.ref r)]))
  refine up ?_ fun t k => XS.iloadN X28.here hx rfl (hb hby d7_21) rfl (XS.lload X28.here hx rfl (hb hby d7_22) rfl k)
  show own_G (T28.setTop (mkF m 24 #[oA a, oI (3 : Int32), oJ wd, oS, oJ cy, oS, oJ x3, oS, oJ y, oS] [(.long y), (.int (3 : Int32)), (.ref r)]))
  obtain ⟨cl29, Ar29, qa29, Sa29, Na29, Ha29, Ga29⟩ := id V
  have hin29 : ¬ ((3 : Int32) < 0 ∨ cl29.slots.size ≤ ((3 : Int32)).toNatClampNeg) := inb_of Sa29 ⟨by decide, by decide⟩
  obtain ⟨T29, h29, X29, e29, W29, st29⟩ := stJ X28 hx hZ e28 Ar29 (j := (3 : Int32)) hin29 (g := (mkF m 24 #[oA a, oI (3 : Int32), oJ wd, oS, oJ cy, oS, oJ x3, oS, oJ y, oS] [(.long y), (.int (3 : Int32)), (.ref r)])) rfl rfl (hb hby d7_24)
  refine up ?_ st29
  have E_a_c30 := E_a.wr W29
  have Fw_c30 := Fw.other W29 (Or.inl ne_ar)
  have Fl_c30 := Fl.other W29 (Or.inl ne_ar)
  have Fp_c30 := Fp.other W29 (Or.inl ne_ar)
  have V29 : Arv Z h29 r kr .long (4 : Int32) [(.long x0), (.long x1), (.long x2), (.long y)] (.long (0 : Int64)) := Arv.set Ar29 qa29 Sa29 Na29 Ha29 Ga29 rfl W29 3 rfl (Nat.le_of_ble_eq_true rfl)
  have N29 := Fr.snoc X29 N0 g_r
  have kq31 := Nat.le_trans (Nat.le_refl h0.size) (Keep.of_wr W29).1
  have Zs32 : n0 ≤ h29.size := Nat.le_trans Z0 (Keep.of_wr W29).1
  show own_G (T29.setTop (mkF m 25 #[oA a, oI (3 : Int32), oJ wd, oS, oJ cy, oS, oJ x3, oS, oJ y, oS] []))
  refine up ?_ fun t k => XS.lload X29.here hx rfl (hb hby d7_25) rfl (XS.lloadN X29.here hx rfl (hb hby d7_27) rfl (XS.lload X29.here hx rfl (hb hby d7_28) rfl k))
  show own_G (T29.setTop (mkF m 30 #[oA a, oI (3 : Int32), oJ wd, oS, oJ cy, oS, oJ x3, oS, oJ y, oS] [(.long y), (.long wd), (.long x3)]))
  obtain ⟨_, _, ⟨T33, L33, k33, n33⟩, -, X33, ⟨Lc33, hQ33, l33, y33, z33⟩, st33⟩ := Jvm.LawKit.callS X29 hx (y := (⟨"com/example/eventweir/eventweir/ExactSum", "carryOut", "(JJJ)J"⟩ : MethodName)) hown (mvT hZ (hw _ (own_m 45 rfl))) (mvT hZ (hw _ (own_m 46 rfl))) (mvT hZ (hw _ (own_m 4 rfl))) (mvT hZ (hw _ (own_m 47 rfl))) (by decide) (backOf (W := 0) (rmco l Z a0 hw [] x3 wd y  h29 n0 Zs32 ) hZ (hw _ (own_m 47 rfl)) (hw _ (own_m 4 rfl)) (by decide) (by decide)) (g := (mkF m 30 #[oA a, oI (3 : Int32), oJ wd, oS, oJ cy, oS, oJ x3, oS, oJ y, oS] [(.long y), (.long wd), (.long x3)])) rfl (by rw [hml]; rfl) (argsL := [(.long x3), (.long wd), (.long y)]) (rest := []) (lenOf own_pd0 rfl) rfl (by show 2 * 0 + _ ≤ _; exact Nat.le_of_eq rfl) (hb hby d7_30) (fun _ _ => ⟨rfl, e29, (by decide : 0 + 0 ≤ _), (by decide : 0 + 0 ≤ _)⟩)
  dsimp only [Pt.U, Pt.locs, Pt.cells, Pt.slots] at X33 l33 y33 z33 st33 hQ33
  subst l33 y33 z33
  obtain ⟨rfl, Nq33, e33⟩ := hQ33
  have N33 := Fr.app N29 Nq33
  refine up ?_ (st33)
  show own_G (T33.setTop (mkF m 33 #[oA a, oI (3 : Int32), oJ wd, oS, oJ cy, oS, oJ x3, oS, oJ y, oS] [(.long (own_co x3 wd y))]))
  exact own_retJ X33 hx hlk hret (hb hby d7_33) (by rw [e33]; exact ⟨rfl, N33, kq31, ⟨E_a_c30, Fw_c30, Fl_c30, Fp_c30, V29⟩⟩) (by decide) (by decide)
theorem d9_0 : decode prog_78_method_11_code 0 = .ok (.aload_n 0, 1) := by decide +kernel
theorem d9_1 : decode prog_78_method_11_code 1 = .ok (.getfield 13, 3) := by decide +kernel
theorem d9_4 : decode prog_78_method_11_code 4 = .ok (.iload_n 1, 1) := by decide +kernel
theorem d9_5 : decode prog_78_method_11_code 5 = .ok (.laload, 1) := by decide +kernel
theorem d9_6 : decode prog_78_method_11_code 6 = .ok (.iload_n 1, 1) := by decide +kernel
theorem d9_7 : decode prog_78_method_11_code 7 = .ok (.ifCond .ne 7, 3) := by decide +kernel
theorem d9_10 : decode prog_78_method_11_code 10 = .ok (.lconst 0, 1) := by decide +kernel
theorem d9_11 : decode prog_78_method_11_code 11 = .ok (.goto 14, 3) := by decide +kernel
theorem d9_14 : decode prog_78_method_11_code 14 = .ok (.aload_n 0, 1) := by decide +kernel
theorem d9_15 : decode prog_78_method_11_code 15 = .ok (.getfield 13, 3) := by decide +kernel
theorem d9_18 : decode prog_78_method_11_code 18 = .ok (.iload_n 1, 1) := by decide +kernel
theorem d9_19 : decode prog_78_method_11_code 19 = .ok (.iconst 1, 1) := by decide +kernel
theorem d9_20 : decode prog_78_method_11_code 20 = .ok (.isub, 1) := by decide +kernel
theorem d9_21 : decode prog_78_method_11_code 21 = .ok (.laload, 1) := by decide +kernel
theorem d9_22 : decode prog_78_method_11_code 22 = .ok (.bipush 63, 2) := by decide +kernel
theorem d9_24 : decode prog_78_method_11_code 24 = .ok (.lshr, 1) := by decide +kernel
theorem d9_25 : decode prog_78_method_11_code 25 = .ok (.lcmp, 1) := by decide +kernel
theorem d9_26 : decode prog_78_method_11_code 26 = .ok (.ifCond .ne 7, 3) := by decide +kernel
theorem d9_29 : decode prog_78_method_11_code 29 = .ok (.iconst 1, 1) := by decide +kernel
theorem d9_30 : decode prog_78_method_11_code 30 = .ok (.goto 4, 3) := by decide +kernel
theorem d9_33 : decode prog_78_method_11_code 33 = .ok (.iconst 0, 1) := by decide +kernel
theorem d9_34 : decode prog_78_method_11_code 34 = .ok (.ireturn, 1) := by decide +kernel
theorem own_ef_rmrs0 (m : MethodId) (x0 : Addr) (x1 : Int32) : entryFrame m #[(.ref x0), (.int x1)] 2 = mkF m 0 #[oA x0, oI x1] [] := by first | (simp [entryFrame, mkF, argsToLocals, Value.category]; done) | rfl
def own_Q_rmrs0 (Z : State) (a : Addr) (r : Addr) (kr : ClassId) (zc : Int32) (pw : Int32) (tl : List Value) (x0 : Int64) (x1 : Int64) (x2 : Int64) (n : Int32) (h0 : Heap) (n0 : Nat) (v : Option Value) (h : Heap) (L : List Loc) : Prop := v = some (.int (if x0 = (0 : Int64) then (1 : Int32) else (0 : Int32))) ∧ Fr n0 L ∧ h = h0
theorem rmrs0 (l : Launch) (Z : State) (a0 : Array Value) (hw : own_W Z a0) (ws : List Jvm.Cond) (a : Addr) (r : Addr) (kr : ClassId) (zc : Int32) (pw : Int32) (tl : List Value) (x0 : Int64) (x1 : Int64) (x2 : Int64) (n : Int32) (h0 : Heap) (n0 : Nat) (Z0 : n0 ≤ h0.size) (O0 : own_O Z h0 a r kr zc n pw ((.long x0) :: (.long x1) :: (.long x2) :: tl)) (g_a : n0 ≤ a) (g_r : n0 ≤ r) (hc : own_cap zc tl) :
    own_M l Z (⟨"com/example/eventweir/eventweir/ExactSum", "repeatsSign", "(I)Z"⟩ : MethodName) prog_78_method_11_code 2 (some .boolean) ws ({ frames := 0, cells := 0, slots := 0, locals := 0 } : Room) #[(.ref a), (.int (0 : Int32))] h0 (own_Q_rmrs0 Z a r kr zc pw tl x0 x1 x2 n h0 n0) := by
  refine own_body (plainFor_of_name own_pn0) ?_
  intro p e s m below meth c s₁ hx hZ hby hml hown hnm hlk hret X0 e0
  have N0 := Fr.nil n0
  obtain ⟨E_a, Fw, Fl, Fp, V⟩ := O0
  have ne_ar : a ≠ r := E_a.neArv V (hw _ (own_m 3 rfl))
  refine up (U' := s₁.setTop (mkF m 0 #[oA a, oI (0 : Int32)] [])) ?_ (fun t k => castTop (own_ef_rmrs0 m a (0 : Int32)) k)
  refine up ?_ fun t k => XS.aloadN X0.here hx rfl (hb hby d9_0) rfl rfl k
  show own_G (s₁.setTop (mkF m 1 #[oA a, oI (0 : Int32)] [(.ref a)]))
  obtain ⟨T34, X34, e34, st34⟩ := getF X0 hx hZ hown (host := "") (Or.inl (hw _ (own_m 13 rfl))) Via.refl e0 Fw (g := (mkF m 1 #[oA a, oI (0 : Int32)] [(.ref a)])) rfl rfl (hb hby d9_1)
  refine up ?_ st34
  show own_G (T34.setTop (mkF m 4 #[oA a, oI (0 : Int32)] [(.ref r)]))
  refine up ?_ fun t k => XS.iloadN X34.here hx rfl (hb hby d9_4) rfl k
  show own_G (T34.setTop (mkF m 5 #[oA a, oI (0 : Int32)] [(.int (0 : Int32)), (.ref r)]))
  obtain ⟨cl35, Ar35, qa35, Sa35, Na35, Ha35, Ga35⟩ := id V
  have hin35 : ¬ ((0 : Int32) < 0 ∨ cl35.slots.size ≤ ((0 : Int32)).toNatClampNeg) := inb_of Sa35 ⟨by decide, own_i0 hc⟩
  refine up ?_ fun t k => X34.laload hx (j := (0 : Int32)) (v := (.long x0)) (by rw [e34]; exact Ar35.1) (State.isArrayOf_alike hZ.alike Ar35.2.1) Ar35.2.2 hin35 (Ha35.at hin35 rfl) (g := (mkF m 5 #[oA a, oI (0 : Int32)] [(.int (0 : Int32)), (.ref r)])) rfl rfl (hb hby d9_5) _ (XS.iloadN X34.here hx rfl (hb hby d9_6) rfl k)
  show own_G (T34.setTop (mkF m 7 #[oA a, oI (0 : Int32)] [(.int (0 : Int32)), (.long x0)]))
  refine up ?_ fun t k => XS.ifNo X34.here hx rfl (hb hby d9_7) rfl ((if0 _ _).trans (teq (by decide : ((0 : Int32) = (0 : Int32)))).2) (XS.lconst X34.here hx rfl (hb hby d9_10) (XS.goto X34.here hx rfl (pc0 := 11) (pc' := 25) rfl (hb hby d9_11) (by decide) (by decide) (XS.lcmp X34.here hx rfl (hb hby d9_25) rfl k)))
  show own_G (T34.setTop (mkF m 26 #[oA a, oI (0 : Int32)] [(.int (lcmpW x0 (0 : Int64)))]))
  by_cases hc26_36 : x0 = (0 : Int64)
  · refine up ?_ fun t k => XS.ifNo X34.here hx rfl (hb hby d9_26) rfl ((if0 _ _).trans (teq ((lw_eq _ _).mpr hc26_36)).2) (XS.iconst X34.here hx rfl (hb hby d9_29) (XS.goto X34.here hx rfl (pc0 := 30) (pc' := 34) rfl (hb hby d9_30) (by decide) (by decide) k))
    show own_G (T34.setTop (mkF m 34 #[oA a, oI (0 : Int32)] [(.int (1 : Int32))]))
    exact own_retI X34 hx hlk hret (by simp) rfl (hb hby d9_34) ⟨congrArg (fun z => some (Value.int z)) (by simp only [if_pos hc26_36]), N0, e34⟩ (by decide) (by decide)
  · refine up ?_ fun t k => XS.ifYes X34.here hx rfl (pc0 := 26) (pc' := 33) rfl (hb hby d9_26) rfl ((if0 _ _).trans (feq (fun q => hc26_36 ((lw_eq _ _).mp q))).2) (by decide) (by decide) (XS.iconst X34.here hx rfl (hb hby d9_33) k)
    show own_G (T34.setTop (mkF m 34 #[oA a, oI (0 : Int32)] [(.int (0 : Int32))]))
    exact own_retI X34 hx hlk hret (by simp) rfl (hb hby d9_34) ⟨congrArg (fun z => some (Value.int z)) (by simp only [if_neg hc26_36]), N0, e34⟩ (by decide) (by decide)
def own_Q_rmrs1 (Z : State) (a : Addr) (r : Addr) (kr : ClassId) (zc : Int32) (pw : Int32) (tl : List Value) (x0 : Int64) (x1 : Int64) (x2 : Int64) (n : Int32) (h0 : Heap) (n0 : Nat) (v : Option Value) (h : Heap) (L : List Loc) : Prop := v = some (.int (if x1 = own_sg x0 then (1 : Int32) else (0 : Int32))) ∧ Fr n0 L ∧ h = h0
theorem rmrs1 (l : Launch) (Z : State) (a0 : Array Value) (hw : own_W Z a0) (ws : List Jvm.Cond) (a : Addr) (r : Addr) (kr : ClassId) (zc : Int32) (pw : Int32) (tl : List Value) (x0 : Int64) (x1 : Int64) (x2 : Int64) (n : Int32) (h0 : Heap) (n0 : Nat) (Z0 : n0 ≤ h0.size) (O0 : own_O Z h0 a r kr zc n pw ((.long x0) :: (.long x1) :: (.long x2) :: tl)) (g_a : n0 ≤ a) (g_r : n0 ≤ r) (hc : own_cap zc tl) :
    own_M l Z (⟨"com/example/eventweir/eventweir/ExactSum", "repeatsSign", "(I)Z"⟩ : MethodName) prog_78_method_11_code 2 (some .boolean) ws ({ frames := 0, cells := 0, slots := 0, locals := 0 } : Room) #[(.ref a), (.int (1 : Int32))] h0 (own_Q_rmrs1 Z a r kr zc pw tl x0 x1 x2 n h0 n0) := by
  refine own_body (plainFor_of_name own_pn0) ?_
  intro p e s m below meth c s₁ hx hZ hby hml hown hnm hlk hret X0 e0
  have N0 := Fr.nil n0
  obtain ⟨E_a, Fw, Fl, Fp, V⟩ := O0
  have ne_ar : a ≠ r := E_a.neArv V (hw _ (own_m 3 rfl))
  refine up (U' := s₁.setTop (mkF m 0 #[oA a, oI (1 : Int32)] [])) ?_ (fun t k => castTop (own_ef_rmrs0 m a (1 : Int32)) k)
  refine up ?_ fun t k => XS.aloadN X0.here hx rfl (hb hby d9_0) rfl rfl k
  show own_G (s₁.setTop (mkF m 1 #[oA a, oI (1 : Int32)] [(.ref a)]))
  obtain ⟨T37, X37, e37, st37⟩ := getF X0 hx hZ hown (host := "") (Or.inl (hw _ (own_m 13 rfl))) Via.refl e0 Fw (g := (mkF m 1 #[oA a, oI (1 : Int32)] [(.ref a)])) rfl rfl (hb hby d9_1)
  refine up ?_ st37
  show own_G (T37.setTop (mkF m 4 #[oA a, oI (1 : Int32)] [(.ref r)]))
  refine up ?_ fun t k => XS.iloadN X37.here hx rfl (hb hby d9_4) rfl k
  show own_G (T37.setTop (mkF m 5 #[oA a, oI (1 : Int32)] [(.int (1 : Int32)), (.ref r)]))
  obtain ⟨cl38, Ar38, qa38, Sa38, Na38, Ha38, Ga38⟩ := id V
  have hin38 : ¬ ((1 : Int32) < 0 ∨ cl38.slots.size ≤ ((1 : Int32)).toNatClampNeg) := inb_of Sa38 ⟨by decide, own_i1 hc⟩
  refine up ?_ fun t k => X37.laload hx (j := (1 : Int32)) (v := (.long x1)) (by rw [e37]; exact Ar38.1) (State.isArrayOf_alike hZ.alike Ar38.2.1) Ar38.2.2 hin38 (Ha38.at hin38 rfl) (g := (mkF m 5 #[oA a, oI (1 : Int32)] [(.int (1 : Int32)), (.ref r)])) rfl rfl (hb hby d9_5) _ (XS.iloadN X37.here hx rfl (hb hby d9_6) rfl k)
  show own_G (T37.setTop (mkF m 7 #[oA a, oI (1 : Int32)] [(.int (1 : Int32)), (.long x1)]))
  refine up ?_ fun t k => XS.ifYes X37.here hx rfl (pc0 := 7) (pc' := 14) rfl (hb hby d9_7) rfl ((if0 _ _).trans (feq (by decide : ¬ ((1 : Int32) = (0 : Int32)))).2) (by decide) (by decide) (XS.aloadN X37.here hx rfl (hb hby d9_14) rfl rfl k)
  show own_G (T37.setTop (mkF m 15 #[oA a, oI (1 : Int32)] [(.ref a), (.long x1)]))
  obtain ⟨T39, X39, e39, st39⟩ := getF X37 hx hZ hown (host := "") (Or.inl (hw _ (own_m 13 rfl))) Via.refl e37 Fw (g := (mkF m 15 #[oA a, oI (1 : Int32)] [(.ref a), (.long x1)])) rfl rfl (hb hby d9_15)
  refine up ?_ st39
  show own_G (T39.setTop (mkF m 18 #[oA a, oI (1 : Int32)] [(.ref r), (.long x1)]))
  refine up ?_ fun t k => XS.iloadN X39.here hx rfl (hb hby d9_18) rfl (XS.iconst X39.here hx rfl (hb hby d9_19) (XS.isub X39.here hx rfl (hb hby d9_20) rfl k))
  show own_G (T39.setTop (mkF m 21 #[oA a, oI (1 : Int32)] [(.int (0 : Int32)), (.ref r), (.long x1)]))
  obtain ⟨cl40, Ar40, qa40, Sa40, Na40, Ha40, Ga40⟩ := id V
  have hin40 : ¬ ((0 : Int32) < 0 ∨ cl40.slots.size ≤ ((0 : Int32)).toNatClampNeg) := inb_of Sa40 ⟨by decide, own_i0 hc⟩
  refine up ?_ fun t k => X39.laload hx (j := (0 : Int32)) (v := (.long x0)) (by rw [e39]; exact Ar40.1) (State.isArrayOf_alike hZ.alike Ar40.2.1) Ar40.2.2 hin40 (Ha40.at hin40 rfl) (g := (mkF m 21 #[oA a, oI (1 : Int32)] [(.int (0 : Int32)), (.ref r), (.long x1)])) rfl rfl (hb hby d9_21) _ (XS.bipush X39.here hx rfl (hb hby d9_22) (XS.lshr X39.here hx rfl (hb hby d9_24) rfl k))
  show own_G (T39.setTop (mkF m 25 #[oA a, oI (1 : Int32)] [(.long (x0 >>> ((63 : Int32) &&& 0x3f).toInt64)), (.long x1)]))
  show own_G (T39.setTop (mkF m 25 #[oA a, oI (1 : Int32)] [(.long (own_sg x0)), (.long x1)]))
  refine up ?_ fun t k => XS.lcmp X39.here hx rfl (hb hby d9_25) rfl k
  show own_G (T39.setTop (mkF m 26 #[oA a, oI (1 : Int32)] [(.int (lcmpW x1 (own_sg x0)))]))
  by_cases hc26_41 : x1 = (own_sg x0)
  · refine up ?_ fun t k => XS.ifNo X39.here hx rfl (hb hby d9_26) rfl ((if0 _ _).trans (teq ((lw_eq _ _).mpr hc26_41)).2) (XS.iconst X39.here hx rfl (hb hby d9_29) (XS.goto X39.here hx rfl (pc0 := 30) (pc' := 34) rfl (hb hby d9_30) (by decide) (by decide) k))
    show own_G (T39.setTop (mkF m 34 #[oA a, oI (1 : Int32)] [(.int (1 : Int32))]))
    exact own_retI X39 hx hlk hret (by simp) rfl (hb hby d9_34) ⟨congrArg (fun z => some (Value.int z)) (by simp only [if_pos hc26_41]), N0, e39⟩ (by decide) (by decide)
  · refine up ?_ fun t k => XS.ifYes X39.here hx rfl (pc0 := 26) (pc' := 33) rfl (hb hby d9_26) rfl ((if0 _ _).trans (feq (fun q => hc26_41 ((lw_eq _ _).mp q))).2) (by decide) (by decide) (XS.iconst X39.here hx rfl (hb hby d9_33) k)
    show own_G (T39.setTop (mkF m 34 #[oA a, oI (1 : Int32)] [(.int (0 : Int32))]))
    exact own_retI X39 hx hlk hret (by simp) rfl (hb hby d9_34) ⟨congrArg (fun z => some (Value.int z)) (by simp only [if_neg hc26_41]), N0, e39⟩ (by decide) (by decide)
def own_Q_rmrs2 (Z : State) (a : Addr) (r : Addr) (kr : ClassId) (zc : Int32) (pw : Int32) (tl : List Value) (x0 : Int64) (x1 : Int64) (x2 : Int64) (n : Int32) (h0 : Heap) (n0 : Nat) (v : Option Value) (h : Heap) (L : List Loc) : Prop := v = some (.int (if x2 = own_sg x1 then (1 : Int32) else (0 : Int32))) ∧ Fr n0 L ∧ h = h0
theorem rmrs2 (l : Launch) (Z : State) (a0 : Array Value) (hw : own_W Z a0) (ws : List Jvm.Cond) (a : Addr) (r : Addr) (kr : ClassId) (zc : Int32) (pw : Int32) (tl : List Value) (x0 : Int64) (x1 : Int64) (x2 : Int64) (n : Int32) (h0 : Heap) (n0 : Nat) (Z0 : n0 ≤ h0.size) (O0 : own_O Z h0 a r kr zc n pw ((.long x0) :: (.long x1) :: (.long x2) :: tl)) (g_a : n0 ≤ a) (g_r : n0 ≤ r) (hc : own_cap zc tl) :
    own_M l Z (⟨"com/example/eventweir/eventweir/ExactSum", "repeatsSign", "(I)Z"⟩ : MethodName) prog_78_method_11_code 2 (some .boolean) ws ({ frames := 0, cells := 0, slots := 0, locals := 0 } : Room) #[(.ref a), (.int (2 : Int32))] h0 (own_Q_rmrs2 Z a r kr zc pw tl x0 x1 x2 n h0 n0) := by
  refine own_body (plainFor_of_name own_pn0) ?_
  intro p e s m below meth c s₁ hx hZ hby hml hown hnm hlk hret X0 e0
  have N0 := Fr.nil n0
  obtain ⟨E_a, Fw, Fl, Fp, V⟩ := O0
  have ne_ar : a ≠ r := E_a.neArv V (hw _ (own_m 3 rfl))
  refine up (U' := s₁.setTop (mkF m 0 #[oA a, oI (2 : Int32)] [])) ?_ (fun t k => castTop (own_ef_rmrs0 m a (2 : Int32)) k)
  refine up ?_ fun t k => XS.aloadN X0.here hx rfl (hb hby d9_0) rfl rfl k
  show own_G (s₁.setTop (mkF m 1 #[oA a, oI (2 : Int32)] [(.ref a)]))
  obtain ⟨T42, X42, e42, st42⟩ := getF X0 hx hZ hown (host := "") (Or.inl (hw _ (own_m 13 rfl))) Via.refl e0 Fw (g := (mkF m 1 #[oA a, oI (2 : Int32)] [(.ref a)])) rfl rfl (hb hby d9_1)
  refine up ?_ st42
  show own_G (T42.setTop (mkF m 4 #[oA a, oI (2 : Int32)] [(.ref r)]))
  refine up ?_ fun t k => XS.iloadN X42.here hx rfl (hb hby d9_4) rfl k
  show own_G (T42.setTop (mkF m 5 #[oA a, oI (2 : Int32)] [(.int (2 : Int32)), (.ref r)]))
  obtain ⟨cl43, Ar43, qa43, Sa43, Na43, Ha43, Ga43⟩ := id V
  have hin43 : ¬ ((2 : Int32) < 0 ∨ cl43.slots.size ≤ ((2 : Int32)).toNatClampNeg) := inb_of Sa43 ⟨by decide, own_i2 hc⟩
  refine up ?_ fun t k => X42.laload hx (j := (2 : Int32)) (v := (.long x2)) (by rw [e42]; exact Ar43.1) (State.isArrayOf_alike hZ.alike Ar43.2.1) Ar43.2.2 hin43 (Ha43.at hin43 rfl) (g := (mkF m 5 #[oA a, oI (2 : Int32)] [(.int (2 : Int32)), (.ref r)])) rfl rfl (hb hby d9_5) _ (XS.iloadN X42.here hx rfl (hb hby d9_6) rfl k)
  show own_G (T42.setTop (mkF m 7 #[oA a, oI (2 : Int32)] [(.int (2 : Int32)), (.long x2)]))
  refine up ?_ fun t k => XS.ifYes X42.here hx rfl (pc0 := 7) (pc' := 14) rfl (hb hby d9_7) rfl ((if0 _ _).trans (feq (by decide : ¬ ((2 : Int32) = (0 : Int32)))).2) (by decide) (by decide) (XS.aloadN X42.here hx rfl (hb hby d9_14) rfl rfl k)
  show own_G (T42.setTop (mkF m 15 #[oA a, oI (2 : Int32)] [(.ref a), (.long x2)]))
  obtain ⟨T44, X44, e44, st44⟩ := getF X42 hx hZ hown (host := "") (Or.inl (hw _ (own_m 13 rfl))) Via.refl e42 Fw (g := (mkF m 15 #[oA a, oI (2 : Int32)] [(.ref a), (.long x2)])) rfl rfl (hb hby d9_15)
  refine up ?_ st44
  show own_G (T44.setTop (mkF m 18 #[oA a, oI (2 : Int32)] [(.ref r), (.long x2)]))
  refine up ?_ fun t k => XS.iloadN X44.here hx rfl (hb hby d9_18) rfl (XS.iconst X44.here hx rfl (hb hby d9_19) (XS.isub X44.here hx rfl (hb hby d9_20) rfl k))
  show own_G (T44.setTop (mkF m 21 #[oA a, oI (2 : Int32)] [(.int (1 : Int32)), (.ref r), (.long x2)]))
  obtain ⟨cl45, Ar45, qa45, Sa45, Na45, Ha45, Ga45⟩ := id V
  have hin45 : ¬ ((1 : Int32) < 0 ∨ cl45.slots.size ≤ ((1 : Int32)).toNatClampNeg) := inb_of Sa45 ⟨by decide, own_i1 hc⟩
  refine up ?_ fun t k => X44.laload hx (j := (1 : Int32)) (v := (.long x1)) (by rw [e44]; exact Ar45.1) (State.isArrayOf_alike hZ.alike Ar45.2.1) Ar45.2.2 hin45 (Ha45.at hin45 rfl) (g := (mkF m 21 #[oA a, oI (2 : Int32)] [(.int (1 : Int32)), (.ref r), (.long x2)])) rfl rfl (hb hby d9_21) _ (XS.bipush X44.here hx rfl (hb hby d9_22) (XS.lshr X44.here hx rfl (hb hby d9_24) rfl k))
  show own_G (T44.setTop (mkF m 25 #[oA a, oI (2 : Int32)] [(.long (x1 >>> ((63 : Int32) &&& 0x3f).toInt64)), (.long x2)]))
  show own_G (T44.setTop (mkF m 25 #[oA a, oI (2 : Int32)] [(.long (own_sg x1)), (.long x2)]))
  refine up ?_ fun t k => XS.lcmp X44.here hx rfl (hb hby d9_25) rfl k
  show own_G (T44.setTop (mkF m 26 #[oA a, oI (2 : Int32)] [(.int (lcmpW x2 (own_sg x1)))]))
  by_cases hc26_46 : x2 = (own_sg x1)
  · refine up ?_ fun t k => XS.ifNo X44.here hx rfl (hb hby d9_26) rfl ((if0 _ _).trans (teq ((lw_eq _ _).mpr hc26_46)).2) (XS.iconst X44.here hx rfl (hb hby d9_29) (XS.goto X44.here hx rfl (pc0 := 30) (pc' := 34) rfl (hb hby d9_30) (by decide) (by decide) k))
    show own_G (T44.setTop (mkF m 34 #[oA a, oI (2 : Int32)] [(.int (1 : Int32))]))
    exact own_retI X44 hx hlk hret (by simp) rfl (hb hby d9_34) ⟨congrArg (fun z => some (Value.int z)) (by simp only [if_pos hc26_46]), N0, e44⟩ (by decide) (by decide)
  · refine up ?_ fun t k => XS.ifYes X44.here hx rfl (pc0 := 26) (pc' := 33) rfl (hb hby d9_26) rfl ((if0 _ _).trans (feq (fun q => hc26_46 ((lw_eq _ _).mp q))).2) (by decide) (by decide) (XS.iconst X44.here hx rfl (hb hby d9_33) k)
    show own_G (T44.setTop (mkF m 34 #[oA a, oI (2 : Int32)] [(.int (0 : Int32))]))
    exact own_retI X44 hx hlk hret (by simp) rfl (hb hby d9_34) ⟨congrArg (fun z => some (Value.int z)) (by simp only [if_neg hc26_46]), N0, e44⟩ (by decide) (by decide)
def own_Q_rmrs3 (Z : State) (a : Addr) (r : Addr) (kr : ClassId) (pw : Int32) (x0 : Int64) (x1 : Int64) (x2 : Int64) (x3 : Int64) (n : Int32) (h0 : Heap) (n0 : Nat) (v : Option Value) (h : Heap) (L : List Loc) : Prop := v = some (.int (if x3 = own_sg x2 then (1 : Int32) else (0 : Int32))) ∧ Fr n0 L ∧ h = h0
theorem rmrs3 (l : Launch) (Z : State) (a0 : Array Value) (hw : own_W Z a0) (ws : List Jvm.Cond) (a : Addr) (r : Addr) (kr : ClassId) (pw : Int32) (x0 : Int64) (x1 : Int64) (x2 : Int64) (x3 : Int64) (n : Int32) (h0 : Heap) (n0 : Nat) (Z0 : n0 ≤ h0.size) (O0 : own_O Z h0 a r kr (4 : Int32) n pw [(.long x0), (.long x1), (.long x2), (.long x3)]) (g_a : n0 ≤ a) (g_r : n0 ≤ r) :
    own_M l Z (⟨"com/example/eventweir/eventweir/ExactSum", "repeatsSign", "(I)Z"⟩ : MethodName) prog_78_method_11_code 2 (some .boolean) ws ({ frames := 0, cells := 0, slots := 0, locals := 0 } : Room) #[(.ref a), (.int (3 : Int32))] h0 (own_Q_rmrs3 Z a r kr pw x0 x1 x2 x3 n h0 n0) := by
  refine own_body (plainFor_of_name own_pn0) ?_
  intro p e s m below meth c s₁ hx hZ hby hml hown hnm hlk hret X0 e0
  have N0 := Fr.nil n0
  obtain ⟨E_a, Fw, Fl, Fp, V⟩ := O0
  have ne_ar : a ≠ r := E_a.neArv V (hw _ (own_m 3 rfl))
  refine up (U' := s₁.setTop (mkF m 0 #[oA a, oI (3 : Int32)] [])) ?_ (fun t k => castTop (own_ef_rmrs0 m a (3 : Int32)) k)
  refine up ?_ fun t k => XS.aloadN X0.here hx rfl (hb hby d9_0) rfl rfl k
  show own_G (s₁.setTop (mkF m 1 #[oA a, oI (3 : Int32)] [(.ref a)]))
  obtain ⟨T47, X47, e47, st47⟩ := getF X0 hx hZ hown (host := "") (Or.inl (hw _ (own_m 13 rfl))) Via.refl e0 Fw (g := (mkF m 1 #[oA a, oI (3 : Int32)] [(.ref a)])) rfl rfl (hb hby d9_1)
  refine up ?_ st47
  show own_G (T47.setTop (mkF m 4 #[oA a, oI (3 : Int32)] [(.ref r)]))
  refine up ?_ fun t k => XS.iloadN X47.here hx rfl (hb hby d9_4) rfl k
  show own_G (T47.setTop (mkF m 5 #[oA a, oI (3 : Int32)] [(.int (3 : Int32)), (.ref r)]))
  obtain ⟨cl48, Ar48, qa48, Sa48, Na48, Ha48, Ga48⟩ := id V
  have hin48 : ¬ ((3 : Int32) < 0 ∨ cl48.slots.size ≤ ((3 : Int32)).toNatClampNeg) := inb_of Sa48 ⟨by decide, by decide⟩
  refine up ?_ fun t k => X47.laload hx (j := (3 : Int32)) (v := (.long x3)) (by rw [e47]; exact Ar48.1) (State.isArrayOf_alike hZ.alike Ar48.2.1) Ar48.2.2 hin48 (Ha48.at hin48 rfl) (g := (mkF m 5 #[oA a, oI (3 : Int32)] [(.int (3 : Int32)), (.ref r)])) rfl rfl (hb hby d9_5) _ (XS.iloadN X47.here hx rfl (hb hby d9_6) rfl k)
  show own_G (T47.setTop (mkF m 7 #[oA a, oI (3 : Int32)] [(.int (3 : Int32)), (.long x3)]))
  refine up ?_ fun t k => XS.ifYes X47.here hx rfl (pc0 := 7) (pc' := 14) rfl (hb hby d9_7) rfl ((if0 _ _).trans (feq (by decide : ¬ ((3 : Int32) = (0 : Int32)))).2) (by decide) (by decide) (XS.aloadN X47.here hx rfl (hb hby d9_14) rfl rfl k)
  show own_G (T47.setTop (mkF m 15 #[oA a, oI (3 : Int32)] [(.ref a), (.long x3)]))
  obtain ⟨T49, X49, e49, st49⟩ := getF X47 hx hZ hown (host := "") (Or.inl (hw _ (own_m 13 rfl))) Via.refl e47 Fw (g := (mkF m 15 #[oA a, oI (3 : Int32)] [(.ref a), (.long x3)])) rfl rfl (hb hby d9_15)
  refine up ?_ st49
  show own_G (T49.setTop (mkF m 18 #[oA a, oI (3 : Int32)] [(.ref r), (.long x3)]))
  refine up ?_ fun t k => XS.iloadN X49.here hx rfl (hb hby d9_18) rfl (XS.iconst X49.here hx rfl (hb hby d9_19) (XS.isub X49.here hx rfl (hb hby d9_20) rfl k))
  show own_G (T49.setTop (mkF m 21 #[oA a, oI (3 : Int32)] [(.int (2 : Int32)), (.ref r), (.long x3)]))
  obtain ⟨cl50, Ar50, qa50, Sa50, Na50, Ha50, Ga50⟩ := id V
  have hin50 : ¬ ((2 : Int32) < 0 ∨ cl50.slots.size ≤ ((2 : Int32)).toNatClampNeg) := inb_of Sa50 ⟨by decide, by decide⟩
  refine up ?_ fun t k => X49.laload hx (j := (2 : Int32)) (v := (.long x2)) (by rw [e49]; exact Ar50.1) (State.isArrayOf_alike hZ.alike Ar50.2.1) Ar50.2.2 hin50 (Ha50.at hin50 rfl) (g := (mkF m 21 #[oA a, oI (3 : Int32)] [(.int (2 : Int32)), (.ref r), (.long x3)])) rfl rfl (hb hby d9_21) _ (XS.bipush X49.here hx rfl (hb hby d9_22) (XS.lshr X49.here hx rfl (hb hby d9_24) rfl k))
  show own_G (T49.setTop (mkF m 25 #[oA a, oI (3 : Int32)] [(.long (x2 >>> ((63 : Int32) &&& 0x3f).toInt64)), (.long x3)]))
  show own_G (T49.setTop (mkF m 25 #[oA a, oI (3 : Int32)] [(.long (own_sg x2)), (.long x3)]))
  refine up ?_ fun t k => XS.lcmp X49.here hx rfl (hb hby d9_25) rfl k
  show own_G (T49.setTop (mkF m 26 #[oA a, oI (3 : Int32)] [(.int (lcmpW x3 (own_sg x2)))]))
  by_cases hc26_51 : x3 = (own_sg x2)
  · refine up ?_ fun t k => XS.ifNo X49.here hx rfl (hb hby d9_26) rfl ((if0 _ _).trans (teq ((lw_eq _ _).mpr hc26_51)).2) (XS.iconst X49.here hx rfl (hb hby d9_29) (XS.goto X49.here hx rfl (pc0 := 30) (pc' := 34) rfl (hb hby d9_30) (by decide) (by decide) k))
    show own_G (T49.setTop (mkF m 34 #[oA a, oI (3 : Int32)] [(.int (1 : Int32))]))
    exact own_retI X49 hx hlk hret (by simp) rfl (hb hby d9_34) ⟨congrArg (fun z => some (Value.int z)) (by simp only [if_pos hc26_51]), N0, e49⟩ (by decide) (by decide)
  · refine up ?_ fun t k => XS.ifYes X49.here hx rfl (pc0 := 26) (pc' := 33) rfl (hb hby d9_26) rfl ((if0 _ _).trans (feq (fun q => hc26_51 ((lw_eq _ _).mp q))).2) (by decide) (by decide) (XS.iconst X49.here hx rfl (hb hby d9_33) k)
    show own_G (T49.setTop (mkF m 34 #[oA a, oI (3 : Int32)] [(.int (0 : Int32))]))
    exact own_retI X49 hx hlk hret (by simp) rfl (hb hby d9_34) ⟨congrArg (fun z => some (Value.int z)) (by simp only [if_neg hc26_51]), N0, e49⟩ (by decide) (by decide)
theorem d5_0 : decode jdk_65_method_124_code 0 = .ok (.iload_n 1, 1) := by decide +kernel
theorem d5_1 : decode jdk_65_method_124_code 1 = .ok (.aload_n 0, 1) := by decide +kernel
theorem d5_2 : decode jdk_65_method_124_code 2 = .ok (.arraylength, 1) := by decide +kernel
theorem d5_3 : decode jdk_65_method_124_code 3 = .ok (.if_icmp .ne 11, 3) := by decide +kernel
theorem d5_14 : decode jdk_65_method_124_code 14 = .ok (.iload_n 1, 1) := by decide +kernel
theorem d5_15 : decode jdk_65_method_124_code 15 = .ok (.newarray .long, 2) := by decide +kernel
theorem d5_17 : decode jdk_65_method_124_code 17 = .ok (.astore_n 2, 1) := by decide +kernel
theorem d5_18 : decode jdk_65_method_124_code 18 = .ok (.aload_n 0, 1) := by decide +kernel
theorem d5_19 : decode jdk_65_method_124_code 19 = .ok (.iconst 0, 1) := by decide +kernel
theorem d5_20 : decode jdk_65_method_124_code 20 = .ok (.aload_n 2, 1) := by decide +kernel
theorem d5_21 : decode jdk_65_method_124_code 21 = .ok (.iconst 0, 1) := by decide +kernel
theorem d5_22 : decode jdk_65_method_124_code 22 = .ok (.aload_n 0, 1) := by decide +kernel
theorem d5_23 : decode jdk_65_method_124_code 23 = .ok (.arraylength, 1) := by decide +kernel
theorem d5_24 : decode jdk_65_method_124_code 24 = .ok (.iload_n 1, 1) := by decide +kernel
theorem d5_25 : decode jdk_65_method_124_code 25 = .ok (.invokestatic 304, 3) := by decide +kernel
theorem d5_28 : decode jdk_65_method_124_code 28 = .ok (.invokestatic 150, 3) := by decide +kernel
theorem d5_31 : decode jdk_65_method_124_code 31 = .ok (.aload_n 2, 1) := by decide +kernel
theorem d5_32 : decode jdk_65_method_124_code 32 = .ok (.areturn, 1) := by decide +kernel
theorem own_pn1 : plainName "java/util/Arrays" = true := by first | (simp [plainName, overriddenIn]; done) | decide +kernel
theorem own_ef_rmcp (m : MethodId) (x0 : Addr) (x1 : Int32) : entryFrame m #[(.ref x0), (.int x1)] 3 = mkF m 0 #[oA x0, oI x1, .unset] [] := by first | (simp [entryFrame, mkF, argsToLocals, Value.category]; done) | rfl
def own_Q_rmcp (Z : State) (r : Addr) (kr : ClassId) (h0 : Heap) (n0 : Nat) (v : Option Value) (h : Heap) (L : List Loc) : Prop := ∃ (b : Addr) (kb : ClassId), v = some (.ref b) ∧ Fr n0 L ∧ Keep h0 h [] ∧ n0 ≤ b ∧ Arv Z h b kb .long (3 : Int32) [(.long (0 : Int64)), (.long (0 : Int64)), (.long (0 : Int64))] (.long (0 : Int64))
theorem rmcp (l : Launch) (Z : State) (a0 : Array Value) (hw : own_W Z a0) (ws : List Jvm.Cond) (r : Addr) (kr : ClassId) (h0 : Heap) (n0 : Nat) (Z0 : n0 ≤ h0.size) (V : Arv Z h0 r kr .long (0 : Int32) [] (.long (0 : Int64))) :
    own_M l Z (⟨"java/util/Arrays", "copyOf", "([JI)[J"⟩ : MethodName) jdk_65_method_124_code 3 (some (.array .long)) ws ({ frames := 1, cells := 1, slots := 3, locals := 18 } : Room) #[(.ref r), (.int (3 : Int32))] h0 (own_Q_rmcp Z r kr h0 n0) := by
  refine own_body (plainFor_of_name own_pn1) ?_
  intro p e s m below meth c s₁ hx hZ hby hml hown hnm hlk hret X0 e0
  have N0 := Fr.nil n0
  have K0 := Keep.refl h0 []
  refine up (U' := s₁.setTop (mkF m 0 #[oA r, oI (3 : Int32), oU] [])) ?_ (fun t k => castTop (own_ef_rmcp m r (3 : Int32)) k)
  refine up ?_ fun t k => XS.iloadN X0.here hx rfl (hb hby d5_0) rfl (XS.aloadN X0.here hx rfl (hb hby d5_1) rfl rfl k)
  show own_G (s₁.setTop (mkF m 2 #[oA r, oI (3 : Int32), oU] [(.ref r), (.int (3 : Int32))]))
  obtain ⟨cl52, Ar52, qa52, Sa52, Na52, Ha52, Ga52⟩ := id V
  refine up ?_ fun t k => X0.arraylength hx (by rw [e0]; exact Ar52.1) (State.isArrayOf_alike hZ.alike Ar52.2.1) (g := (mkF m 2 #[oA r, oI (3 : Int32), oU] [(.ref r), (.int (3 : Int32))])) rfl rfl (hb hby d5_2) _ k
  rw [len_of Sa52 Na52]
  show own_G (s₁.setTop (mkF m 3 #[oA r, oI (3 : Int32), oU] [(.int (0 : Int32)), (.int (3 : Int32))]))
  refine up ?_ fun t k => XS.icmpYes X0.here hx rfl (pc0 := 3) (pc' := 14) rfl (hb hby d5_3) rfl (feq (by decide : ¬ ((3 : Int32) = (0 : Int32)))).2 (by decide) (by decide) (XS.iloadN X0.here hx rfl (hb hby d5_14) rfl k)
  show own_G (s₁.setTop (mkF m 15 #[oA r, oI (3 : Int32), oU] [(.int (3 : Int32))]))
  obtain ⟨T53, h53, k53, X53, e53, E53, A53, st53⟩ := newP X0 hx hZ (hw _ (own_m 32 rfl)) e0 (g := (mkF m 15 #[oA r, oI (3 : Int32), oU] [(.int (3 : Int32))])) rfl (hb hby d5_15) rfl (by decide) (cap := 3) (by decide) (by decide) (by decide) (by decide)
  obtain ⟨b53, g53⟩ : ∃ z, z = h0.size := ⟨_, rfl⟩
  rw [← g53] at A53 st53
  refine up ?_ st53
  have ne54 : r ≠ b53 := Nat.ne_of_lt (Nat.lt_of_lt_of_le V.lt (Nat.le_of_eq g53.symm))
  have ge55 : n0 ≤ b53 := Nat.le_trans Z0 (Nat.le_of_eq g53.symm)
  have sz56 : h0.size ≤ b53 := Nat.le_trans K0.1 (Nat.le_of_eq g53.symm)
  have V_c57 := V.ext E53
  have Zs58 : n0 ≤ h53.size := Nat.le_trans Z0 E53.1
  have K59 : Keep h0 h53 [] := K0.ext E53
  have V_b53 : Arv Z h53 b53 k53 .long (3 : Int32) [(.long (0 : Int64)), (.long (0 : Int64)), (.long (0 : Int64))] (.long (0 : Int64)) := (Arv.new A53 (by decide)).pad (pad_rep [] (.long (0 : Int64)) 3)
  show own_G (T53.setTop (mkF m 17 #[oA r, oI (3 : Int32), oU] [(.ref b53)]))
  refine up ?_ fun t k => XS.astoreN X53.here hx rfl (hb hby d5_17) rfl rfl (l' := #[oA r, oI (3 : Int32), oA b53]) rfl (XS.aloadN X53.here hx rfl (hb hby d5_18) rfl rfl (XS.iconst X53.here hx rfl (hb hby d5_19) (XS.aloadN X53.here hx rfl (hb hby d5_20) rfl rfl (XS.iconst X53.here hx rfl (hb hby d5_21) (XS.aloadN X53.here hx rfl (hb hby d5_22) rfl rfl k)))))
  show own_G (T53.setTop (mkF m 23 #[oA r, oI (3 : Int32), oA b53] [(.ref r), (.int (0 : Int32)), (.ref b53), (.int (0 : Int32)), (.ref r)]))
  obtain ⟨cl60, Ar60, qa60, Sa60, Na60, Ha60, Ga60⟩ := id V_c57
  refine up ?_ fun t k => X53.arraylength hx (by rw [e53]; exact Ar60.1) (State.isArrayOf_alike hZ.alike Ar60.2.1) (g := (mkF m 23 #[oA r, oI (3 : Int32), oA b53] [(.ref r), (.int (0 : Int32)), (.ref b53), (.int (0 : Int32)), (.ref r)])) rfl rfl (hb hby d5_23) _ k
  rw [len_of Sa60 Na60]
  show own_G (T53.setTop (mkF m 24 #[oA r, oI (3 : Int32), oA b53] [(.int (0 : Int32)), (.int (0 : Int32)), (.ref b53), (.int (0 : Int32)), (.ref r)]))
  refine up ?_ fun t k => XS.iloadN X53.here hx rfl (hb hby d5_24) rfl k
  show own_G (T53.setTop (mkF m 25 #[oA r, oI (3 : Int32), oA b53] [(.int (3 : Int32)), (.int (0 : Int32)), (.int (0 : Int32)), (.ref b53), (.int (0 : Int32)), (.ref r)]))
  obtain ⟨_, _, ⟨T61, L61, k61, n61⟩, -, X61, ⟨Lc61, hQ61, l61, y61, z61⟩, st61⟩ := Jvm.LawKit.callS X53 hx (y := (⟨"java/lang/Math", "min", "(II)I"⟩ : MethodName)) hown (mvT hZ (hw _ (own_m 33 rfl))) (mvT hZ (hw _ (own_m 34 rfl))) (mvT hZ (hw _ (own_m 35 rfl))) (mvT hZ (hw _ (own_m 36 rfl))) (by decide) (backOf (W := 4) (rmmn l Z a0 hw [] (0 : Int32) (3 : Int32)  h53 n0 Zs58 ) hZ (hw _ (own_m 36 rfl)) (hw _ (own_m 35 rfl)) (by decide) (by decide)) (g := (mkF m 25 #[oA r, oI (3 : Int32), oA b53] [(.int (3 : Int32)), (.int (0 : Int32)), (.int (0 : Int32)), (.ref b53), (.int (0 : Int32)), (.ref r)])) rfl (by rw [hml]; rfl) (argsL := [(.int (0 : Int32)), (.int (3 : Int32))]) (rest := [(.int (0 : Int32)), (.ref b53), (.int (0 : Int32)), (.ref r)]) (lenOf own_pd1 rfl) rfl (by show 2 * 0 + _ ≤ _; exact Nat.le_of_eq rfl) (hb hby d5_25) (fun _ _ => ⟨rfl, e53, (by decide : 1 + 0 ≤ _), (by decide : 3 + 0 ≤ _)⟩)
  dsimp only [Pt.U, Pt.locs, Pt.cells, Pt.slots] at X61 l61 y61 z61 st61 hQ61
  subst l61 y61 z61
  obtain ⟨rfl, Nq61, e61⟩ := hQ61
  have N61 := Fr.app N0 Nq61
  refine up ?_ (st61)
  show own_G (T61.setTop (mkF m 28 #[oA r, oI (3 : Int32), oA b53] [(.int (own_minI (0 : Int32) (3 : Int32))), (.int (0 : Int32)), (.ref b53), (.int (0 : Int32)), (.ref r)]))
  rw [show own_minI (0 : Int32) (3 : Int32) = (0 : Int32) by decide]
  show own_G (T61.setTop (mkF m 28 #[oA r, oI (3 : Int32), oA b53] [(.int (0 : Int32)), (.int (0 : Int32)), (.ref b53), (.int (0 : Int32)), (.ref r)]))
  obtain ⟨T62, h62, L62, X62, e62, N62, K62, V62, st62⟩ := cpA X61 hx hZ hown (hw _ (own_m 37 rfl)) (hw _ (own_m 40 rfl)) (hw _ (own_m 38 rfl)) (hw _ (own_m 39 rfl)) e61 (sp := (0 : Int32)) (dp := (0 : Int32)) (nn := (0 : Int32)) (us := []) V_c57 V_b53 (Or.inl ⟨rfl, rfl⟩) (by decide) (by decide) (by decide) (by first | decide | (show 1 + 0 ≤ _; decide)) (by first | decide | (show 1 + 0 ≤ _; decide)) rfl (Nat.le_of_ble_eq_true rfl) N61 ge55 (g := (mkF m 28 #[oA r, oI (3 : Int32), oA b53] [(.int (0 : Int32)), (.int (0 : Int32)), (.ref b53), (.int (0 : Int32)), (.ref r)])) rfl (by rw [hml]; rfl) rfl (hb hby d5_28) (by decide) (W := 0) (by show 2 * 0 + _ ≤ _; exact Nat.le_of_eq rfl) (by decide)
  refine up ?_ st62
  have V_c63 := V_c57.keep K62 (ninS ne54 nin0)
  have Zs64 : n0 ≤ h62.size := Nat.le_trans Zs58 K62.1
  have K65 : Keep h0 h62 [] := K59.trans K62 (allS (Or.inr sz56) all0)
  have V62x : Arv Z h62 b53 k53 .long (3 : Int32) [(.long (0 : Int64)), (.long (0 : Int64)), (.long (0 : Int64))] (.long (0 : Int64)) := V62
  show own_G (T62.setTop (mkF m 31 #[oA r, oI (3 : Int32), oA b53] []))
  refine up ?_ fun t k => XS.aloadN X62.here hx rfl (hb hby d5_31) rfl rfl k
  show own_G (T62.setTop (mkF m 32 #[oA r, oI (3 : Int32), oA b53] [(.ref b53)]))
  exact own_retA X62 hx hlk hret rfl rfl (hb hby d5_32) (by rw [e62]; exact ⟨b53, k53, rfl, N62, K65, ge55, V62x⟩) (by decide) (by decide)
theorem d4_0 : decode prog_78_method_10_code 0 = .ok (.iload_n 1, 1) := by decide +kernel
theorem d4_1 : decode prog_78_method_10_code 1 = .ok (.aload_n 0, 1) := by decide +kernel
theorem d4_2 : decode prog_78_method_10_code 2 = .ok (.getfield 16, 3) := by decide +kernel
theorem d4_5 : decode prog_78_method_10_code 5 = .ok (.if_icmp .gt 4, 3) := by decide +kernel
theorem d4_8 : decode prog_78_method_10_code 8 = .ok (.return_, 1) := by decide +kernel
theorem d4_9 : decode prog_78_method_10_code 9 = .ok (.aload_n 0, 1) := by decide +kernel
theorem d4_10 : decode prog_78_method_10_code 10 = .ok (.getfield 13, 3) := by decide +kernel
theorem d4_13 : decode prog_78_method_10_code 13 = .ok (.arraylength, 1) := by decide +kernel
theorem d4_14 : decode prog_78_method_10_code 14 = .ok (.iload_n 1, 1) := by decide +kernel
theorem d4_15 : decode prog_78_method_10_code 15 = .ok (.if_icmp .ge 15, 3) := by decide +kernel
theorem d4_18 : decode prog_78_method_10_code 18 = .ok (.aload_n 0, 1) := by decide +kernel
theorem d4_19 : decode prog_78_method_10_code 19 = .ok (.aload_n 0, 1) := by decide +kernel
theorem d4_20 : decode prog_78_method_10_code 20 = .ok (.getfield 13, 3) := by decide +kernel
theorem d4_23 : decode prog_78_method_10_code 23 = .ok (.iload_n 1, 1) := by decide +kernel
theorem d4_24 : decode prog_78_method_10_code 24 = .ok (.invokestatic 99, 3) := by decide +kernel
theorem d4_27 : decode prog_78_method_10_code 27 = .ok (.putfield 13, 3) := by decide +kernel
theorem d4_30 : decode prog_78_method_10_code 30 = .ok (.aload_n 0, 1) := by decide +kernel
theorem d4_31 : decode prog_78_method_10_code 31 = .ok (.getfield 16, 3) := by decide +kernel
theorem d4_34 : decode prog_78_method_10_code 34 = .ok (.ifCond .ne 7, 3) := by decide +kernel
theorem d4_37 : decode prog_78_method_10_code 37 = .ok (.lconst 0, 1) := by decide +kernel
theorem d4_38 : decode prog_78_method_10_code 38 = .ok (.goto 17, 3) := by decide +kernel
theorem d4_41 : decode prog_78_method_10_code 41 = .ok (.aload_n 0, 1) := by decide +kernel
theorem d4_42 : decode prog_78_method_10_code 42 = .ok (.getfield 13, 3) := by decide +kernel
theorem d4_45 : decode prog_78_method_10_code 45 = .ok (.aload_n 0, 1) := by decide +kernel
theorem d4_46 : decode prog_78_method_10_code 46 = .ok (.getfield 16, 3) := by decide +kernel
theorem d4_49 : decode prog_78_method_10_code 49 = .ok (.iconst 1, 1) := by decide +kernel
theorem d4_50 : decode prog_78_method_10_code 50 = .ok (.isub, 1) := by decide +kernel
theorem d4_51 : decode prog_78_method_10_code 51 = .ok (.laload, 1) := by decide +kernel
theorem d4_52 : decode prog_78_method_10_code 52 = .ok (.bipush 63, 2) := by decide +kernel
theorem d4_54 : decode prog_78_method_10_code 54 = .ok (.lshr, 1) := by decide +kernel
theorem d4_55 : decode prog_78_method_10_code 55 = .ok (.lstore_n 2, 1) := by decide +kernel
theorem d4_56 : decode prog_78_method_10_code 56 = .ok (.aload_n 0, 1) := by decide +kernel
theorem d4_57 : decode prog_78_method_10_code 57 = .ok (.getfield 16, 3) := by decide +kernel
theorem d4_60 : decode prog_78_method_10_code 60 = .ok (.istore 4, 2) := by decide +kernel
theorem d4_62 : decode prog_78_method_10_code 62 = .ok (.iload 4, 2) := by decide +kernel
theorem d4_64 : decode prog_78_method_10_code 64 = .ok (.iload_n 1, 1) := by decide +kernel
theorem d4_65 : decode prog_78_method_10_code 65 = .ok (.if_icmp .ge 17, 3) := by decide +kernel
theorem d4_68 : decode prog_78_method_10_code 68 = .ok (.aload_n 0, 1) := by decide +kernel
theorem d4_69 : decode prog_78_method_10_code 69 = .ok (.getfield 13, 3) := by decide +kernel
theorem d4_72 : decode prog_78_method_10_code 72 = .ok (.iload 4, 2) := by decide +kernel
theorem d4_74 : decode prog_78_method_10_code 74 = .ok (.lload_n 2, 1) := by decide +kernel
theorem d4_75 : decode prog_78_method_10_code 75 = .ok (.lastore, 1) := by decide +kernel
theorem d4_76 : decode prog_78_method_10_code 76 = .ok (.iinc 4 1, 3) := by decide +kernel
theorem d4_79 : decode prog_78_method_10_code 79 = .ok (.goto (-17), 3) := by decide +kernel
theorem d4_82 : decode prog_78_method_10_code 82 = .ok (.aload_n 0, 1) := by decide +kernel
theorem d4_83 : decode prog_78_method_10_code 83 = .ok (.iload_n 1, 1) := by decide +kernel
theorem d4_84 : decode prog_78_method_10_code 84 = .ok (.putfield 16, 3) := by decide +kernel
theorem d4_87 : decode prog_78_method_10_code 87 = .ok (.return_, 1) := by decide +kernel
theorem own_ef_rmw0c (m : MethodId) (x0 : Addr) (x1 : Int32) : entryFrame m #[(.ref x0), (.int x1)] 5 = mkF m 0 #[oA x0, oI x1, .unset, .unset, .unset] [] := by first | (simp [entryFrame, mkF, argsToLocals, Value.category]; done) | rfl
def own_Q_rmw0c (Z : State) (a : Addr) (r : Addr) (kr : ClassId) (pw : Int32) (h0 : Heap) (n0 : Nat) (v : Option Value) (h : Heap) (L : List Loc) : Prop := v = none ∧ Fr n0 L ∧ h0.size ≤ h.size ∧ ∃ (r' : Addr) (kr' : ClassId), n0 ≤ r' ∧ own_O Z h a r' kr' (3 : Int32) (3 : Int32) pw [(.long (0 : Int64)), (.long (0 : Int64)), (.long (0 : Int64))]
theorem rmw0c (l : Launch) (Z : State) (a0 : Array Value) (hw : own_W Z a0) (ws : List Jvm.Cond) (a : Addr) (r : Addr) (kr : ClassId) (pw : Int32) (h0 : Heap) (n0 : Nat) (Z0 : n0 ≤ h0.size) (O0 : own_O Z h0 a r kr (0 : Int32) (0 : Int32) pw []) (g_a : n0 ≤ a) :
    own_M l Z (⟨"com/example/eventweir/eventweir/ExactSum", "widen", "(I)V"⟩ : MethodName) prog_78_method_10_code 5 none ws ({ frames := 2, cells := 1, slots := 3, locals := 33 } : Room) #[(.ref a), (.int (3 : Int32))] h0 (own_Q_rmw0c Z a r kr pw h0 n0) := by
  refine own_body (plainFor_of_name own_pn0) ?_
  intro p e s m below meth c s₁ hx hZ hby hml hown hnm hlk hret X0 e0
  have N0 := Fr.nil n0
  obtain ⟨E_a, Fw, Fl, Fp, V⟩ := O0
  have ne_ar : a ≠ r := E_a.neArv V (hw _ (own_m 3 rfl))
  refine up (U' := s₁.setTop (mkF m 0 #[oA a, oI (3 : Int32), oU, oU, oU] [])) ?_ (fun t k => castTop (own_ef_rmw0c m a (3 : Int32)) k)
  refine up ?_ fun t k => XS.iloadN X0.here hx rfl (hb hby d4_0) rfl (XS.aloadN X0.here hx rfl (hb hby d4_1) rfl rfl k)
  show own_G (s₁.setTop (mkF m 2 #[oA a, oI (3 : Int32), oU, oU, oU] [(.ref a), (.int (3 : Int32))]))
  obtain ⟨T66, X66, e66, st66⟩ := getF X0 hx hZ hown (host := "") (Or.inl (hw _ (own_m 20 rfl))) Via.refl e0 Fl (g := (mkF m 2 #[oA a, oI (3 : Int32), oU, oU, oU] [(.ref a), (.int (3 : Int32))])) rfl rfl (hb hby d4_2)
  refine up ?_ st66
  show own_G (T66.setTop (mkF m 5 #[oA a, oI (3 : Int32), oU, oU, oU] [(.int (0 : Int32)), (.int (3 : Int32))]))
  refine up ?_ fun t k => XS.icmpYes X66.here hx rfl (pc0 := 5) (pc' := 9) rfl (hb hby d4_5) rfl (tlt (by decide : ((0 : Int32) < (3 : Int32)))).2.2.1 (by decide) (by decide) (XS.aloadN X66.here hx rfl (hb hby d4_9) rfl rfl k)
  show own_G (T66.setTop (mkF m 10 #[oA a, oI (3 : Int32), oU, oU, oU] [(.ref a)]))
  obtain ⟨T67, X67, e67, st67⟩ := getF X66 hx hZ hown (host := "") (Or.inl (hw _ (own_m 13 rfl))) Via.refl e66 Fw (g := (mkF m 10 #[oA a, oI (3 : Int32), oU, oU, oU] [(.ref a)])) rfl rfl (hb hby d4_10)
  refine up ?_ st67
  show own_G (T67.setTop (mkF m 13 #[oA a, oI (3 : Int32), oU, oU, oU] [(.ref r)]))
  obtain ⟨cl68, Ar68, qa68, Sa68, Na68, Ha68, Ga68⟩ := id V
  refine up ?_ fun t k => X67.arraylength hx (by rw [e67]; exact Ar68.1) (State.isArrayOf_alike hZ.alike Ar68.2.1) (g := (mkF m 13 #[oA a, oI (3 : Int32), oU, oU, oU] [(.ref r)])) rfl rfl (hb hby d4_13) _ k
  rw [len_of Sa68 Na68]
  show own_G (T67.setTop (mkF m 14 #[oA a, oI (3 : Int32), oU, oU, oU] [(.int (0 : Int32))]))
  refine up ?_ fun t k => XS.iloadN X67.here hx rfl (hb hby d4_14) rfl k
  show own_G (T67.setTop (mkF m 15 #[oA a, oI (3 : Int32), oU, oU, oU] [(.int (3 : Int32)), (.int (0 : Int32))]))
  refine up ?_ fun t k => XS.icmpNo X67.here hx rfl (hb hby d4_15) rfl (tlt (by decide : ((0 : Int32) < (3 : Int32)))).2.1 (XS.aloadN X67.here hx rfl (hb hby d4_18) rfl rfl (XS.aloadN X67.here hx rfl (hb hby d4_19) rfl rfl k))
  show own_G (T67.setTop (mkF m 20 #[oA a, oI (3 : Int32), oU, oU, oU] [(.ref a), (.ref a)]))
  obtain ⟨T69, X69, e69, st69⟩ := getF X67 hx hZ hown (host := "") (Or.inl (hw _ (own_m 13 rfl))) Via.refl e67 Fw (g := (mkF m 20 #[oA a, oI (3 : Int32), oU, oU, oU] [(.ref a), (.ref a)])) rfl rfl (hb hby d4_20)
  refine up ?_ st69
  show own_G (T69.setTop (mkF m 23 #[oA a, oI (3 : Int32), oU, oU, oU] [(.ref r), (.ref a)]))
  refine up ?_ fun t k => XS.iloadN X69.here hx rfl (hb hby d4_23) rfl k
  show own_G (T69.setTop (mkF m 24 #[oA a, oI (3 : Int32), oU, oU, oU] [(.int (3 : Int32)), (.ref r), (.ref a)]))
  obtain ⟨_, _, ⟨T70, L70, k70, n70⟩, -, X70, ⟨Lc70, hQ70, l70, y70, z70⟩, st70⟩ := Jvm.LawKit.callS X69 hx (y := (⟨"java/util/Arrays", "copyOf", "([JI)[J"⟩ : MethodName)) hown (mvT hZ (hw _ (own_m 28 rfl))) (mvT hZ (hw _ (own_m 29 rfl))) (mvT hZ (hw _ (own_m 30 rfl))) (mvT hZ (hw _ (own_m 31 rfl))) (by decide) (backOf (W := 1) (rmcp l Z a0 hw [] r kr h0 n0 Z0 V) hZ (hw _ (own_m 31 rfl)) (hw _ (own_m 30 rfl)) (by decide) (by decide)) (g := (mkF m 24 #[oA a, oI (3 : Int32), oU, oU, oU] [(.int (3 : Int32)), (.ref r), (.ref a)])) rfl (by rw [hml]; rfl) (argsL := [(.ref r), (.int (3 : Int32))]) (rest := [(.ref a)]) (lenOf own_pd2 rfl) rfl (by show 2 * 0 + _ ≤ _; exact Nat.le_of_eq rfl) (hb hby d4_24) (fun _ _ => ⟨rfl, e69, (by decide : 0 + 1 ≤ _), (by decide : 0 + 3 ≤ _)⟩)
  dsimp only [Pt.U, Pt.locs, Pt.cells, Pt.slots] at X70 l70 y70 z70 st70 hQ70
  subst l70 y70 z70
  obtain ⟨b70, kb70, rfl, Nq70, Kq70, gb70, Vb70⟩ := hQ70
  have N70 := Fr.app N0 Nq70
  have E_a_c71 := E_a.keep Kq70
  have Fw_c71 := Fw.keep Kq70 nin0
  have Fl_c71 := Fl.keep Kq70 nin0
  have Fp_c71 := Fp.keep Kq70 nin0
  have V_c71 := V.keep Kq70 nin0
  have kq72 := Nat.le_trans (Nat.le_refl h0.size) Kq70.1
  have Zs73 : n0 ≤ T70.heap.size := Nat.le_trans Z0 Kq70.1
  refine up ?_ (st70)
  show own_G (T70.setTop (mkF m 27 #[oA a, oI (3 : Int32), oU, oU, oU] [(.ref b70), (.ref a)]))
  obtain ⟨T74, h74, X74, e74, W74, st74⟩ := putF X70 hx hZ hown (host := "") (Or.inl (hw _ (own_m 13 rfl))) Via.refl rfl Fw_c71 E_a_c71 (Or.inl (hw _ (own_m 14 rfl))) (hw _ (own_m 3 rfl)) (ty := (.array .long)) (by decide) rfl rfl (g := (mkF m 27 #[oA a, oI (3 : Int32), oU, oU, oU] [(.ref b70), (.ref a)])) rfl rfl (hb hby d4_27)
  refine up ?_ st74
  have E_a_c75 := E_a_c71.wr W74
  have Fl_c75 := Fl_c71.other W74 (Or.inr (slot_ne (Or.inl (hw _ (own_m 21 rfl))) (Or.inl (hw _ (own_m 14 rfl))) (by decide) (t := .int) (t' := (.array .long)) (by decide) (by decide)))
  have Fp_c75 := Fp_c71.other W74 (Or.inr (slot_ne (Or.inl (hw _ (own_m 23 rfl))) (Or.inl (hw _ (own_m 14 rfl))) (by decide) (t := .int) (t' := (.array .long)) (by decide) (by decide)))
  have Vb70_c75 := Vb70.other W74 (Ne.symm (E_a_c71.neArv Vb70 (hw _ (own_m 3 rfl))))
  have F74 := Fw_c71.same W74
  have N74 := Fr.snoc X74 N70 g_a
  have kq76 := Nat.le_trans kq72 (Keep.of_wr W74).1
  have Zs77 : n0 ≤ h74.size := Nat.le_trans Zs73 (Keep.of_wr W74).1
  show own_G (T74.setTop (mkF m 30 #[oA a, oI (3 : Int32), oU, oU, oU] []))
  refine up ?_ fun t k => XS.aloadN X74.here hx rfl (hb hby d4_30) rfl rfl k
  show own_G (T74.setTop (mkF m 31 #[oA a, oI (3 : Int32), oU, oU, oU] [(.ref a)]))
  obtain ⟨T78, X78, e78, st78⟩ := getF X74 hx hZ hown (host := "") (Or.inl (hw _ (own_m 20 rfl))) Via.refl e74 Fl_c75 (g := (mkF m 31 #[oA a, oI (3 : Int32), oU, oU, oU] [(.ref a)])) rfl rfl (hb hby d4_31)
  refine up ?_ st78
  show own_G (T78.setTop (mkF m 34 #[oA a, oI (3 : Int32), oU, oU, oU] [(.int (0 : Int32))]))
  refine up ?_ fun t k => XS.ifNo X78.here hx rfl (hb hby d4_34) rfl ((if0 _ _).trans (teq (by decide : ((0 : Int32) = (0 : Int32)))).2) (XS.lconst X78.here hx rfl (hb hby d4_37) (XS.goto X78.here hx rfl (pc0 := 38) (pc' := 55) rfl (hb hby d4_38) (by decide) (by decide) (XS.lstoreN X78.here hx rfl (hb hby d4_55) rfl (l' := #[oA a, oI (3 : Int32), oJ (0 : Int64), oS, oU]) rfl (XS.aloadN X78.here hx rfl (hb hby d4_56) rfl rfl k))))
  show own_G (T78.setTop (mkF m 57 #[oA a, oI (3 : Int32), oJ (0 : Int64), oS, oU] [(.ref a)]))
  obtain ⟨T79, X79, e79, st79⟩ := getF X78 hx hZ hown (host := "") (Or.inl (hw _ (own_m 20 rfl))) Via.refl e78 Fl_c75 (g := (mkF m 57 #[oA a, oI (3 : Int32), oJ (0 : Int64), oS, oU] [(.ref a)])) rfl rfl (hb hby d4_57)
  refine up ?_ st79
  show own_G (T79.setTop (mkF m 60 #[oA a, oI (3 : Int32), oJ (0 : Int64), oS, oU] [(.int (0 : Int32))]))
  refine up ?_ fun t k => XS.istore X79.here hx rfl (hb hby d4_60) rfl (l' := #[oA a, oI (3 : Int32), oJ (0 : Int64), oS, oI (0 : Int32)]) rfl (XS.iload X79.here hx rfl (hb hby d4_62) rfl (XS.iloadN X79.here hx rfl (hb hby d4_64) rfl k))
  show own_G (T79.setTop (mkF m 65 #[oA a, oI (3 : Int32), oJ (0 : Int64), oS, oI (0 : Int32)] [(.int (3 : Int32)), (.int (0 : Int32))]))
  refine up ?_ fun t k => XS.icmpNo X79.here hx rfl (hb hby d4_65) rfl (tlt (by decide : ((0 : Int32) < (3 : Int32)))).2.1 (XS.aloadN X79.here hx rfl (hb hby d4_68) rfl rfl k)
  show own_G (T79.setTop (mkF m 69 #[oA a, oI (3 : Int32), oJ (0 : Int64), oS, oI (0 : Int32)] [(.ref a)]))
  obtain ⟨T80, X80, e80, st80⟩ := getF X79 hx hZ hown (host := "") (Or.inl (hw _ (own_m 13 rfl))) Via.refl e79 F74 (g := (mkF m 69 #[oA a, oI (3 : Int32), oJ (0 : Int64), oS, oI (0 : Int32)] [(.ref a)])) rfl rfl (hb hby d4_69)
  refine up ?_ st80
  show own_G (T80.setTop (mkF m 72 #[oA a, oI (3 : Int32), oJ (0 : Int64), oS, oI (0 : Int32)] [(.ref b70)]))
  refine up ?_ fun t k => XS.iload X80.here hx rfl (hb hby d4_72) rfl (XS.lloadN X80.here hx rfl (hb hby d4_74) rfl k)
  show own_G (T80.setTop (mkF m 75 #[oA a, oI (3 : Int32), oJ (0 : Int64), oS, oI (0 : Int32)] [(.long (0 : Int64)), (.int (0 : Int32)), (.ref b70)]))
  obtain ⟨cl81, Ar81, qa81, Sa81, Na81, Ha81, Ga81⟩ := id Vb70_c75
  have hin81 : ¬ ((0 : Int32) < 0 ∨ cl81.slots.size ≤ ((0 : Int32)).toNatClampNeg) := inb_of Sa81 ⟨by decide, by decide⟩
  obtain ⟨T81, h81, X81, e81, W81, st81⟩ := stJ X80 hx hZ e80 Ar81 (j := (0 : Int32)) hin81 (g := (mkF m 75 #[oA a, oI (3 : Int32), oJ (0 : Int64), oS, oI (0 : Int32)] [(.long (0 : Int64)), (.int (0 : Int32)), (.ref b70)])) rfl rfl (hb hby d4_75)
  refine up ?_ st81
  have E_a_c82 := E_a_c75.wr W81
  have F74_c82 := F74.other W81 (Or.inl (E_a_c71.neArv Vb70 (hw _ (own_m 3 rfl))))
  have Fl_c82 := Fl_c75.other W81 (Or.inl (E_a_c71.neArv Vb70 (hw _ (own_m 3 rfl))))
  have Fp_c82 := Fp_c75.other W81 (Or.inl (E_a_c71.neArv Vb70 (hw _ (own_m 3 rfl))))
  have V81 : Arv Z h81 b70 kb70 .long (3 : Int32) [(.long (0 : Int64)), (.long (0 : Int64)), (.long (0 : Int64))] (.long (0 : Int64)) := Arv.set Ar81 qa81 Sa81 Na81 Ha81 Ga81 rfl W81 0 rfl (Nat.le_of_ble_eq_true rfl)
  have N81 := Fr.snoc X81 N74 gb70
  have kq83 := Nat.le_trans kq76 (Keep.of_wr W81).1
  have Zs84 : n0 ≤ h81.size := Nat.le_trans Zs77 (Keep.of_wr W81).1
  show own_G (T81.setTop (mkF m 76 #[oA a, oI (3 : Int32), oJ (0 : Int64), oS, oI (0 : Int32)] []))
  refine up ?_ fun t k => XS.iinc X81.here hx rfl (hb hby d4_76) rfl (l' := #[oA a, oI (3 : Int32), oJ (0 : Int64), oS, oI (1 : Int32)]) rfl (XS.goto X81.here hx rfl (pc0 := 79) (pc' := 62) rfl (hb hby d4_79) (by decide) (by decide) (XS.iload X81.here hx rfl (hb hby d4_62) rfl (XS.iloadN X81.here hx rfl (hb hby d4_64) rfl k)))
  show own_G (T81.setTop (mkF m 65 #[oA a, oI (3 : Int32), oJ (0 : Int64), oS, oI (1 : Int32)] [(.int (3 : Int32)), (.int (1 : Int32))]))
  refine up ?_ fun t k => XS.icmpNo X81.here hx rfl (hb hby d4_65) rfl (tlt (by decide : ((1 : Int32) < (3 : Int32)))).2.1 (XS.aloadN X81.here hx rfl (hb hby d4_68) rfl rfl k)
  show own_G (T81.setTop (mkF m 69 #[oA a, oI (3 : Int32), oJ (0 : Int64), oS, oI (1 : Int32)] [(.ref a)]))
  obtain ⟨T85, X85, e85, st85⟩ := getF X81 hx hZ hown (host := "") (Or.inl (hw _ (own_m 13 rfl))) Via.refl e81 F74_c82 (g := (mkF m 69 #[oA a, oI (3 : Int32), oJ (0 : Int64), oS, oI (1 : Int32)] [(.ref a)])) rfl rfl (hb hby d4_69)
  refine up ?_ st85
  show own_G (T85.setTop (mkF m 72 #[oA a, oI (3 : Int32), oJ (0 : Int64), oS, oI (1 : Int32)] [(.ref b70)]))
  refine up ?_ fun t k => XS.iload X85.here hx rfl (hb hby d4_72) rfl (XS.lloadN X85.here hx rfl (hb hby d4_74) rfl k)
  show own_G (T85.setTop (mkF m 75 #[oA a, oI (3 : Int32), oJ (0 : Int64), oS, oI (1 : Int32)] [(.long (0 : Int64)), (.int (1 : Int32)), (.ref b70)]))
  obtain ⟨cl86, Ar86, qa86, Sa86, Na86, Ha86, Ga86⟩ := id V81
  have hin86 : ¬ ((1 : Int32) < 0 ∨ cl86.slots.size ≤ ((1 : Int32)).toNatClampNeg) := inb_of Sa86 ⟨by decide, by decide⟩
  obtain ⟨T86, h86, X86, e86, W86, st86⟩ := stJ X85 hx hZ e85 Ar86 (j := (1 : Int32)) hin86 (g := (mkF m 75 #[oA a, oI (3 : Int32), oJ (0 : Int64), oS, oI (1 : Int32)] [(.long (0 : Int64)), (.int (1 : Int32)), (.ref b70)])) rfl rfl (hb hby d4_75)
  refine up ?_ st86
  have E_a_c87 := E_a_c82.wr W86
  have F74_c87 := F74_c82.other W86 (Or.inl (E_a_c71.neArv Vb70 (hw _ (own_m 3 rfl))))
  have Fl_c87 := Fl_c82.other W86 (Or.inl (E_a_c71.neArv Vb70 (hw _ (own_m 3 rfl))))
  have Fp_c87 := Fp_c82.other W86 (Or.inl (E_a_c71.neArv Vb70 (hw _ (own_m 3 rfl))))
  have V86 : Arv Z h86 b70 kb70 .long (3 : Int32) [(.long (0 : Int64)), (.long (0 : Int64)), (.long (0 : Int64))] (.long (0 : Int64)) := Arv.set Ar86 qa86 Sa86 Na86 Ha86 Ga86 rfl W86 1 rfl (Nat.le_of_ble_eq_true rfl)
  have N86 := Fr.snoc X86 N81 gb70
  have kq88 := Nat.le_trans kq83 (Keep.of_wr W86).1
  have Zs89 : n0 ≤ h86.size := Nat.le_trans Zs84 (Keep.of_wr W86).1
  show own_G (T86.setTop (mkF m 76 #[oA a, oI (3 : Int32), oJ (0 : Int64), oS, oI (1 : Int32)] []))
  refine up ?_ fun t k => XS.iinc X86.here hx rfl (hb hby d4_76) rfl (l' := #[oA a, oI (3 : Int32), oJ (0 : Int64), oS, oI (2 : Int32)]) rfl (XS.goto X86.here hx rfl (pc0 := 79) (pc' := 62) rfl (hb hby d4_79) (by decide) (by decide) (XS.iload X86.here hx rfl (hb hby d4_62) rfl (XS.iloadN X86.here hx rfl (hb hby d4_64) rfl k)))
  show own_G (T86.setTop (mkF m 65 #[oA a, oI (3 : Int32), oJ (0 : Int64), oS, oI (2 : Int32)] [(.int (3 : Int32)), (.int (2 : Int32))]))
  refine up ?_ fun t k => XS.icmpNo X86.here hx rfl (hb hby d4_65) rfl (tlt (by decide : ((2 : Int32) < (3 : Int32)))).2.1 (XS.aloadN X86.here hx rfl (hb hby d4_68) rfl rfl k)
  show own_G (T86.setTop (mkF m 69 #[oA a, oI (3 : Int32), oJ (0 : Int64), oS, oI (2 : Int32)] [(.ref a)]))
  obtain ⟨T90, X90, e90, st90⟩ := getF X86 hx hZ hown (host := "") (Or.inl (hw _ (own_m 13 rfl))) Via.refl e86 F74_c87 (g := (mkF m 69 #[oA a, oI (3 : Int32), oJ (0 : Int64), oS, oI (2 : Int32)] [(.ref a)])) rfl rfl (hb hby d4_69)
  refine up ?_ st90
  show own_G (T90.setTop (mkF m 72 #[oA a, oI (3 : Int32), oJ (0 : Int64), oS, oI (2 : Int32)] [(.ref b70)]))
  refine up ?_ fun t k => XS.iload X90.here hx rfl (hb hby d4_72) rfl (XS.lloadN X90.here hx rfl (hb hby d4_74) rfl k)
  show own_G (T90.setTop (mkF m 75 #[oA a, oI (3 : Int32), oJ (0 : Int64), oS, oI (2 : Int32)] [(.long (0 : Int64)), (.int (2 : Int32)), (.ref b70)]))
  obtain ⟨cl91, Ar91, qa91, Sa91, Na91, Ha91, Ga91⟩ := id V86
  have hin91 : ¬ ((2 : Int32) < 0 ∨ cl91.slots.size ≤ ((2 : Int32)).toNatClampNeg) := inb_of Sa91 ⟨by decide, by decide⟩
  obtain ⟨T91, h91, X91, e91, W91, st91⟩ := stJ X90 hx hZ e90 Ar91 (j := (2 : Int32)) hin91 (g := (mkF m 75 #[oA a, oI (3 : Int32), oJ (0 : Int64), oS, oI (2 : Int32)] [(.long (0 : Int64)), (.int (2 : Int32)), (.ref b70)])) rfl rfl (hb hby d4_75)
  refine up ?_ st91
  have E_a_c92 := E_a_c87.wr W91
  have F74_c92 := F74_c87.other W91 (Or.inl (E_a_c71.neArv Vb70 (hw _ (own_m 3 rfl))))
  have Fl_c92 := Fl_c87.other W91 (Or.inl (E_a_c71.neArv Vb70 (hw _ (own_m 3 rfl))))
  have Fp_c92 := Fp_c87.other W91 (Or.inl (E_a_c71.neArv Vb70 (hw _ (own_m 3 rfl))))
  have V91 : Arv Z h91 b70 kb70 .long (3 : Int32) [(.long (0 : Int64)), (.long (0 : Int64)), (.long (0 : Int64))] (.long (0 : Int64)) := Arv.set Ar91 qa91 Sa91 Na91 Ha91 Ga91 rfl W91 2 rfl (Nat.le_of_ble_eq_true rfl)
  have N91 := Fr.snoc X91 N86 gb70
  have kq93 := Nat.le_trans kq88 (Keep.of_wr W91).1
  have Zs94 : n0 ≤ h91.size := Nat.le_trans Zs89 (Keep.of_wr W91).1
  show own_G (T91.setTop (mkF m 76 #[oA a, oI (3 : Int32), oJ (0 : Int64), oS, oI (2 : Int32)] []))
  refine up ?_ fun t k => XS.iinc X91.here hx rfl (hb hby d4_76) rfl (l' := #[oA a, oI (3 : Int32), oJ (0 : Int64), oS, oI (3 : Int32)]) rfl (XS.goto X91.here hx rfl (pc0 := 79) (pc' := 62) rfl (hb hby d4_79) (by decide) (by decide) (XS.iload X91.here hx rfl (hb hby d4_62) rfl (XS.iloadN X91.here hx rfl (hb hby d4_64) rfl k)))
  show own_G (T91.setTop (mkF m 65 #[oA a, oI (3 : Int32), oJ (0 : Int64), oS, oI (3 : Int32)] [(.int (3 : Int32)), (.int (3 : Int32))]))
  refine up ?_ fun t k => XS.icmpYes X91.here hx rfl (pc0 := 65) (pc' := 82) rfl (hb hby d4_65) rfl (flt (by decide : ¬ ((3 : Int32) < (3 : Int32)))).2.1 (by decide) (by decide) (XS.aloadN X91.here hx rfl (hb hby d4_82) rfl rfl (XS.iloadN X91.here hx rfl (hb hby d4_83) rfl k))
  show own_G (T91.setTop (mkF m 84 #[oA a, oI (3 : Int32), oJ (0 : Int64), oS, oI (3 : Int32)] [(.int (3 : Int32)), (.ref a)]))
  obtain ⟨T95, h95, X95, e95, W95, st95⟩ := putF X91 hx hZ hown (host := "") (Or.inl (hw _ (own_m 20 rfl))) Via.refl e91 Fl_c92 E_a_c92 (Or.inl (hw _ (own_m 21 rfl))) (hw _ (own_m 3 rfl)) (ty := .int) (by decide) rfl rfl (g := (mkF m 84 #[oA a, oI (3 : Int32), oJ (0 : Int64), oS, oI (3 : Int32)] [(.int (3 : Int32)), (.ref a)])) rfl rfl (hb hby d4_84)
  refine up ?_ st95
  have E_a_c96 := E_a_c92.wr W95
  have F74_c96 := F74_c92.other W95 (Or.inr (slot_ne (Or.inl (hw _ (own_m 14 rfl))) (Or.inl (hw _ (own_m 21 rfl))) (by decide) (t := (.array .long)) (t' := .int) (by decide) (by decide)))
  have Fp_c96 := Fp_c92.other W95 (Or.inr (slot_ne (Or.inl (hw _ (own_m 23 rfl))) (Or.inl (hw _ (own_m 21 rfl))) (by decide) (t := .int) (t' := .int) (by decide) (by decide)))
  have V91_c96 := V91.other W95 (Ne.symm (E_a_c71.neArv Vb70 (hw _ (own_m 3 rfl))))
  have F95 := Fl_c92.same W95
  have N95 := Fr.snoc X95 N91 g_a
  have kq97 := Nat.le_trans kq93 (Keep.of_wr W95).1
  have Zs98 : n0 ≤ h95.size := Nat.le_trans Zs94 (Keep.of_wr W95).1
  show own_G (T95.setTop (mkF m 87 #[oA a, oI (3 : Int32), oJ (0 : Int64), oS, oI (3 : Int32)] []))
  exact own_retV X95 hx hlk hret (hb hby d4_87) (by rw [e95]; exact ⟨rfl, N95, kq97, b70, kb70, gb70, ⟨E_a_c96, F74_c96, F95, Fp_c96, V91_c96⟩⟩) (by decide) (by decide)
def own_Q_rmw03 (Z : State) (a : Addr) (r : Addr) (kr : ClassId) (zc : Int32) (pw : Int32) (tl : List Value) (x0 : Int64) (x1 : Int64) (x2 : Int64) (h0 : Heap) (n0 : Nat) (v : Option Value) (h : Heap) (L : List Loc) : Prop := v = none ∧ Fr n0 L ∧ h0.size ≤ h.size ∧ own_O Z h a r kr zc (3 : Int32) pw ((.long (0 : Int64)) :: (.long (0 : Int64)) :: (.long (0 : Int64)) :: tl)
theorem rmw03 (l : Launch) (Z : State) (a0 : Array Value) (hw : own_W Z a0) (ws : List Jvm.Cond) (a : Addr) (r : Addr) (kr : ClassId) (zc : Int32) (pw : Int32) (tl : List Value) (x0 : Int64) (x1 : Int64) (x2 : Int64) (h0 : Heap) (n0 : Nat) (Z0 : n0 ≤ h0.size) (O0 : own_O Z h0 a r kr zc (0 : Int32) pw ((.long x0) :: (.long x1) :: (.long x2) :: tl)) (g_a : n0 ≤ a) (g_r : n0 ≤ r) (hc : own_cap zc tl) :
    own_M l Z (⟨"com/example/eventweir/eventweir/ExactSum", "widen", "(I)V"⟩ : MethodName) prog_78_method_10_code 5 none ws ({ frames := 0, cells := 0, slots := 0, locals := 0 } : Room) #[(.ref a), (.int (3 : Int32))] h0 (own_Q_rmw03 Z a r kr zc pw tl x0 x1 x2 h0 n0) := by
  refine own_body (plainFor_of_name own_pn0) ?_
  intro p e s m below meth c s₁ hx hZ hby hml hown hnm hlk hret X0 e0
  have N0 := Fr.nil n0
  obtain ⟨E_a, Fw, Fl, Fp, V⟩ := O0
  have ne_ar : a ≠ r := E_a.neArv V (hw _ (own_m 3 rfl))
  refine up (U' := s₁.setTop (mkF m 0 #[oA a, oI (3 : Int32), oU, oU, oU] [])) ?_ (fun t k => castTop (own_ef_rmw0c m a (3 : Int32)) k)
  refine up ?_ fun t k => XS.iloadN X0.here hx rfl (hb hby d4_0) rfl (XS.aloadN X0.here hx rfl (hb hby d4_1) rfl rfl k)
  show own_G (s₁.setTop (mkF m 2 #[oA a, oI (3 : Int32), oU, oU, oU] [(.ref a), (.int (3 : Int32))]))
  obtain ⟨T99, X99, e99, st99⟩ := getF X0 hx hZ hown (host := "") (Or.inl (hw _ (own_m 20 rfl))) Via.refl e0 Fl (g := (mkF m 2 #[oA a, oI (3 : Int32), oU, oU, oU] [(.ref a), (.int (3 : Int32))])) rfl rfl (hb hby d4_2)
  refine up ?_ st99
  show own_G (T99.setTop (mkF m 5 #[oA a, oI (3 : Int32), oU, oU, oU] [(.int (0 : Int32)), (.int (3 : Int32))]))
  refine up ?_ fun t k => XS.icmpYes X99.here hx rfl (pc0 := 5) (pc' := 9) rfl (hb hby d4_5) rfl (tlt (by decide : ((0 : Int32) < (3 : Int32)))).2.2.1 (by decide) (by decide) (XS.aloadN X99.here hx rfl (hb hby d4_9) rfl rfl k)
  show own_G (T99.setTop (mkF m 10 #[oA a, oI (3 : Int32), oU, oU, oU] [(.ref a)]))
  obtain ⟨T100, X100, e100, st100⟩ := getF X99 hx hZ hown (host := "") (Or.inl (hw _ (own_m 13 rfl))) Via.refl e99 Fw (g := (mkF m 10 #[oA a, oI (3 : Int32), oU, oU, oU] [(.ref a)])) rfl rfl (hb hby d4_10)
  refine up ?_ st100
  show own_G (T100.setTop (mkF m 13 #[oA a, oI (3 : Int32), oU, oU, oU] [(.ref r)]))
  obtain ⟨cl101, Ar101, qa101, Sa101, Na101, Ha101, Ga101⟩ := id V
  refine up ?_ fun t k => X100.arraylength hx (by rw [e100]; exact Ar101.1) (State.isArrayOf_alike hZ.alike Ar101.2.1) (g := (mkF m 13 #[oA a, oI (3 : Int32), oU, oU, oU] [(.ref r)])) rfl rfl (hb hby d4_13) _ k
  rw [len_of Sa101 Na101]
  show own_G (T100.setTop (mkF m 14 #[oA a, oI (3 : Int32), oU, oU, oU] [(.int zc)]))
  refine up ?_ fun t k => XS.iloadN X100.here hx rfl (hb hby d4_14) rfl k
  show own_G (T100.setTop (mkF m 15 #[oA a, oI (3 : Int32), oU, oU, oU] [(.int (3 : Int32)), (.int zc)]))
  refine up ?_ fun t k => XS.icmpYes X100.here hx rfl (pc0 := 15) (pc' := 30) rfl (hb hby d4_15) rfl (flt (own_n3 hc : ¬ (zc < (3 : Int32)))).2.1 (by decide) (by decide) (XS.aloadN X100.here hx rfl (hb hby d4_30) rfl rfl k)
  show own_G (T100.setTop (mkF m 31 #[oA a, oI (3 : Int32), oU, oU, oU] [(.ref a)]))
  obtain ⟨T102, X102, e102, st102⟩ := getF X100 hx hZ hown (host := "") (Or.inl (hw _ (own_m 20 rfl))) Via.refl e100 Fl (g := (mkF m 31 #[oA a, oI (3 : Int32), oU, oU, oU] [(.ref a)])) rfl rfl (hb hby d4_31)
  refine up ?_ st102
  show own_G (T102.setTop (mkF m 34 #[oA a, oI (3 : Int32), oU, oU, oU] [(.int (0 : Int32))]))
  refine up ?_ fun t k => XS.ifNo X102.here hx rfl (hb hby d4_34) rfl ((if0 _ _).trans (teq (by decide : ((0 : Int32) = (0 : Int32)))).2) (XS.lconst X102.here hx rfl (hb hby d4_37) (XS.goto X102.here hx rfl (pc0 := 38) (pc' := 55) rfl (hb hby d4_38) (by decide) (by decide) (XS.lstoreN X102.here hx rfl (hb hby d4_55) rfl (l' := #[oA a, oI (3 : Int32), oJ (0 : Int64), oS, oU]) rfl (XS.aloadN X102.here hx rfl (hb hby d4_56) rfl rfl k))))
  show own_G (T102.setTop (mkF m 57 #[oA a, oI (3 : Int32), oJ (0 : Int64), oS, oU] [(.ref a)]))
  obtain ⟨T103, X103, e103, st103⟩ := getF X102 hx hZ hown (host := "") (Or.inl (hw _ (own_m 20 rfl))) Via.refl e102 Fl (g := (mkF m 57 #[oA a, oI (3 : Int32), oJ (0 : Int64), oS, oU] [(.ref a)])) rfl rfl (hb hby d4_57)
  refine up ?_ st103
  show own_G (T103.setTop (mkF m 60 #[oA a, oI (3 : Int32), oJ (0 : Int64), oS, oU] [(.int (0 : Int32))]))
  refine up ?_ fun t k => XS.istore X103.here hx rfl (hb hby d4_60) rfl (l' := #[oA a, oI (3 : Int32), oJ (0 : Int64), oS, oI (0 : Int32)]) rfl (XS.iload X103.here hx rfl (hb hby d4_62) rfl (XS.iloadN X103.here hx rfl (hb hby d4_64) rfl k))
  show own_G (T103.setTop (mkF m 65 #[oA a, oI (3 : Int32), oJ (0 : Int64), oS, oI (0 : Int32)] [(.int (3 : Int32)), (.int (0 : Int32))]))
  refine up ?_ fun t k => XS.icmpNo X103.here hx rfl (hb hby d4_65) rfl (tlt (by decide : ((0 : Int32) < (3 : Int32)))).2.1 (XS.aloadN X103.here hx rfl (hb hby d4_68) rfl rfl k)
  show own_G (T103.setTop (mkF m 69 #[oA a, oI (3 : Int32), oJ (0 : Int64), oS, oI (0 : Int32)] [(.ref a)]))
  obtain ⟨T104, X104, e104, st104⟩ := getF X103 hx hZ hown (host := "") (Or.inl (hw _ (own_m 13 rfl))) Via.refl e103 Fw (g := (mkF m 69 #[oA a, oI (3 : Int32), oJ (0 : Int64), oS, oI (0 : Int32)] [(.ref a)])) rfl rfl (hb hby d4_69)
  refine up ?_ st104
  show own_G (T104.setTop (mkF m 72 #[oA a, oI (3 : Int32), oJ (0 : Int64), oS, oI (0 : Int32)] [(.ref r)]))
  refine up ?_ fun t k => XS.iload X104.here hx rfl (hb hby d4_72) rfl (XS.lloadN X104.here hx rfl (hb hby d4_74) rfl k)
  show own_G (T104.setTop (mkF m 75 #[oA a, oI (3 : Int32), oJ (0 : Int64), oS, oI (0 : Int32)] [(.long (0 : Int64)), (.int (0 : Int32)), (.ref r)]))
  obtain ⟨cl105, Ar105, qa105, Sa105, Na105, Ha105, Ga105⟩ := id V
  have hin105 : ¬ ((0 : Int32) < 0 ∨ cl105.slots.size ≤ ((0 : Int32)).toNatClampNeg) := inb_of Sa105 ⟨by decide, own_i0 hc⟩
  obtain ⟨T105, h105, X105, e105, W105, st105⟩ := stJ X104 hx hZ e104 Ar105 (j := (0 : Int32)) hin105 (g := (mkF m 75 #[oA a, oI (3 : Int32), oJ (0 : Int64), oS, oI (0 : Int32)] [(.long (0 : Int64)), (.int (0 : Int32)), (.ref r)])) rfl rfl (hb hby d4_75)
  refine up ?_ st105
  have E_a_c106 := E_a.wr W105
  have Fw_c106 := Fw.other W105 (Or.inl ne_ar)
  have Fl_c106 := Fl.other W105 (Or.inl ne_ar)
  have Fp_c106 := Fp.other W105 (Or.inl ne_ar)
  have V105 : Arv Z h105 r kr .long zc ((.long (0 : Int64)) :: (.long x1) :: (.long x2) :: tl) (.long (0 : Int64)) := Arv.set Ar105 qa105 Sa105 Na105 Ha105 Ga105 rfl W105 0 rfl (by simp only [List.length_cons]; omega)
  have N105 := Fr.snoc X105 N0 g_r
  have kq107 := Nat.le_trans (Nat.le_refl h0.size) (Keep.of_wr W105).1
  have Zs108 : n0 ≤ h105.size := Nat.le_trans Z0 (Keep.of_wr W105).1
  show own_G (T105.setTop (mkF m 76 #[oA a, oI (3 : Int32), oJ (0 : Int64), oS, oI (0 : Int32)] []))
  refine up ?_ fun t k => XS.iinc X105.here hx rfl (hb hby d4_76) rfl (l' := #[oA a, oI (3 : Int32), oJ (0 : Int64), oS, oI (1 : Int32)]) rfl (XS.goto X105.here hx rfl (pc0 := 79) (pc' := 62) rfl (hb hby d4_79) (by decide) (by decide) (XS.iload X105.here hx rfl (hb hby d4_62) rfl (XS.iloadN X105.here hx rfl (hb hby d4_64) rfl k)))
  show own_G (T105.setTop (mkF m 65 #[oA a, oI (3 : Int32), oJ (0 : Int64), oS, oI (1 : Int32)] [(.int (3 : Int32)), (.int (1 : Int32))]))
  refine up ?_ fun t k => XS.icmpNo X105.here hx rfl (hb hby d4_65) rfl (tlt (by decide : ((1 : Int32) < (3 : Int32)))).2.1 (XS.aloadN X105.here hx rfl (hb hby d4_68) rfl rfl k)
  show own_G (T105.setTop (mkF m 69 #[oA a, oI (3 : Int32), oJ (0 : Int64), oS, oI (1 : Int32)] [(.ref a)]))
  obtain ⟨T109, X109, e109, st109⟩ := getF X105 hx hZ hown (host := "") (Or.inl (hw _ (own_m 13 rfl))) Via.refl e105 Fw_c106 (g := (mkF m 69 #[oA a, oI (3 : Int32), oJ (0 : Int64), oS, oI (1 : Int32)] [(.ref a)])) rfl rfl (hb hby d4_69)
  refine up ?_ st109
  show own_G (T109.setTop (mkF m 72 #[oA a, oI (3 : Int32), oJ (0 : Int64), oS, oI (1 : Int32)] [(.ref r)]))
  refine up ?_ fun t k => XS.iload X109.here hx rfl (hb hby d4_72) rfl (XS.lloadN X109.here hx rfl (hb hby d4_74) rfl k)
  show own_G (T109.setTop (mkF m 75 #[oA a, oI (3 : Int32), oJ (0 : Int64), oS, oI (1 : Int32)] [(.long (0 : Int64)), (.int (1 : Int32)), (.ref r)]))
  obtain ⟨cl110, Ar110, qa110, Sa110, Na110, Ha110, Ga110⟩ := id V105
  have hin110 : ¬ ((1 : Int32) < 0 ∨ cl110.slots.size ≤ ((1 : Int32)).toNatClampNeg) := inb_of Sa110 ⟨by decide, own_i1 hc⟩
  obtain ⟨T110, h110, X110, e110, W110, st110⟩ := stJ X109 hx hZ e109 Ar110 (j := (1 : Int32)) hin110 (g := (mkF m 75 #[oA a, oI (3 : Int32), oJ (0 : Int64), oS, oI (1 : Int32)] [(.long (0 : Int64)), (.int (1 : Int32)), (.ref r)])) rfl rfl (hb hby d4_75)
  refine up ?_ st110
  have E_a_c111 := E_a_c106.wr W110
  have Fw_c111 := Fw_c106.other W110 (Or.inl ne_ar)
  have Fl_c111 := Fl_c106.other W110 (Or.inl ne_ar)
  have Fp_c111 := Fp_c106.other W110 (Or.inl ne_ar)
  have V110 : Arv Z h110 r kr .long zc ((.long (0 : Int64)) :: (.long (0 : Int64)) :: (.long x2) :: tl) (.long (0 : Int64)) := Arv.set Ar110 qa110 Sa110 Na110 Ha110 Ga110 rfl W110 1 rfl (by simp only [List.length_cons]; omega)
  have N110 := Fr.snoc X110 N105 g_r
  have kq112 := Nat.le_trans kq107 (Keep.of_wr W110).1
  have Zs113 : n0 ≤ h110.size := Nat.le_trans Zs108 (Keep.of_wr W110).1
  show own_G (T110.setTop (mkF m 76 #[oA a, oI (3 : Int32), oJ (0 : Int64), oS, oI (1 : Int32)] []))
  refine up ?_ fun t k => XS.iinc X110.here hx rfl (hb hby d4_76) rfl (l' := #[oA a, oI (3 : Int32), oJ (0 : Int64), oS, oI (2 : Int32)]) rfl (XS.goto X110.here hx rfl (pc0 := 79) (pc' := 62) rfl (hb hby d4_79) (by decide) (by decide) (XS.iload X110.here hx rfl (hb hby d4_62) rfl (XS.iloadN X110.here hx rfl (hb hby d4_64) rfl k)))
  show own_G (T110.setTop (mkF m 65 #[oA a, oI (3 : Int32), oJ (0 : Int64), oS, oI (2 : Int32)] [(.int (3 : Int32)), (.int (2 : Int32))]))
  refine up ?_ fun t k => XS.icmpNo X110.here hx rfl (hb hby d4_65) rfl (tlt (by decide : ((2 : Int32) < (3 : Int32)))).2.1 (XS.aloadN X110.here hx rfl (hb hby d4_68) rfl rfl k)
  show own_G (T110.setTop (mkF m 69 #[oA a, oI (3 : Int32), oJ (0 : Int64), oS, oI (2 : Int32)] [(.ref a)]))
  obtain ⟨T114, X114, e114, st114⟩ := getF X110 hx hZ hown (host := "") (Or.inl (hw _ (own_m 13 rfl))) Via.refl e110 Fw_c111 (g := (mkF m 69 #[oA a, oI (3 : Int32), oJ (0 : Int64), oS, oI (2 : Int32)] [(.ref a)])) rfl rfl (hb hby d4_69)
  refine up ?_ st114
  show own_G (T114.setTop (mkF m 72 #[oA a, oI (3 : Int32), oJ (0 : Int64), oS, oI (2 : Int32)] [(.ref r)]))
  refine up ?_ fun t k => XS.iload X114.here hx rfl (hb hby d4_72) rfl (XS.lloadN X114.here hx rfl (hb hby d4_74) rfl k)
  show own_G (T114.setTop (mkF m 75 #[oA a, oI (3 : Int32), oJ (0 : Int64), oS, oI (2 : Int32)] [(.long (0 : Int64)), (.int (2 : Int32)), (.ref r)]))
  obtain ⟨cl115, Ar115, qa115, Sa115, Na115, Ha115, Ga115⟩ := id V110
  have hin115 : ¬ ((2 : Int32) < 0 ∨ cl115.slots.size ≤ ((2 : Int32)).toNatClampNeg) := inb_of Sa115 ⟨by decide, own_i2 hc⟩
  obtain ⟨T115, h115, X115, e115, W115, st115⟩ := stJ X114 hx hZ e114 Ar115 (j := (2 : Int32)) hin115 (g := (mkF m 75 #[oA a, oI (3 : Int32), oJ (0 : Int64), oS, oI (2 : Int32)] [(.long (0 : Int64)), (.int (2 : Int32)), (.ref r)])) rfl rfl (hb hby d4_75)
  refine up ?_ st115
  have E_a_c116 := E_a_c111.wr W115
  have Fw_c116 := Fw_c111.other W115 (Or.inl ne_ar)
  have Fl_c116 := Fl_c111.other W115 (Or.inl ne_ar)
  have Fp_c116 := Fp_c111.other W115 (Or.inl ne_ar)
  have V115 : Arv Z h115 r kr .long zc ((.long (0 : Int64)) :: (.long (0 : Int64)) :: (.long (0 : Int64)) :: tl) (.long (0 : Int64)) := Arv.set Ar115 qa115 Sa115 Na115 Ha115 Ga115 rfl W115 2 rfl (by simp only [List.length_cons]; omega)
  have N115 := Fr.snoc X115 N110 g_r
  have kq117 := Nat.le_trans kq112 (Keep.of_wr W115).1
  have Zs118 : n0 ≤ h115.size := Nat.le_trans Zs113 (Keep.of_wr W115).1
  show own_G (T115.setTop (mkF m 76 #[oA a, oI (3 : Int32), oJ (0 : Int64), oS, oI (2 : Int32)] []))
  refine up ?_ fun t k => XS.iinc X115.here hx rfl (hb hby d4_76) rfl (l' := #[oA a, oI (3 : Int32), oJ (0 : Int64), oS, oI (3 : Int32)]) rfl (XS.goto X115.here hx rfl (pc0 := 79) (pc' := 62) rfl (hb hby d4_79) (by decide) (by decide) (XS.iload X115.here hx rfl (hb hby d4_62) rfl (XS.iloadN X115.here hx rfl (hb hby d4_64) rfl k)))
  show own_G (T115.setTop (mkF m 65 #[oA a, oI (3 : Int32), oJ (0 : Int64), oS, oI (3 : Int32)] [(.int (3 : Int32)), (.int (3 : Int32))]))
  refine up ?_ fun t k => XS.icmpYes X115.here hx rfl (pc0 := 65) (pc' := 82) rfl (hb hby d4_65) rfl (flt (by decide : ¬ ((3 : Int32) < (3 : Int32)))).2.1 (by decide) (by decide) (XS.aloadN X115.here hx rfl (hb hby d4_82) rfl rfl (XS.iloadN X115.here hx rfl (hb hby d4_83) rfl k))
  show own_G (T115.setTop (mkF m 84 #[oA a, oI (3 : Int32), oJ (0 : Int64), oS, oI (3 : Int32)] [(.int (3 : Int32)), (.ref a)]))
  obtain ⟨T119, h119, X119, e119, W119, st119⟩ := putF X115 hx hZ hown (host := "") (Or.inl (hw _ (own_m 20 rfl))) Via.refl e115 Fl_c116 E_a_c116 (Or.inl (hw _ (own_m 21 rfl))) (hw _ (own_m 3 rfl)) (ty := .int) (by decide) rfl rfl (g := (mkF m 84 #[oA a, oI (3 : Int32), oJ (0 : Int64), oS, oI (3 : Int32)] [(.int (3 : Int32)), (.ref a)])) rfl rfl (hb hby d4_84)
  refine up ?_ st119
  have E_a_c120 := E_a_c116.wr W119
  have Fw_c120 := Fw_c116.other W119 (Or.inr (slot_ne (Or.inl (hw _ (own_m 14 rfl))) (Or.inl (hw _ (own_m 21 rfl))) (by decide) (t := (.array .long)) (t' := .int) (by decide) (by decide)))
  have Fp_c120 := Fp_c116.other W119 (Or.inr (slot_ne (Or.inl (hw _ (own_m 23 rfl))) (Or.inl (hw _ (own_m 21 rfl))) (by decide) (t := .int) (t' := .int) (by decide) (by decide)))
  have V115_c120 := V115.other W119 (Ne.symm ne_ar)
  have F119 := Fl_c116.same W119
  have N119 := Fr.snoc X119 N115 g_a
  have kq121 := Nat.le_trans kq117 (Keep.of_wr W119).1
  have Zs122 : n0 ≤ h119.size := Nat.le_trans Zs118 (Keep.of_wr W119).1
  show own_G (T119.setTop (mkF m 87 #[oA a, oI (3 : Int32), oJ (0 : Int64), oS, oI (3 : Int32)] []))
  exact own_retV X119 hx hlk hret (hb hby d4_87) (by rw [e119]; exact ⟨rfl, N119, kq121, ⟨E_a_c120, Fw_c120, F119, Fp_c120, V115_c120⟩⟩) (by decide) (by decide)
def own_Q_rmw23 (Z : State) (a : Addr) (r : Addr) (kr : ClassId) (zc : Int32) (pw : Int32) (tl : List Value) (x0 : Int64) (x1 : Int64) (x2 : Int64) (h0 : Heap) (n0 : Nat) (v : Option Value) (h : Heap) (L : List Loc) : Prop := v = none ∧ Fr n0 L ∧ h0.size ≤ h.size ∧ own_O Z h a r kr zc (3 : Int32) pw ((.long x0) :: (.long x1) :: (.long (own_sg x1)) :: tl)
theorem rmw23 (l : Launch) (Z : State) (a0 : Array Value) (hw : own_W Z a0) (ws : List Jvm.Cond) (a : Addr) (r : Addr) (kr : ClassId) (zc : Int32) (pw : Int32) (tl : List Value) (x0 : Int64) (x1 : Int64) (x2 : Int64) (h0 : Heap) (n0 : Nat) (Z0 : n0 ≤ h0.size) (O0 : own_O Z h0 a r kr zc (2 : Int32) pw ((.long x0) :: (.long x1) :: (.long x2) :: tl)) (g_a : n0 ≤ a) (g_r : n0 ≤ r) (hc : own_cap zc tl) :
    own_M l Z (⟨"com/example/eventweir/eventweir/ExactSum", "widen", "(I)V"⟩ : MethodName) prog_78_method_10_code 5 none ws ({ frames := 0, cells := 0, slots := 0, locals := 0 } : Room) #[(.ref a), (.int (3 : Int32))] h0 (own_Q_rmw23 Z a r kr zc pw tl x0 x1 x2 h0 n0) := by
  refine own_body (plainFor_of_name own_pn0) ?_
  intro p e s m below meth c s₁ hx hZ hby hml hown hnm hlk hret X0 e0
  have N0 := Fr.nil n0
  obtain ⟨E_a, Fw, Fl, Fp, V⟩ := O0
  have ne_ar : a ≠ r := E_a.neArv V (hw _ (own_m 3 rfl))
  refine up (U' := s₁.setTop (mkF m 0 #[oA a, oI (3 : Int32), oU, oU, oU] [])) ?_ (fun t k => castTop (own_ef_rmw0c m a (3 : Int32)) k)
  refine up ?_ fun t k => XS.iloadN X0.here hx rfl (hb hby d4_0) rfl (XS.aloadN X0.here hx rfl (hb hby d4_1) rfl rfl k)
  show own_G (s₁.setTop (mkF m 2 #[oA a, oI (3 : Int32), oU, oU, oU] [(.ref a), (.int (3 : Int32))]))
  obtain ⟨T123, X123, e123, st123⟩ := getF X0 hx hZ hown (host := "") (Or.inl (hw _ (own_m 20 rfl))) Via.refl e0 Fl (g := (mkF m 2 #[oA a, oI (3 : Int32), oU, oU, oU] [(.ref a), (.int (3 : Int32))])) rfl rfl (hb hby d4_2)
  refine up ?_ st123
  show own_G (T123.setTop (mkF m 5 #[oA a, oI (3 : Int32), oU, oU, oU] [(.int (2 : Int32)), (.int (3 : Int32))]))
  refine up ?_ fun t k => XS.icmpYes X123.here hx rfl (pc0 := 5) (pc' := 9) rfl (hb hby d4_5) rfl (tlt (by decide : ((2 : Int32) < (3 : Int32)))).2.2.1 (by decide) (by decide) (XS.aloadN X123.here hx rfl (hb hby d4_9) rfl rfl k)
  show own_G (T123.setTop (mkF m 10 #[oA a, oI (3 : Int32), oU, oU, oU] [(.ref a)]))
  obtain ⟨T124, X124, e124, st124⟩ := getF X123 hx hZ hown (host := "") (Or.inl (hw _ (own_m 13 rfl))) Via.refl e123 Fw (g := (mkF m 10 #[oA a, oI (3 : Int32), oU, oU, oU] [(.ref a)])) rfl rfl (hb hby d4_10)
  refine up ?_ st124
  show own_G (T124.setTop (mkF m 13 #[oA a, oI (3 : Int32), oU, oU, oU] [(.ref r)]))
  obtain ⟨cl125, Ar125, qa125, Sa125, Na125, Ha125, Ga125⟩ := id V
  refine up ?_ fun t k => X124.arraylength hx (by rw [e124]; exact Ar125.1) (State.isArrayOf_alike hZ.alike Ar125.2.1) (g := (mkF m 13 #[oA a, oI (3 : Int32), oU, oU, oU] [(.ref r)])) rfl rfl (hb hby d4_13) _ k
  rw [len_of Sa125 Na125]
  show own_G (T124.setTop (mkF m 14 #[oA a, oI (3 : Int32), oU, oU, oU] [(.int zc)]))
  refine up ?_ fun t k => XS.iloadN X124.here hx rfl (hb hby d4_14) rfl k
  show own_G (T124.setTop (mkF m 15 #[oA a, oI (3 : Int32), oU, oU, oU] [(.int (3 : Int32)), (.int zc)]))
  refine up ?_ fun t k => XS.icmpYes X124.here hx rfl (pc0 := 15) (pc' := 30) rfl (hb hby d4_15) rfl (flt (own_n3 hc : ¬ (zc < (3 : Int32)))).2.1 (by decide) (by decide) (XS.aloadN X124.here hx rfl (hb hby d4_30) rfl rfl k)
  show own_G (T124.setTop (mkF m 31 #[oA a, oI (3 : Int32), oU, oU, oU] [(.ref a)]))
  obtain ⟨T126, X126, e126, st126⟩ := getF X124 hx hZ hown (host := "") (Or.inl (hw _ (own_m 20 rfl))) Via.refl e124 Fl (g := (mkF m 31 #[oA a, oI (3 : Int32), oU, oU, oU] [(.ref a)])) rfl rfl (hb hby d4_31)
  refine up ?_ st126
  show own_G (T126.setTop (mkF m 34 #[oA a, oI (3 : Int32), oU, oU, oU] [(.int (2 : Int32))]))
  refine up ?_ fun t k => XS.ifYes X126.here hx rfl (pc0 := 34) (pc' := 41) rfl (hb hby d4_34) rfl ((if0 _ _).trans (feq (by decide : ¬ ((2 : Int32) = (0 : Int32)))).2) (by decide) (by decide) (XS.aloadN X126.here hx rfl (hb hby d4_41) rfl rfl k)
  show own_G (T126.setTop (mkF m 42 #[oA a, oI (3 : Int32), oU, oU, oU] [(.ref a)]))
  obtain ⟨T127, X127, e127, st127⟩ := getF X126 hx hZ hown (host := "") (Or.inl (hw _ (own_m 13 rfl))) Via.refl e126 Fw (g := (mkF m 42 #[oA a, oI (3 : Int32), oU, oU, oU] [(.ref a)])) rfl rfl (hb hby d4_42)
  refine up ?_ st127
  show own_G (T127.setTop (mkF m 45 #[oA a, oI (3 : Int32), oU, oU, oU] [(.ref r)]))
  refine up ?_ fun t k => XS.aloadN X127.here hx rfl (hb hby d4_45) rfl rfl k
  show own_G (T127.setTop (mkF m 46 #[oA a, oI (3 : Int32), oU, oU, oU] [(.ref a), (.ref r)]))
  obtain ⟨T128, X128, e128, st128⟩ := getF X127 hx hZ hown (host := "") (Or.inl (hw _ (own_m 20 rfl))) Via.refl e127 Fl (g := (mkF m 46 #[oA a, oI (3 : Int32), oU, oU, oU] [(.ref a), (.ref r)])) rfl rfl (hb hby d4_46)
  refine up ?_ st128
  show own_G (T128.setTop (mkF m 49 #[oA a, oI (3 : Int32), oU, oU, oU] [(.int (2 : Int32)), (.ref r)]))
  refine up ?_ fun t k => XS.iconst X128.here hx rfl (hb hby d4_49) (XS.isub X128.here hx rfl (hb hby d4_50) rfl k)
  show own_G (T128.setTop (mkF m 51 #[oA a, oI (3 : Int32), oU, oU, oU] [(.int (1 : Int32)), (.ref r)]))
  obtain ⟨cl129, Ar129, qa129, Sa129, Na129, Ha129, Ga129⟩ := id V
  have hin129 : ¬ ((1 : Int32) < 0 ∨ cl129.slots.size ≤ ((1 : Int32)).toNatClampNeg) := inb_of Sa129 ⟨by decide, own_i1 hc⟩
  refine up ?_ fun t k => X128.laload hx (j := (1 : Int32)) (v := (.long x1)) (by rw [e128]; exact Ar129.1) (State.isArrayOf_alike hZ.alike Ar129.2.1) Ar129.2.2 hin129 (Ha129.at hin129 rfl) (g := (mkF m 51 #[oA a, oI (3 : Int32), oU, oU, oU] [(.int (1 : Int32)), (.ref r)])) rfl rfl (hb hby d4_51) _ (XS.bipush X128.here hx rfl (hb hby d4_52) (XS.lshr X128.here hx rfl (hb hby d4_54) rfl k))
  show own_G (T128.setTop (mkF m 55 #[oA a, oI (3 : Int32), oU, oU, oU] [(.long (x1 >>> ((63 : Int32) &&& 0x3f).toInt64))]))
  show own_G (T128.setTop (mkF m 55 #[oA a, oI (3 : Int32), oU, oU, oU] [(.long (own_sg x1))]))
  refine up ?_ fun t k => XS.lstoreN X128.here hx rfl (hb hby d4_55) rfl (l' := #[oA a, oI (3 : Int32), oJ (own_sg x1), oS, oU]) rfl (XS.aloadN X128.here hx rfl (hb hby d4_56) rfl rfl k)
  show own_G (T128.setTop (mkF m 57 #[oA a, oI (3 : Int32), oJ (own_sg x1), oS, oU] [(.ref a)]))
  obtain ⟨T130, X130, e130, st130⟩ := getF X128 hx hZ hown (host := "") (Or.inl (hw _ (own_m 20 rfl))) Via.refl e128 Fl (g := (mkF m 57 #[oA a, oI (3 : Int32), oJ (own_sg x1), oS, oU] [(.ref a)])) rfl rfl (hb hby d4_57)
  refine up ?_ st130
  show own_G (T130.setTop (mkF m 60 #[oA a, oI (3 : Int32), oJ (own_sg x1), oS, oU] [(.int (2 : Int32))]))
  refine up ?_ fun t k => XS.istore X130.here hx rfl (hb hby d4_60) rfl (l' := #[oA a, oI (3 : Int32), oJ (own_sg x1), oS, oI (2 : Int32)]) rfl (XS.iload X130.here hx rfl (hb hby d4_62) rfl (XS.iloadN X130.here hx rfl (hb hby d4_64) rfl k))
  show own_G (T130.setTop (mkF m 65 #[oA a, oI (3 : Int32), oJ (own_sg x1), oS, oI (2 : Int32)] [(.int (3 : Int32)), (.int (2 : Int32))]))
  refine up ?_ fun t k => XS.icmpNo X130.here hx rfl (hb hby d4_65) rfl (tlt (by decide : ((2 : Int32) < (3 : Int32)))).2.1 (XS.aloadN X130.here hx rfl (hb hby d4_68) rfl rfl k)
  show own_G (T130.setTop (mkF m 69 #[oA a, oI (3 : Int32), oJ (own_sg x1), oS, oI (2 : Int32)] [(.ref a)]))
  obtain ⟨T131, X131, e131, st131⟩ := getF X130 hx hZ hown (host := "") (Or.inl (hw _ (own_m 13 rfl))) Via.refl e130 Fw (g := (mkF m 69 #[oA a, oI (3 : Int32), oJ (own_sg x1), oS, oI (2 : Int32)] [(.ref a)])) rfl rfl (hb hby d4_69)
  refine up ?_ st131
  show own_G (T131.setTop (mkF m 72 #[oA a, oI (3 : Int32), oJ (own_sg x1), oS, oI (2 : Int32)] [(.ref r)]))
  refine up ?_ fun t k => XS.iload X131.here hx rfl (hb hby d4_72) rfl (XS.lloadN X131.here hx rfl (hb hby d4_74) rfl k)
  show own_G (T131.setTop (mkF m 75 #[oA a, oI (3 : Int32), oJ (own_sg x1), oS, oI (2 : Int32)] [(.long (own_sg x1)), (.int (2 : Int32)), (.ref r)]))
  obtain ⟨cl132, Ar132, qa132, Sa132, Na132, Ha132, Ga132⟩ := id V
  have hin132 : ¬ ((2 : Int32) < 0 ∨ cl132.slots.size ≤ ((2 : Int32)).toNatClampNeg) := inb_of Sa132 ⟨by decide, own_i2 hc⟩
  obtain ⟨T132, h132, X132, e132, W132, st132⟩ := stJ X131 hx hZ e131 Ar132 (j := (2 : Int32)) hin132 (g := (mkF m 75 #[oA a, oI (3 : Int32), oJ (own_sg x1), oS, oI (2 : Int32)] [(.long (own_sg x1)), (.int (2 : Int32)), (.ref r)])) rfl rfl (hb hby d4_75)
  refine up ?_ st132
  have E_a_c133 := E_a.wr W132
  have Fw_c133 := Fw.other W132 (Or.inl ne_ar)
  have Fl_c133 := Fl.other W132 (Or.inl ne_ar)
  have Fp_c133 := Fp.other W132 (Or.inl ne_ar)
  have V132 : Arv Z h132 r kr .long zc ((.long x0) :: (.long x1) :: (.long (own_sg x1)) :: tl) (.long (0 : Int64)) := Arv.set Ar132 qa132 Sa132 Na132 Ha132 Ga132 rfl W132 2 rfl (by simp only [List.length_cons]; omega)
  have N132 := Fr.snoc X132 N0 g_r
  have kq134 := Nat.le_trans (Nat.le_refl h0.size) (Keep.of_wr W132).1
  have Zs135 : n0 ≤ h132.size := Nat.le_trans Z0 (Keep.of_wr W132).1
  show own_G (T132.setTop (mkF m 76 #[oA a, oI (3 : Int32), oJ (own_sg x1), oS, oI (2 : Int32)] []))
  refine up ?_ fun t k => XS.iinc X132.here hx rfl (hb hby d4_76) rfl (l' := #[oA a, oI (3 : Int32), oJ (own_sg x1), oS, oI (3 : Int32)]) rfl (XS.goto X132.here hx rfl (pc0 := 79) (pc' := 62) rfl (hb hby d4_79) (by decide) (by decide) (XS.iload X132.here hx rfl (hb hby d4_62) rfl (XS.iloadN X132.here hx rfl (hb hby d4_64) rfl k)))
  show own_G (T132.setTop (mkF m 65 #[oA a, oI (3 : Int32), oJ (own_sg x1), oS, oI (3 : Int32)] [(.int (3 : Int32)), (.int (3 : Int32))]))
  refine up ?_ fun t k => XS.icmpYes X132.here hx rfl (pc0 := 65) (pc' := 82) rfl (hb hby d4_65) rfl (flt (by decide : ¬ ((3 : Int32) < (3 : Int32)))).2.1 (by decide) (by decide) (XS.aloadN X132.here hx rfl (hb hby d4_82) rfl rfl (XS.iloadN X132.here hx rfl (hb hby d4_83) rfl k))
  show own_G (T132.setTop (mkF m 84 #[oA a, oI (3 : Int32), oJ (own_sg x1), oS, oI (3 : Int32)] [(.int (3 : Int32)), (.ref a)]))
  obtain ⟨T136, h136, X136, e136, W136, st136⟩ := putF X132 hx hZ hown (host := "") (Or.inl (hw _ (own_m 20 rfl))) Via.refl e132 Fl_c133 E_a_c133 (Or.inl (hw _ (own_m 21 rfl))) (hw _ (own_m 3 rfl)) (ty := .int) (by decide) rfl rfl (g := (mkF m 84 #[oA a, oI (3 : Int32), oJ (own_sg x1), oS, oI (3 : Int32)] [(.int (3 : Int32)), (.ref a)])) rfl rfl (hb hby d4_84)
  refine up ?_ st136
  have E_a_c137 := E_a_c133.wr W136
  have Fw_c137 := Fw_c133.other W136 (Or.inr (slot_ne (Or.inl (hw _ (own_m 14 rfl))) (Or.inl (hw _ (own_m 21 rfl))) (by decide) (t := (.array .long)) (t' := .int) (by decide) (by decide)))
  have Fp_c137 := Fp_c133.other W136 (Or.inr (slot_ne (Or.inl (hw _ (own_m 23 rfl))) (Or.inl (hw _ (own_m 21 rfl))) (by decide) (t := .int) (t' := .int) (by decide) (by decide)))
  have V132_c137 := V132.other W136 (Ne.symm ne_ar)
  have F136 := Fl_c133.same W136
  have N136 := Fr.snoc X136 N132 g_a
  have kq138 := Nat.le_trans kq134 (Keep.of_wr W136).1
  have Zs139 : n0 ≤ h136.size := Nat.le_trans Zs135 (Keep.of_wr W136).1
  show own_G (T136.setTop (mkF m 87 #[oA a, oI (3 : Int32), oJ (own_sg x1), oS, oI (3 : Int32)] []))
  exact own_retV X136 hx hlk hret (hb hby d4_87) (by rw [e136]; exact ⟨rfl, N136, kq138, ⟨E_a_c137, Fw_c137, F136, Fp_c137, V132_c137⟩⟩) (by decide) (by decide)
def own_Q_rmw12 (Z : State) (a : Addr) (r : Addr) (kr : ClassId) (zc : Int32) (pw : Int32) (tl : List Value) (x0 : Int64) (x1 : Int64) (x2 : Int64) (h0 : Heap) (n0 : Nat) (v : Option Value) (h : Heap) (L : List Loc) : Prop := v = none ∧ Fr n0 L ∧ h0.size ≤ h.size ∧ own_O Z h a r kr zc (2 : Int32) pw ((.long x0) :: (.long (own_sg x0)) :: (.long x2) :: tl)
theorem rmw12 (l : Launch) (Z : State) (a0 : Array Value) (hw : own_W Z a0) (ws : List Jvm.Cond) (a : Addr) (r : Addr) (kr : ClassId) (zc : Int32) (pw : Int32) (tl : List Value) (x0 : Int64) (x1 : Int64) (x2 : Int64) (h0 : Heap) (n0 : Nat) (Z0 : n0 ≤ h0.size) (O0 : own_O Z h0 a r kr zc (1 : Int32) pw ((.long x0) :: (.long x1) :: (.long x2) :: tl)) (g_a : n0 ≤ a) (g_r : n0 ≤ r) (hc : own_cap zc tl) :
    own_M l Z (⟨"com/example/eventweir/eventweir/ExactSum", "widen", "(I)V"⟩ : MethodName) prog_78_method_10_code 5 none ws ({ frames := 0, cells := 0, slots := 0, locals := 0 } : Room) #[(.ref a), (.int (2 : Int32))] h0 (own_Q_rmw12 Z a r kr zc pw tl x0 x1 x2 h0 n0) := by
  refine own_body (plainFor_of_name own_pn0) ?_
  intro p e s m below meth c s₁ hx hZ hby hml hown hnm hlk hret X0 e0
  have N0 := Fr.nil n0
  obtain ⟨E_a, Fw, Fl, Fp, V⟩ := O0
  have ne_ar : a ≠ r := E_a.neArv V (hw _ (own_m 3 rfl))
  refine up (U' := s₁.setTop (mkF m 0 #[oA a, oI (2 : Int32), oU, oU, oU] [])) ?_ (fun t k => castTop (own_ef_rmw0c m a (2 : Int32)) k)
  refine up ?_ fun t k => XS.iloadN X0.here hx rfl (hb hby d4_0) rfl (XS.aloadN X0.here hx rfl (hb hby d4_1) rfl rfl k)
  show own_G (s₁.setTop (mkF m 2 #[oA a, oI (2 : Int32), oU, oU, oU] [(.ref a), (.int (2 : Int32))]))
  obtain ⟨T140, X140, e140, st140⟩ := getF X0 hx hZ hown (host := "") (Or.inl (hw _ (own_m 20 rfl))) Via.refl e0 Fl (g := (mkF m 2 #[oA a, oI (2 : Int32), oU, oU, oU] [(.ref a), (.int (2 : Int32))])) rfl rfl (hb hby d4_2)
  refine up ?_ st140
  show own_G (T140.setTop (mkF m 5 #[oA a, oI (2 : Int32), oU, oU, oU] [(.int (1 : Int32)), (.int (2 : Int32))]))
  refine up ?_ fun t k => XS.icmpYes X140.here hx rfl (pc0 := 5) (pc' := 9) rfl (hb hby d4_5) rfl (tlt (by decide : ((1 : Int32) < (2 : Int32)))).2.2.1 (by decide) (by decide) (XS.aloadN X140.here hx rfl (hb hby d4_9) rfl rfl k)
  show own_G (T140.setTop (mkF m 10 #[oA a, oI (2 : Int32), oU, oU, oU] [(.ref a)]))
  obtain ⟨T141, X141, e141, st141⟩ := getF X140 hx hZ hown (host := "") (Or.inl (hw _ (own_m 13 rfl))) Via.refl e140 Fw (g := (mkF m 10 #[oA a, oI (2 : Int32), oU, oU, oU] [(.ref a)])) rfl rfl (hb hby d4_10)
  refine up ?_ st141
  show own_G (T141.setTop (mkF m 13 #[oA a, oI (2 : Int32), oU, oU, oU] [(.ref r)]))
  obtain ⟨cl142, Ar142, qa142, Sa142, Na142, Ha142, Ga142⟩ := id V
  refine up ?_ fun t k => X141.arraylength hx (by rw [e141]; exact Ar142.1) (State.isArrayOf_alike hZ.alike Ar142.2.1) (g := (mkF m 13 #[oA a, oI (2 : Int32), oU, oU, oU] [(.ref r)])) rfl rfl (hb hby d4_13) _ k
  rw [len_of Sa142 Na142]
  show own_G (T141.setTop (mkF m 14 #[oA a, oI (2 : Int32), oU, oU, oU] [(.int zc)]))
  refine up ?_ fun t k => XS.iloadN X141.here hx rfl (hb hby d4_14) rfl k
  show own_G (T141.setTop (mkF m 15 #[oA a, oI (2 : Int32), oU, oU, oU] [(.int (2 : Int32)), (.int zc)]))
  refine up ?_ fun t k => XS.icmpYes X141.here hx rfl (pc0 := 15) (pc' := 30) rfl (hb hby d4_15) rfl (flt (own_n2 hc : ¬ (zc < (2 : Int32)))).2.1 (by decide) (by decide) (XS.aloadN X141.here hx rfl (hb hby d4_30) rfl rfl k)
  show own_G (T141.setTop (mkF m 31 #[oA a, oI (2 : Int32), oU, oU, oU] [(.ref a)]))
  obtain ⟨T143, X143, e143, st143⟩ := getF X141 hx hZ hown (host := "") (Or.inl (hw _ (own_m 20 rfl))) Via.refl e141 Fl (g := (mkF m 31 #[oA a, oI (2 : Int32), oU, oU, oU] [(.ref a)])) rfl rfl (hb hby d4_31)
  refine up ?_ st143
  show own_G (T143.setTop (mkF m 34 #[oA a, oI (2 : Int32), oU, oU, oU] [(.int (1 : Int32))]))
  refine up ?_ fun t k => XS.ifYes X143.here hx rfl (pc0 := 34) (pc' := 41) rfl (hb hby d4_34) rfl ((if0 _ _).trans (feq (by decide : ¬ ((1 : Int32) = (0 : Int32)))).2) (by decide) (by decide) (XS.aloadN X143.here hx rfl (hb hby d4_41) rfl rfl k)
  show own_G (T143.setTop (mkF m 42 #[oA a, oI (2 : Int32), oU, oU, oU] [(.ref a)]))
  obtain ⟨T144, X144, e144, st144⟩ := getF X143 hx hZ hown (host := "") (Or.inl (hw _ (own_m 13 rfl))) Via.refl e143 Fw (g := (mkF m 42 #[oA a, oI (2 : Int32), oU, oU, oU] [(.ref a)])) rfl rfl (hb hby d4_42)
  refine up ?_ st144
  show own_G (T144.setTop (mkF m 45 #[oA a, oI (2 : Int32), oU, oU, oU] [(.ref r)]))
  refine up ?_ fun t k => XS.aloadN X144.here hx rfl (hb hby d4_45) rfl rfl k
  show own_G (T144.setTop (mkF m 46 #[oA a, oI (2 : Int32), oU, oU, oU] [(.ref a), (.ref r)]))
  obtain ⟨T145, X145, e145, st145⟩ := getF X144 hx hZ hown (host := "") (Or.inl (hw _ (own_m 20 rfl))) Via.refl e144 Fl (g := (mkF m 46 #[oA a, oI (2 : Int32), oU, oU, oU] [(.ref a), (.ref r)])) rfl rfl (hb hby d4_46)
  refine up ?_ st145
  show own_G (T145.setTop (mkF m 49 #[oA a, oI (2 : Int32), oU, oU, oU] [(.int (1 : Int32)), (.ref r)]))
  refine up ?_ fun t k => XS.iconst X145.here hx rfl (hb hby d4_49) (XS.isub X145.here hx rfl (hb hby d4_50) rfl k)
  show own_G (T145.setTop (mkF m 51 #[oA a, oI (2 : Int32), oU, oU, oU] [(.int (0 : Int32)), (.ref r)]))
  obtain ⟨cl146, Ar146, qa146, Sa146, Na146, Ha146, Ga146⟩ := id V
  have hin146 : ¬ ((0 : Int32) < 0 ∨ cl146.slots.size ≤ ((0 : Int32)).toNatClampNeg) := inb_of Sa146 ⟨by decide, own_i0 hc⟩
  refine up ?_ fun t k => X145.laload hx (j := (0 : Int32)) (v := (.long x0)) (by rw [e145]; exact Ar146.1) (State.isArrayOf_alike hZ.alike Ar146.2.1) Ar146.2.2 hin146 (Ha146.at hin146 rfl) (g := (mkF m 51 #[oA a, oI (2 : Int32), oU, oU, oU] [(.int (0 : Int32)), (.ref r)])) rfl rfl (hb hby d4_51) _ (XS.bipush X145.here hx rfl (hb hby d4_52) (XS.lshr X145.here hx rfl (hb hby d4_54) rfl k))
  show own_G (T145.setTop (mkF m 55 #[oA a, oI (2 : Int32), oU, oU, oU] [(.long (x0 >>> ((63 : Int32) &&& 0x3f).toInt64))]))
  show own_G (T145.setTop (mkF m 55 #[oA a, oI (2 : Int32), oU, oU, oU] [(.long (own_sg x0))]))
  refine up ?_ fun t k => XS.lstoreN X145.here hx rfl (hb hby d4_55) rfl (l' := #[oA a, oI (2 : Int32), oJ (own_sg x0), oS, oU]) rfl (XS.aloadN X145.here hx rfl (hb hby d4_56) rfl rfl k)
  show own_G (T145.setTop (mkF m 57 #[oA a, oI (2 : Int32), oJ (own_sg x0), oS, oU] [(.ref a)]))
  obtain ⟨T147, X147, e147, st147⟩ := getF X145 hx hZ hown (host := "") (Or.inl (hw _ (own_m 20 rfl))) Via.refl e145 Fl (g := (mkF m 57 #[oA a, oI (2 : Int32), oJ (own_sg x0), oS, oU] [(.ref a)])) rfl rfl (hb hby d4_57)
  refine up ?_ st147
  show own_G (T147.setTop (mkF m 60 #[oA a, oI (2 : Int32), oJ (own_sg x0), oS, oU] [(.int (1 : Int32))]))
  refine up ?_ fun t k => XS.istore X147.here hx rfl (hb hby d4_60) rfl (l' := #[oA a, oI (2 : Int32), oJ (own_sg x0), oS, oI (1 : Int32)]) rfl (XS.iload X147.here hx rfl (hb hby d4_62) rfl (XS.iloadN X147.here hx rfl (hb hby d4_64) rfl k))
  show own_G (T147.setTop (mkF m 65 #[oA a, oI (2 : Int32), oJ (own_sg x0), oS, oI (1 : Int32)] [(.int (2 : Int32)), (.int (1 : Int32))]))
  refine up ?_ fun t k => XS.icmpNo X147.here hx rfl (hb hby d4_65) rfl (tlt (by decide : ((1 : Int32) < (2 : Int32)))).2.1 (XS.aloadN X147.here hx rfl (hb hby d4_68) rfl rfl k)
  show own_G (T147.setTop (mkF m 69 #[oA a, oI (2 : Int32), oJ (own_sg x0), oS, oI (1 : Int32)] [(.ref a)]))
  obtain ⟨T148, X148, e148, st148⟩ := getF X147 hx hZ hown (host := "") (Or.inl (hw _ (own_m 13 rfl))) Via.refl e147 Fw (g := (mkF m 69 #[oA a, oI (2 : Int32), oJ (own_sg x0), oS, oI (1 : Int32)] [(.ref a)])) rfl rfl (hb hby d4_69)
  refine up ?_ st148
  show own_G (T148.setTop (mkF m 72 #[oA a, oI (2 : Int32), oJ (own_sg x0), oS, oI (1 : Int32)] [(.ref r)]))
  refine up ?_ fun t k => XS.iload X148.here hx rfl (hb hby d4_72) rfl (XS.lloadN X148.here hx rfl (hb hby d4_74) rfl k)
  show own_G (T148.setTop (mkF m 75 #[oA a, oI (2 : Int32), oJ (own_sg x0), oS, oI (1 : Int32)] [(.long (own_sg x0)), (.int (1 : Int32)), (.ref r)]))
  obtain ⟨cl149, Ar149, qa149, Sa149, Na149, Ha149, Ga149⟩ := id V
  have hin149 : ¬ ((1 : Int32) < 0 ∨ cl149.slots.size ≤ ((1 : Int32)).toNatClampNeg) := inb_of Sa149 ⟨by decide, own_i1 hc⟩
  obtain ⟨T149, h149, X149, e149, W149, st149⟩ := stJ X148 hx hZ e148 Ar149 (j := (1 : Int32)) hin149 (g := (mkF m 75 #[oA a, oI (2 : Int32), oJ (own_sg x0), oS, oI (1 : Int32)] [(.long (own_sg x0)), (.int (1 : Int32)), (.ref r)])) rfl rfl (hb hby d4_75)
  refine up ?_ st149
  have E_a_c150 := E_a.wr W149
  have Fw_c150 := Fw.other W149 (Or.inl ne_ar)
  have Fl_c150 := Fl.other W149 (Or.inl ne_ar)
  have Fp_c150 := Fp.other W149 (Or.inl ne_ar)
  have V149 : Arv Z h149 r kr .long zc ((.long x0) :: (.long (own_sg x0)) :: (.long x2) :: tl) (.long (0 : Int64)) := Arv.set Ar149 qa149 Sa149 Na149 Ha149 Ga149 rfl W149 1 rfl (by simp only [List.length_cons]; omega)
  have N149 := Fr.snoc X149 N0 g_r
  have kq151 := Nat.le_trans (Nat.le_refl h0.size) (Keep.of_wr W149).1
  have Zs152 : n0 ≤ h149.size := Nat.le_trans Z0 (Keep.of_wr W149).1
  show own_G (T149.setTop (mkF m 76 #[oA a, oI (2 : Int32), oJ (own_sg x0), oS, oI (1 : Int32)] []))
  refine up ?_ fun t k => XS.iinc X149.here hx rfl (hb hby d4_76) rfl (l' := #[oA a, oI (2 : Int32), oJ (own_sg x0), oS, oI (2 : Int32)]) rfl (XS.goto X149.here hx rfl (pc0 := 79) (pc' := 62) rfl (hb hby d4_79) (by decide) (by decide) (XS.iload X149.here hx rfl (hb hby d4_62) rfl (XS.iloadN X149.here hx rfl (hb hby d4_64) rfl k)))
  show own_G (T149.setTop (mkF m 65 #[oA a, oI (2 : Int32), oJ (own_sg x0), oS, oI (2 : Int32)] [(.int (2 : Int32)), (.int (2 : Int32))]))
  refine up ?_ fun t k => XS.icmpYes X149.here hx rfl (pc0 := 65) (pc' := 82) rfl (hb hby d4_65) rfl (flt (by decide : ¬ ((2 : Int32) < (2 : Int32)))).2.1 (by decide) (by decide) (XS.aloadN X149.here hx rfl (hb hby d4_82) rfl rfl (XS.iloadN X149.here hx rfl (hb hby d4_83) rfl k))
  show own_G (T149.setTop (mkF m 84 #[oA a, oI (2 : Int32), oJ (own_sg x0), oS, oI (2 : Int32)] [(.int (2 : Int32)), (.ref a)]))
  obtain ⟨T153, h153, X153, e153, W153, st153⟩ := putF X149 hx hZ hown (host := "") (Or.inl (hw _ (own_m 20 rfl))) Via.refl e149 Fl_c150 E_a_c150 (Or.inl (hw _ (own_m 21 rfl))) (hw _ (own_m 3 rfl)) (ty := .int) (by decide) rfl rfl (g := (mkF m 84 #[oA a, oI (2 : Int32), oJ (own_sg x0), oS, oI (2 : Int32)] [(.int (2 : Int32)), (.ref a)])) rfl rfl (hb hby d4_84)
  refine up ?_ st153
  have E_a_c154 := E_a_c150.wr W153
  have Fw_c154 := Fw_c150.other W153 (Or.inr (slot_ne (Or.inl (hw _ (own_m 14 rfl))) (Or.inl (hw _ (own_m 21 rfl))) (by decide) (t := (.array .long)) (t' := .int) (by decide) (by decide)))
  have Fp_c154 := Fp_c150.other W153 (Or.inr (slot_ne (Or.inl (hw _ (own_m 23 rfl))) (Or.inl (hw _ (own_m 21 rfl))) (by decide) (t := .int) (t' := .int) (by decide) (by decide)))
  have V149_c154 := V149.other W153 (Ne.symm ne_ar)
  have F153 := Fl_c150.same W153
  have N153 := Fr.snoc X153 N149 g_a
  have kq155 := Nat.le_trans kq151 (Keep.of_wr W153).1
  have Zs156 : n0 ≤ h153.size := Nat.le_trans Zs152 (Keep.of_wr W153).1
  show own_G (T153.setTop (mkF m 87 #[oA a, oI (2 : Int32), oJ (own_sg x0), oS, oI (2 : Int32)] []))
  exact own_retV X153 hx hlk hret (hb hby d4_87) (by rw [e153]; exact ⟨rfl, N153, kq155, ⟨E_a_c154, Fw_c154, F153, Fp_c154, V149_c154⟩⟩) (by decide) (by decide)
def own_Q_rmwr (Z : State) (a : Addr) (cnt : Int32) (n : Int32) (h0 : Heap) (n0 : Nat) (v : Option Value) (h : Heap) (L : List Loc) : Prop := v = none ∧ Fr n0 L ∧ h = h0
theorem rmwr (l : Launch) (Z : State) (a0 : Array Value) (hw : own_W Z a0) (ws : List Jvm.Cond) (a : Addr) (cnt : Int32) (n : Int32) (h0 : Heap) (n0 : Nat) (Z0 : n0 ≤ h0.size) (Fl : Fld Z h0 a "com/example/eventweir/eventweir/ExactSum" "length" "I" (.int n)) (hle : ¬ (n < cnt)) :
    own_M l Z (⟨"com/example/eventweir/eventweir/ExactSum", "widen", "(I)V"⟩ : MethodName) prog_78_method_10_code 5 none ws ({ frames := 0, cells := 0, slots := 0, locals := 0 } : Room) #[(.ref a), (.int cnt)] h0 (own_Q_rmwr Z a cnt n h0 n0) := by
  refine own_body (plainFor_of_name own_pn0) ?_
  intro p e s m below meth c s₁ hx hZ hby hml hown hnm hlk hret X0 e0
  have N0 := Fr.nil n0
  refine up (U' := s₁.setTop (mkF m 0 #[oA a, oI cnt, oU, oU, oU] [])) ?_ (fun t k => castTop (own_ef_rmw0c m a cnt) k)
  refine up ?_ fun t k => XS.iloadN X0.here hx rfl (hb hby d4_0) rfl (XS.aloadN X0.here hx rfl (hb hby d4_1) rfl rfl k)
  show own_G (s₁.setTop (mkF m 2 #[oA a, oI cnt, oU, oU, oU] [(.ref a), (.int cnt)]))
  obtain ⟨T157, X157, e157, st157⟩ := getF X0 hx hZ hown (host := "") (Or.inl (hw _ (own_m 20 rfl))) Via.refl e0 Fl (g := (mkF m 2 #[oA a, oI cnt, oU, oU, oU] [(.ref a), (.int cnt)])) rfl rfl (hb hby d4_2)
  refine up ?_ st157
  show own_G (T157.setTop (mkF m 5 #[oA a, oI cnt, oU, oU, oU] [(.int n), (.int cnt)]))
  refine up ?_ fun t k => XS.icmpNo X157.here hx rfl (hb hby d4_5) rfl (flt (hle : ¬ (n < cnt))).2.2.1 k
  show own_G (T157.setTop (mkF m 8 #[oA a, oI cnt, oU, oU, oU] []))
  exact own_retV X157 hx hlk hret (hb hby d4_8) ⟨rfl, N0, e157⟩ (by decide) (by decide)
theorem d13_0 : decode jdk_65_method_30_code 0 = .ok (.iload_n 1, 1) := by decide +kernel
theorem d13_1 : decode jdk_65_method_30_code 1 = .ok (.iload_n 2, 1) := by decide +kernel
theorem d13_2 : decode jdk_65_method_30_code 2 = .ok (.if_icmp .le 44, 3) := by decide +kernel
theorem d13_46 : decode jdk_65_method_30_code 46 = .ok (.iload_n 1, 1) := by decide +kernel
theorem d13_47 : decode jdk_65_method_30_code 47 = .ok (.ifCond .ge 12, 3) := by decide +kernel
theorem d13_59 : decode jdk_65_method_30_code 59 = .ok (.iload_n 2, 1) := by decide +kernel
theorem d13_60 : decode jdk_65_method_30_code 60 = .ok (.iload_n 0, 1) := by decide +kernel
theorem d13_61 : decode jdk_65_method_30_code 61 = .ok (.if_icmp .le 12, 3) := by decide +kernel
theorem d13_73 : decode jdk_65_method_30_code 73 = .ok (.return_, 1) := by decide +kernel
theorem own_ef_rmrc (m : MethodId) (x0 : Int32) (x1 : Int32) (x2 : Int32) : entryFrame m #[(.int x0), (.int x1), (.int x2)] 3 = mkF m 0 #[oI x0, oI x1, oI x2] [] := by first | (simp [entryFrame, mkF, argsToLocals, Value.category]; done) | rfl
def own_Q_rmrc (Z : State) (ln : Int32) (fm : Int32) (to : Int32) (h0 : Heap) (n0 : Nat) (v : Option Value) (h : Heap) (L : List Loc) : Prop := v = none ∧ Fr n0 L ∧ h = h0
theorem rmrc (l : Launch) (Z : State) (a0 : Array Value) (hw : own_W Z a0) (ws : List Jvm.Cond) (ln : Int32) (fm : Int32) (to : Int32) (h0 : Heap) (n0 : Nat) (Z0 : n0 ≤ h0.size) (h1 : ¬ (to < fm)) (h2 : ¬ (fm < (0 : Int32))) (h3 : ¬ (ln < to)) :
    own_M l Z (⟨"java/util/Arrays", "rangeCheck", "(III)V"⟩ : MethodName) jdk_65_method_30_code 3 none ws ({ frames := 0, cells := 0, slots := 0, locals := 0 } : Room) #[(.int ln), (.int fm), (.int to)] h0 (own_Q_rmrc Z ln fm to h0 n0) := by
  refine own_body (plainFor_of_name own_pn1) ?_
  intro p e s m below meth c s₁ hx hZ hby hml hown hnm hlk hret X0 e0
  have N0 := Fr.nil n0
  refine up (U' := s₁.setTop (mkF m 0 #[oI ln, oI fm, oI to] [])) ?_ (fun t k => castTop (own_ef_rmrc m ln fm to) k)
  refine up ?_ fun t k => XS.iloadN X0.here hx rfl (hb hby d13_0) rfl (XS.iloadN X0.here hx rfl (hb hby d13_1) rfl k)
  show own_G (s₁.setTop (mkF m 2 #[oI ln, oI fm, oI to] [(.int to), (.int fm)]))
  refine up ?_ fun t k => XS.icmpYes X0.here hx rfl (pc0 := 2) (pc' := 46) rfl (hb hby d13_2) rfl (flt (h1 : ¬ (to < fm))).2.2.2 (by decide) (by decide) (XS.iloadN X0.here hx rfl (hb hby d13_46) rfl k)
  show own_G (s₁.setTop (mkF m 47 #[oI ln, oI fm, oI to] [(.int fm)]))
  refine up ?_ fun t k => XS.ifYes X0.here hx rfl (pc0 := 47) (pc' := 59) rfl (hb hby d13_47) rfl ((if0 _ _).trans (flt (h2 : ¬ (fm < (0 : Int32)))).2.1) (by decide) (by decide) (XS.iloadN X0.here hx rfl (hb hby d13_59) rfl (XS.iloadN X0.here hx rfl (hb hby d13_60) rfl k))
  show own_G (s₁.setTop (mkF m 61 #[oI ln, oI fm, oI to] [(.int ln), (.int to)]))
  refine up ?_ fun t k => XS.icmpYes X0.here hx rfl (pc0 := 61) (pc' := 73) rfl (hb hby d13_61) rfl (flt (h3 : ¬ (ln < to))).2.2.2 (by decide) (by decide) k
  show own_G (s₁.setTop (mkF m 73 #[oI ln, oI fm, oI to] []))
  exact own_retV X0 hx hlk hret (hb hby d13_73) ⟨rfl, N0, e0⟩ (by decide) (by decide)
theorem d12_0 : decode jdk_65_method_102_code 0 = .ok (.aload_n 0, 1) := by decide +kernel
theorem d12_1 : decode jdk_65_method_102_code 1 = .ok (.arraylength, 1) := by decide +kernel
theorem d12_2 : decode jdk_65_method_102_code 2 = .ok (.iload_n 1, 1) := by decide +kernel
theorem d12_3 : decode jdk_65_method_102_code 3 = .ok (.iload_n 2, 1) := by decide +kernel
theorem d12_4 : decode jdk_65_method_102_code 4 = .ok (.invokestatic 13, 3) := by decide +kernel
theorem d12_7 : decode jdk_65_method_102_code 7 = .ok (.iload_n 1, 1) := by decide +kernel
theorem d12_8 : decode jdk_65_method_102_code 8 = .ok (.istore 5, 2) := by decide +kernel
theorem d12_10 : decode jdk_65_method_102_code 10 = .ok (.iload 5, 2) := by decide +kernel
theorem d12_12 : decode jdk_65_method_102_code 12 = .ok (.iload_n 2, 1) := by decide +kernel
theorem d12_13 : decode jdk_65_method_102_code 13 = .ok (.if_icmp .ge 14, 3) := by decide +kernel
theorem d12_16 : decode jdk_65_method_102_code 16 = .ok (.aload_n 0, 1) := by decide +kernel
theorem d12_17 : decode jdk_65_method_102_code 17 = .ok (.iload 5, 2) := by decide +kernel
theorem d12_19 : decode jdk_65_method_102_code 19 = .ok (.lload_n 3, 1) := by decide +kernel
theorem d12_20 : decode jdk_65_method_102_code 20 = .ok (.lastore, 1) := by decide +kernel
theorem d12_21 : decode jdk_65_method_102_code 21 = .ok (.iinc 5 1, 3) := by decide +kernel
theorem d12_24 : decode jdk_65_method_102_code 24 = .ok (.goto (-14), 3) := by decide +kernel
theorem d12_27 : decode jdk_65_method_102_code 27 = .ok (.return_, 1) := by decide +kernel
theorem own_ef_rmf0 (m : MethodId) (x0 : Addr) (x1 : Int32) (x2 : Int32) (x3 : Int64) : entryFrame m #[(.ref x0), (.int x1), (.int x2), (.long x3)] 6 = mkF m 0 #[oA x0, oI x1, oI x2, oJ x3, .second, .unset] [] := by first | (simp [entryFrame, mkF, argsToLocals, Value.category]; done) | rfl
def own_Q_rmf0 (Z : State) (r : Addr) (kr : ClassId) (zc : Int32) (wl : List Value) (h0 : Heap) (n0 : Nat) (v : Option Value) (h : Heap) (L : List Loc) : Prop := v = none ∧ Fr n0 L ∧ h = h0
theorem rmf0 (l : Launch) (Z : State) (a0 : Array Value) (hw : own_W Z a0) (ws : List Jvm.Cond) (r : Addr) (kr : ClassId) (zc : Int32) (wl : List Value) (h0 : Heap) (n0 : Nat) (Z0 : n0 ≤ h0.size) (V : Arv Z h0 r kr .long zc wl (.long (0 : Int64))) (hz : ¬ (zc < (0 : Int32))) :
    own_M l Z (⟨"java/util/Arrays", "fill", "([JIIJ)V"⟩ : MethodName) jdk_65_method_102_code 6 none ws ({ frames := 1, cells := 0, slots := 0, locals := 14 } : Room) #[(.ref r), (.int (0 : Int32)), (.int (0 : Int32)), (.long (0 : Int64))] h0 (own_Q_rmf0 Z r kr zc wl h0 n0) := by
  refine own_body (plainFor_of_name own_pn1) ?_
  intro p e s m below meth c s₁ hx hZ hby hml hown hnm hlk hret X0 e0
  have N0 := Fr.nil n0
  refine up (U' := s₁.setTop (mkF m 0 #[oA r, oI (0 : Int32), oI (0 : Int32), oJ (0 : Int64), oS, oU] [])) ?_ (fun t k => castTop (own_ef_rmf0 m r (0 : Int32) (0 : Int32) (0 : Int64)) k)
  refine up ?_ fun t k => XS.aloadN X0.here hx rfl (hb hby d12_0) rfl rfl k
  show own_G (s₁.setTop (mkF m 1 #[oA r, oI (0 : Int32), oI (0 : Int32), oJ (0 : Int64), oS, oU] [(.ref r)]))
  obtain ⟨cl158, Ar158, qa158, Sa158, Na158, Ha158, Ga158⟩ := id V
  refine up ?_ fun t k => X0.arraylength hx (by rw [e0]; exact Ar158.1) (State.isArrayOf_alike hZ.alike Ar158.2.1) (g := (mkF m 1 #[oA r, oI (0 : Int32), oI (0 : Int32), oJ (0 : Int64), oS, oU] [(.ref r)])) rfl rfl (hb hby d12_1) _ k
  rw [len_of Sa158 Na158]
  show own_G (s₁.setTop (mkF m 2 #[oA r, oI (0 : Int32), oI (0 : Int32), oJ (0 : Int64), oS, oU] [(.int zc)]))
  refine up ?_ fun t k => XS.iloadN X0.here hx rfl (hb hby d12_2) rfl (XS.iloadN X0.here hx rfl (hb hby d12_3) rfl k)
  show own_G (s₁.setTop (mkF m 4 #[oA r, oI (0 : Int32), oI (0 : Int32), oJ (0 : Int64), oS, oU] [(.int (0 : Int32)), (.int (0 : Int32)), (.int zc)]))
  obtain ⟨_, _, ⟨T159, L159, k159, n159⟩, -, X159, ⟨Lc159, hQ159, l159, y159, z159⟩, st159⟩ := Jvm.LawKit.callS X0 hx (y := (⟨"java/util/Arrays", "rangeCheck", "(III)V"⟩ : MethodName)) hown (mvT hZ (hw _ (own_m 66 rfl))) (mvT hZ (hw _ (own_m 67 rfl))) (mvT hZ (hw _ (own_m 30 rfl))) (mvT hZ (hw _ (own_m 68 rfl))) (by decide) (backOf (W := 0) (rmrc l Z a0 hw [] zc (0 : Int32) (0 : Int32)  h0 n0 Z0 (by decide) (by decide) hz) hZ (hw _ (own_m 68 rfl)) (hw _ (own_m 30 rfl)) (by decide) (by decide)) (g := (mkF m 4 #[oA r, oI (0 : Int32), oI (0 : Int32), oJ (0 : Int64), oS, oU] [(.int (0 : Int32)), (.int (0 : Int32)), (.int zc)])) rfl (by rw [hml]; rfl) (argsL := [(.int zc), (.int (0 : Int32)), (.int (0 : Int32))]) (rest := []) (lenOf own_pd3 rfl) rfl (by show 2 * 0 + _ ≤ _; exact Nat.le_of_eq rfl) (hb hby d12_4) (fun _ _ => ⟨rfl, e0, (by decide : 0 + 0 ≤ _), (by decide : 0 + 0 ≤ _)⟩)
  dsimp only [Pt.U, Pt.locs, Pt.cells, Pt.slots] at X159 l159 y159 z159 st159 hQ159
  subst l159 y159 z159
  obtain ⟨rfl, Nq159, e159⟩ := hQ159
  have N159 := Fr.app N0 Nq159
  refine up ?_ (st159)
  show own_G (T159.setTop (mkF m 7 #[oA r, oI (0 : Int32), oI (0 : Int32), oJ (0 : Int64), oS, oU] []))
  refine up ?_ fun t k => XS.iloadN X159.here hx rfl (hb hby d12_7) rfl (XS.istore X159.here hx rfl (hb hby d12_8) rfl (l' := #[oA r, oI (0 : Int32), oI (0 : Int32), oJ (0 : Int64), oS, oI (0 : Int32)]) rfl (XS.iload X159.here hx rfl (hb hby d12_10) rfl (XS.iloadN X159.here hx rfl (hb hby d12_12) rfl k)))
  show own_G (T159.setTop (mkF m 13 #[oA r, oI (0 : Int32), oI (0 : Int32), oJ (0 : Int64), oS, oI (0 : Int32)] [(.int (0 : Int32)), (.int (0 : Int32))]))
  refine up ?_ fun t k => XS.icmpYes X159.here hx rfl (pc0 := 13) (pc' := 27) rfl (hb hby d12_13) rfl (flt (by decide : ¬ ((0 : Int32) < (0 : Int32)))).2.1 (by decide) (by decide) k
  show own_G (T159.setTop (mkF m 27 #[oA r, oI (0 : Int32), oI (0 : Int32), oJ (0 : Int64), oS, oI (0 : Int32)] []))
  exact own_retV X159 hx hlk hret (hb hby d12_27) ⟨rfl, N159, e159⟩ (by decide) (by decide)
def own_Q_rmf1 (Z : State) (r : Addr) (kr : ClassId) (x0 : Int64) (x1 : Int64) (x2 : Int64) (x3 : Int64) (h0 : Heap) (n0 : Nat) (v : Option Value) (h : Heap) (L : List Loc) : Prop := v = none ∧ Fr n0 L ∧ Keep h0 h [r] ∧ Arv Z h r kr .long (4 : Int32) [(.long (0 : Int64)), (.long x1), (.long x2), (.long x3)] (.long (0 : Int64))
theorem rmf1 (l : Launch) (Z : State) (a0 : Array Value) (hw : own_W Z a0) (ws : List Jvm.Cond) (r : Addr) (kr : ClassId) (x0 : Int64) (x1 : Int64) (x2 : Int64) (x3 : Int64) (h0 : Heap) (n0 : Nat) (Z0 : n0 ≤ h0.size) (V : Arv Z h0 r kr .long (4 : Int32) [(.long x0), (.long x1), (.long x2), (.long x3)] (.long (0 : Int64))) (g_r : n0 ≤ r) :
    own_M l Z (⟨"java/util/Arrays", "fill", "([JIIJ)V"⟩ : MethodName) jdk_65_method_102_code 6 none ws ({ frames := 1, cells := 0, slots := 0, locals := 14 } : Room) #[(.ref r), (.int (0 : Int32)), (.int (1 : Int32)), (.long (0 : Int64))] h0 (own_Q_rmf1 Z r kr x0 x1 x2 x3 h0 n0) := by
  refine own_body (plainFor_of_name own_pn1) ?_
  intro p e s m below meth c s₁ hx hZ hby hml hown hnm hlk hret X0 e0
  have N0 := Fr.nil n0
  have K0 := Keep.refl h0 [r]
  refine up (U' := s₁.setTop (mkF m 0 #[oA r, oI (0 : Int32), oI (1 : Int32), oJ (0 : Int64), oS, oU] [])) ?_ (fun t k => castTop (own_ef_rmf0 m r (0 : Int32) (1 : Int32) (0 : Int64)) k)
  refine up ?_ fun t k => XS.aloadN X0.here hx rfl (hb hby d12_0) rfl rfl k
  show own_G (s₁.setTop (mkF m 1 #[oA r, oI (0 : Int32), oI (1 : Int32), oJ (0 : Int64), oS, oU] [(.ref r)]))
  obtain ⟨cl160, Ar160, qa160, Sa160, Na160, Ha160, Ga160⟩ := id V
  refine up ?_ fun t k => X0.arraylength hx (by rw [e0]; exact Ar160.1) (State.isArrayOf_alike hZ.alike Ar160.2.1) (g := (mkF m 1 #[oA r, oI (0 : Int32), oI (1 : Int32), oJ (0 : Int64), oS, oU] [(.ref r)])) rfl rfl (hb hby d12_1) _ k
  rw [len_of Sa160 Na160]
  show own_G (s₁.setTop (mkF m 2 #[oA r, oI (0 : Int32), oI (1 : Int32), oJ (0 : Int64), oS, oU] [(.int (4 : Int32))]))
  refine up ?_ fun t k => XS.iloadN X0.here hx rfl (hb hby d12_2) rfl (XS.iloadN X0.here hx rfl (hb hby d12_3) rfl k)
  show own_G (s₁.setTop (mkF m 4 #[oA r, oI (0 : Int32), oI (1 : Int32), oJ (0 : Int64), oS, oU] [(.int (1 : Int32)), (.int (0 : Int32)), (.int (4 : Int32))]))
  obtain ⟨_, _, ⟨T161, L161, k161, n161⟩, -, X161, ⟨Lc161, hQ161, l161, y161, z161⟩, st161⟩ := Jvm.LawKit.callS X0 hx (y := (⟨"java/util/Arrays", "rangeCheck", "(III)V"⟩ : MethodName)) hown (mvT hZ (hw _ (own_m 66 rfl))) (mvT hZ (hw _ (own_m 67 rfl))) (mvT hZ (hw _ (own_m 30 rfl))) (mvT hZ (hw _ (own_m 68 rfl))) (by decide) (backOf (W := 0) (rmrc l Z a0 hw [] (4 : Int32) (0 : Int32) (1 : Int32)  h0 n0 Z0 (by decide) (by decide) (by decide)) hZ (hw _ (own_m 68 rfl)) (hw _ (own_m 30 rfl)) (by decide) (by decide)) (g := (mkF m 4 #[oA r, oI (0 : Int32), oI (1 : Int32), oJ (0 : Int64), oS, oU] [(.int (1 : Int32)), (.int (0 : Int32)), (.int (4 : Int32))])) rfl (by rw [hml]; rfl) (argsL := [(.int (4 : Int32)), (.int (0 : Int32)), (.int (1 : Int32))]) (rest := []) (lenOf own_pd3 rfl) rfl (by show 2 * 0 + _ ≤ _; exact Nat.le_of_eq rfl) (hb hby d12_4) (fun _ _ => ⟨rfl, e0, (by decide : 0 + 0 ≤ _), (by decide : 0 + 0 ≤ _)⟩)
  dsimp only [Pt.U, Pt.locs, Pt.cells, Pt.slots] at X161 l161 y161 z161 st161 hQ161
  subst l161 y161 z161
  obtain ⟨rfl, Nq161, e161⟩ := hQ161
  have N161 := Fr.app N0 Nq161
  refine up ?_ (st161)
  show own_G (T161.setTop (mkF m 7 #[oA r, oI (0 : Int32), oI (1 : Int32), oJ (0 : Int64), oS, oU] []))
  refine up ?_ fun t k => XS.iloadN X161.here hx rfl (hb hby d12_7) rfl (XS.istore X161.here hx rfl (hb hby d12_8) rfl (l' := #[oA r, oI (0 : Int32), oI (1 : Int32), oJ (0 : Int64), oS, oI (0 : Int32)]) rfl (XS.iload X161.here hx rfl (hb hby d12_10) rfl (XS.iloadN X161.here hx rfl (hb hby d12_12) rfl k)))
  show own_G (T161.setTop (mkF m 13 #[oA r, oI (0 : Int32), oI (1 : Int32), oJ (0 : Int64), oS, oI (0 : Int32)] [(.int (1 : Int32)), (.int (0 : Int32))]))
  refine up ?_ fun t k => XS.icmpNo X161.here hx rfl (hb hby d12_13) rfl (tlt (by decide : ((0 : Int32) < (1 : Int32)))).2.1 (XS.aloadN X161.here hx rfl (hb hby d12_16) rfl rfl (XS.iload X161.here hx rfl (hb hby d12_17) rfl (XS.lloadN X161.here hx rfl (hb hby d12_19) rfl k)))
  show own_G (T161.setTop (mkF m 20 #[oA r, oI (0 : Int32), oI (1 : Int32), oJ (0 : Int64), oS, oI (0 : Int32)] [(.long (0 : Int64)), (.int (0 : Int32)), (.ref r)]))
  obtain ⟨cl162, Ar162, qa162, Sa162, Na162, Ha162, Ga162⟩ := id V
  have hin162 : ¬ ((0 : Int32) < 0 ∨ cl162.slots.size ≤ ((0 : Int32)).toNatClampNeg) := inb_of Sa162 ⟨by decide, by decide⟩
  obtain ⟨T162, h162, X162, e162, W162, st162⟩ := stJ X161 hx hZ e161 Ar162 (j := (0 : Int32)) hin162 (g := (mkF m 20 #[oA r, oI (0 : Int32), oI (1 : Int32), oJ (0 : Int64), oS, oI (0 : Int32)] [(.long (0 : Int64)), (.int (0 : Int32)), (.ref r)])) rfl rfl (hb hby d12_20)
  refine up ?_ st162
  have V162 : Arv Z h162 r kr .long (4 : Int32) [(.long (0 : Int64)), (.long x1), (.long x2), (.long x3)] (.long (0 : Int64)) := Arv.set Ar162 qa162 Sa162 Na162 Ha162 Ga162 rfl W162 0 rfl (Nat.le_of_ble_eq_true rfl)
  have N162 := Fr.snoc X162 N161 g_r
  have Zs164 : n0 ≤ h162.size := Nat.le_trans Z0 (Keep.of_wr W162).1
  have K165 : Keep h0 h162 [r] := K0.wr W162 (Or.inl (List.mem_of_getElem? (i := 0) rfl))
  show own_G (T162.setTop (mkF m 21 #[oA r, oI (0 : Int32), oI (1 : Int32), oJ (0 : Int64), oS, oI (0 : Int32)] []))
  refine up ?_ fun t k => XS.iinc X162.here hx rfl (hb hby d12_21) rfl (l' := #[oA r, oI (0 : Int32), oI (1 : Int32), oJ (0 : Int64), oS, oI (1 : Int32)]) rfl (XS.goto X162.here hx rfl (pc0 := 24) (pc' := 10) rfl (hb hby d12_24) (by decide) (by decide) (XS.iload X162.here hx rfl (hb hby d12_10) rfl (XS.iloadN X162.here hx rfl (hb hby d12_12) rfl k)))
  show own_G (T162.setTop (mkF m 13 #[oA r, oI (0 : Int32), oI (1 : Int32), oJ (0 : Int64), oS, oI (1 : Int32)] [(.int (1 : Int32)), (.int (1 : Int32))]))
  refine up ?_ fun t k => XS.icmpYes X162.here hx rfl (pc0 := 13) (pc' := 27) rfl (hb hby d12_13) rfl (flt (by decide : ¬ ((1 : Int32) < (1 : Int32)))).2.1 (by decide) (by decide) k
  show own_G (T162.setTop (mkF m 27 #[oA r, oI (0 : Int32), oI (1 : Int32), oJ (0 : Int64), oS, oI (1 : Int32)] []))
  exact own_retV X162 hx hlk hret (hb hby d12_27) (by rw [e162]; exact ⟨rfl, N162, K165, V162⟩) (by decide) (by decide)
theorem d10_0 : decode prog_78_method_5_code 0 = .ok (.aload_n 0, 1) := by decide +kernel
theorem d10_1 : decode prog_78_method_5_code 1 = .ok (.getfield 16, 3) := by decide +kernel
theorem d10_4 : decode prog_78_method_5_code 4 = .ok (.ifCond .ne 8, 3) := by decide +kernel
theorem d10_7 : decode prog_78_method_5_code 7 = .ok (.iconst 0, 1) := by decide +kernel
theorem d10_8 : decode prog_78_method_5_code 8 = .ok (.istore_n 1, 1) := by decide +kernel
theorem d10_9 : decode prog_78_method_5_code 9 = .ok (.goto 25, 3) := by decide +kernel
theorem d10_12 : decode prog_78_method_5_code 12 = .ok (.aload_n 0, 1) := by decide +kernel
theorem d10_13 : decode prog_78_method_5_code 13 = .ok (.getfield 13, 3) := by decide +kernel
theorem d10_16 : decode prog_78_method_5_code 16 = .ok (.aload_n 0, 1) := by decide +kernel
theorem d10_17 : decode prog_78_method_5_code 17 = .ok (.getfield 16, 3) := by decide +kernel
theorem d10_20 : decode prog_78_method_5_code 20 = .ok (.iconst 1, 1) := by decide +kernel
theorem d10_21 : decode prog_78_method_5_code 21 = .ok (.isub, 1) := by decide +kernel
theorem d10_22 : decode prog_78_method_5_code 22 = .ok (.laload, 1) := by decide +kernel
theorem d10_23 : decode prog_78_method_5_code 23 = .ok (.lconst 0, 1) := by decide +kernel
theorem d10_24 : decode prog_78_method_5_code 24 = .ok (.lcmp, 1) := by decide +kernel
theorem d10_25 : decode prog_78_method_5_code 25 = .ok (.ifCond .ge 7, 3) := by decide +kernel
theorem d10_28 : decode prog_78_method_5_code 28 = .ok (.iconst (-1), 1) := by decide +kernel
theorem d10_29 : decode prog_78_method_5_code 29 = .ok (.goto 4, 3) := by decide +kernel
theorem d10_32 : decode prog_78_method_5_code 32 = .ok (.iconst 1, 1) := by decide +kernel
theorem d10_33 : decode prog_78_method_5_code 33 = .ok (.istore_n 1, 1) := by decide +kernel
theorem d10_34 : decode prog_78_method_5_code 34 = .ok (.iload_n 1, 1) := by decide +kernel
theorem d10_35 : decode prog_78_method_5_code 35 = .ok (.ireturn, 1) := by decide +kernel
theorem own_ef_rmsg0 (m : MethodId) (x0 : Addr) : entryFrame m #[(.ref x0)] 2 = mkF m 0 #[oA x0, .unset] [] := by first | (simp [entryFrame, mkF, argsToLocals, Value.category]; done) | rfl
theorem rmsg0 (l : Launch) (Z : State) (a0 : Array Value) (hw : own_W Z a0) (ws : List Jvm.Cond) (a : Addr) (h0 : Heap) (n0 : Nat) (Z0 : n0 ≤ h0.size) (Fl : Fld Z h0 a "com/example/eventweir/eventweir/ExactSum" "length" "I" (.int (0 : Int32))) :
    own_M l Z (⟨"com/example/eventweir/eventweir/ExactSum", "signum", "()I"⟩ : MethodName) prog_78_method_5_code 2 (some .int) ws ({ frames := 0, cells := 0, slots := 0, locals := 0 } : Room) #[(.ref a)] h0 (own_Q_sg Z (0 : Int32) h0 n0) := by
  refine own_body (plainFor_of_name own_pn0) ?_
  intro p e s m below meth c s₁ hx hZ hby hml hown hnm hlk hret X0 e0
  have N0 := Fr.nil n0
  refine up (U' := s₁.setTop (mkF m 0 #[oA a, oU] [])) ?_ (fun t k => castTop (own_ef_rmsg0 m a) k)
  refine up ?_ fun t k => XS.aloadN X0.here hx rfl (hb hby d10_0) rfl rfl k
  show own_G (s₁.setTop (mkF m 1 #[oA a, oU] [(.ref a)]))
  obtain ⟨T166, X166, e166, st166⟩ := getF X0 hx hZ hown (host := "") (Or.inl (hw _ (own_m 20 rfl))) Via.refl e0 Fl (g := (mkF m 1 #[oA a, oU] [(.ref a)])) rfl rfl (hb hby d10_1)
  refine up ?_ st166
  show own_G (T166.setTop (mkF m 4 #[oA a, oU] [(.int (0 : Int32))]))
  refine up ?_ fun t k => XS.ifNo X166.here hx rfl (hb hby d10_4) rfl ((if0 _ _).trans (teq (by decide : ((0 : Int32) = (0 : Int32)))).2) (XS.iconst X166.here hx rfl (hb hby d10_7) (XS.istoreN X166.here hx rfl (hb hby d10_8) rfl (l' := #[oA a, oI (0 : Int32)]) rfl (XS.goto X166.here hx rfl (pc0 := 9) (pc' := 34) rfl (hb hby d10_9) (by decide) (by decide) (XS.iloadN X166.here hx rfl (hb hby d10_34) rfl k))))
  show own_G (T166.setTop (mkF m 35 #[oA a, oI (0 : Int32)] [(.int (0 : Int32))]))
  exact own_retI X166 hx hlk hret (by simp) rfl (hb hby d10_35) ⟨rfl, N0, e166⟩ (by decide) (by decide)
theorem rmsg2 (l : Launch) (Z : State) (a0 : Array Value) (hw : own_W Z a0) (ws : List Jvm.Cond) (a : Addr) (r : Addr) (kr : ClassId) (zc : Int32) (pw : Int32) (tl : List Value) (x0 : Int64) (x1 : Int64) (x2 : Int64) (h0 : Heap) (n0 : Nat) (Z0 : n0 ≤ h0.size) (O0 : own_O Z h0 a r kr zc (2 : Int32) pw ((.long x0) :: (.long x1) :: (.long x2) :: tl)) (g_a : n0 ≤ a) (g_r : n0 ≤ r) (hc : own_cap zc tl) :
    own_M l Z (⟨"com/example/eventweir/eventweir/ExactSum", "signum", "()I"⟩ : MethodName) prog_78_method_5_code 2 (some .int) ws ({ frames := 0, cells := 0, slots := 0, locals := 0 } : Room) #[(.ref a)] h0 (own_Q_sg Z (if x1 < (0 : Int64) then (-1 : Int32) else (1 : Int32)) h0 n0) := by
  refine own_body (plainFor_of_name own_pn0) ?_
  intro p e s m below meth c s₁ hx hZ hby hml hown hnm hlk hret X0 e0
  have N0 := Fr.nil n0
  obtain ⟨E_a, Fw, Fl, Fp, V⟩ := O0
  have ne_ar : a ≠ r := E_a.neArv V (hw _ (own_m 3 rfl))
  refine up (U' := s₁.setTop (mkF m 0 #[oA a, oU] [])) ?_ (fun t k => castTop (own_ef_rmsg0 m a) k)
  refine up ?_ fun t k => XS.aloadN X0.here hx rfl (hb hby d10_0) rfl rfl k
  show own_G (s₁.setTop (mkF m 1 #[oA a, oU] [(.ref a)]))
  obtain ⟨T167, X167, e167, st167⟩ := getF X0 hx hZ hown (host := "") (Or.inl (hw _ (own_m 20 rfl))) Via.refl e0 Fl (g := (mkF m 1 #[oA a, oU] [(.ref a)])) rfl rfl (hb hby d10_1)
  refine up ?_ st167
  show own_G (T167.setTop (mkF m 4 #[oA a, oU] [(.int (2 : Int32))]))
  refine up ?_ fun t k => XS.ifYes X167.here hx rfl (pc0 := 4) (pc' := 12) rfl (hb hby d10_4) rfl ((if0 _ _).trans (feq (by decide : ¬ ((2 : Int32) = (0 : Int32)))).2) (by decide) (by decide) (XS.aloadN X167.here hx rfl (hb hby d10_12) rfl rfl k)
  show own_G (T167.setTop (mkF m 13 #[oA a, oU] [(.ref a)]))
  obtain ⟨T168, X168, e168, st168⟩ := getF X167 hx hZ hown (host := "") (Or.inl (hw _ (own_m 13 rfl))) Via.refl e167 Fw (g := (mkF m 13 #[oA a, oU] [(.ref a)])) rfl rfl (hb hby d10_13)
  refine up ?_ st168
  show own_G (T168.setTop (mkF m 16 #[oA a, oU] [(.ref r)]))
  refine up ?_ fun t k => XS.aloadN X168.here hx rfl (hb hby d10_16) rfl rfl k
  show own_G (T168.setTop (mkF m 17 #[oA a, oU] [(.ref a), (.ref r)]))
  obtain ⟨T169, X169, e169, st169⟩ := getF X168 hx hZ hown (host := "") (Or.inl (hw _ (own_m 20 rfl))) Via.refl e168 Fl (g := (mkF m 17 #[oA a, oU] [(.ref a), (.ref r)])) rfl rfl (hb hby d10_17)
  refine up ?_ st169
  show own_G (T169.setTop (mkF m 20 #[oA a, oU] [(.int (2 : Int32)), (.ref r)]))
  refine up ?_ fun t k => XS.iconst X169.here hx rfl (hb hby d10_20) (XS.isub X169.here hx rfl (hb hby d10_21) rfl k)
  show own_G (T169.setTop (mkF m 22 #[oA a, oU] [(.int (1 : Int32)), (.ref r)]))
  obtain ⟨cl170, Ar170, qa170, Sa170, Na170, Ha170, Ga170⟩ := id V
  have hin170 : ¬ ((1 : Int32) < 0 ∨ cl170.slots.size ≤ ((1 : Int32)).toNatClampNeg) := inb_of Sa170 ⟨by decide, own_i1 hc⟩
  refine up ?_ fun t k => X169.laload hx (j := (1 : Int32)) (v := (.long x1)) (by rw [e169]; exact Ar170.1) (State.isArrayOf_alike hZ.alike Ar170.2.1) Ar170.2.2 hin170 (Ha170.at hin170 rfl) (g := (mkF m 22 #[oA a, oU] [(.int (1 : Int32)), (.ref r)])) rfl rfl (hb hby d10_22) _ (XS.lconst X169.here hx rfl (hb hby d10_23) (XS.lcmp X169.here hx rfl (hb hby d10_24) rfl k))
  show own_G (T169.setTop (mkF m 25 #[oA a, oU] [(.int (lcmpW x1 (0 : Int64)))]))
  by_cases hc25_171 : x1 < (0 : Int64)
  · refine up ?_ fun t k => XS.ifNo X169.here hx rfl (hb hby d10_25) rfl ((if0 _ _).trans (tlt ((lw_lt _ _).mpr hc25_171)).2.1) (XS.iconst X169.here hx rfl (hb hby d10_28) (XS.goto X169.here hx rfl (pc0 := 29) (pc' := 33) rfl (hb hby d10_29) (by decide) (by decide) (XS.istoreN X169.here hx rfl (hb hby d10_33) rfl (l' := #[oA a, oI (-1 : Int32)]) rfl (XS.iloadN X169.here hx rfl (hb hby d10_34) rfl k))))
    show own_G (T169.setTop (mkF m 35 #[oA a, oI (-1 : Int32)] [(.int (-1 : Int32))]))
    exact own_retI X169 hx hlk hret (by simp) rfl (hb hby d10_35) ⟨congrArg (fun z => some (Value.int z)) (by simp only [if_pos hc25_171]), N0, e169⟩ (by decide) (by decide)
  · refine up ?_ fun t k => XS.ifYes X169.here hx rfl (pc0 := 25) (pc' := 32) rfl (hb hby d10_25) rfl ((if0 _ _).trans (flt (fun q => hc25_171 ((lw_lt _ _).mp q))).2.1) (by decide) (by decide) (XS.iconst X169.here hx rfl (hb hby d10_32) (XS.istoreN X169.here hx rfl (hb hby d10_33) rfl (l' := #[oA a, oI (1 : Int32)]) rfl (XS.iloadN X169.here hx rfl (hb hby d10_34) rfl k)))
    show own_G (T169.setTop (mkF m 35 #[oA a, oI (1 : Int32)] [(.int (1 : Int32))]))
    exact own_retI X169 hx hlk hret (by simp) rfl (hb hby d10_35) ⟨congrArg (fun z => some (Value.int z)) (by simp only [if_neg hc25_171]), N0, e169⟩ (by decide) (by decide)
theorem rmsg3 (l : Launch) (Z : State) (a0 : Array Value) (hw : own_W Z a0) (ws : List Jvm.Cond) (a : Addr) (r : Addr) (kr : ClassId) (zc : Int32) (pw : Int32) (tl : List Value) (x0 : Int64) (x1 : Int64) (x2 : Int64) (h0 : Heap) (n0 : Nat) (Z0 : n0 ≤ h0.size) (O0 : own_O Z h0 a r kr zc (3 : Int32) pw ((.long x0) :: (.long x1) :: (.long x2) :: tl)) (g_a : n0 ≤ a) (g_r : n0 ≤ r) (hc : own_cap zc tl) :
    own_M l Z (⟨"com/example/eventweir/eventweir/ExactSum", "signum", "()I"⟩ : MethodName) prog_78_method_5_code 2 (some .int) ws ({ frames := 0, cells := 0, slots := 0, locals := 0 } : Room) #[(.ref a)] h0 (own_Q_sg Z (if x2 < (0 : Int64) then (-1 : Int32) else (1 : Int32)) h0 n0) := by
  refine own_body (plainFor_of_name own_pn0) ?_
  intro p e s m below meth c s₁ hx hZ hby hml hown hnm hlk hret X0 e0
  have N0 := Fr.nil n0
  obtain ⟨E_a, Fw, Fl, Fp, V⟩ := O0
  have ne_ar : a ≠ r := E_a.neArv V (hw _ (own_m 3 rfl))
  refine up (U' := s₁.setTop (mkF m 0 #[oA a, oU] [])) ?_ (fun t k => castTop (own_ef_rmsg0 m a) k)
  refine up ?_ fun t k => XS.aloadN X0.here hx rfl (hb hby d10_0) rfl rfl k
  show own_G (s₁.setTop (mkF m 1 #[oA a, oU] [(.ref a)]))
  obtain ⟨T172, X172, e172, st172⟩ := getF X0 hx hZ hown (host := "") (Or.inl (hw _ (own_m 20 rfl))) Via.refl e0 Fl (g := (mkF m 1 #[oA a, oU] [(.ref a)])) rfl rfl (hb hby d10_1)
  refine up ?_ st172
  show own_G (T172.setTop (mkF m 4 #[oA a, oU] [(.int (3 : Int32))]))
  refine up ?_ fun t k => XS.ifYes X172.here hx rfl (pc0 := 4) (pc' := 12) rfl (hb hby d10_4) rfl ((if0 _ _).trans (feq (by decide : ¬ ((3 : Int32) = (0 : Int32)))).2) (by decide) (by decide) (XS.aloadN X172.here hx rfl (hb hby d10_12) rfl rfl k)
  show own_G (T172.setTop (mkF m 13 #[oA a, oU] [(.ref a)]))
  obtain ⟨T173, X173, e173, st173⟩ := getF X172 hx hZ hown (host := "") (Or.inl (hw _ (own_m 13 rfl))) Via.refl e172 Fw (g := (mkF m 13 #[oA a, oU] [(.ref a)])) rfl rfl (hb hby d10_13)
  refine up ?_ st173
  show own_G (T173.setTop (mkF m 16 #[oA a, oU] [(.ref r)]))
  refine up ?_ fun t k => XS.aloadN X173.here hx rfl (hb hby d10_16) rfl rfl k
  show own_G (T173.setTop (mkF m 17 #[oA a, oU] [(.ref a), (.ref r)]))
  obtain ⟨T174, X174, e174, st174⟩ := getF X173 hx hZ hown (host := "") (Or.inl (hw _ (own_m 20 rfl))) Via.refl e173 Fl (g := (mkF m 17 #[oA a, oU] [(.ref a), (.ref r)])) rfl rfl (hb hby d10_17)
  refine up ?_ st174
  show own_G (T174.setTop (mkF m 20 #[oA a, oU] [(.int (3 : Int32)), (.ref r)]))
  refine up ?_ fun t k => XS.iconst X174.here hx rfl (hb hby d10_20) (XS.isub X174.here hx rfl (hb hby d10_21) rfl k)
  show own_G (T174.setTop (mkF m 22 #[oA a, oU] [(.int (2 : Int32)), (.ref r)]))
  obtain ⟨cl175, Ar175, qa175, Sa175, Na175, Ha175, Ga175⟩ := id V
  have hin175 : ¬ ((2 : Int32) < 0 ∨ cl175.slots.size ≤ ((2 : Int32)).toNatClampNeg) := inb_of Sa175 ⟨by decide, own_i2 hc⟩
  refine up ?_ fun t k => X174.laload hx (j := (2 : Int32)) (v := (.long x2)) (by rw [e174]; exact Ar175.1) (State.isArrayOf_alike hZ.alike Ar175.2.1) Ar175.2.2 hin175 (Ha175.at hin175 rfl) (g := (mkF m 22 #[oA a, oU] [(.int (2 : Int32)), (.ref r)])) rfl rfl (hb hby d10_22) _ (XS.lconst X174.here hx rfl (hb hby d10_23) (XS.lcmp X174.here hx rfl (hb hby d10_24) rfl k))
  show own_G (T174.setTop (mkF m 25 #[oA a, oU] [(.int (lcmpW x2 (0 : Int64)))]))
  by_cases hc25_176 : x2 < (0 : Int64)
  · refine up ?_ fun t k => XS.ifNo X174.here hx rfl (hb hby d10_25) rfl ((if0 _ _).trans (tlt ((lw_lt _ _).mpr hc25_176)).2.1) (XS.iconst X174.here hx rfl (hb hby d10_28) (XS.goto X174.here hx rfl (pc0 := 29) (pc' := 33) rfl (hb hby d10_29) (by decide) (by decide) (XS.istoreN X174.here hx rfl (hb hby d10_33) rfl (l' := #[oA a, oI (-1 : Int32)]) rfl (XS.iloadN X174.here hx rfl (hb hby d10_34) rfl k))))
    show own_G (T174.setTop (mkF m 35 #[oA a, oI (-1 : Int32)] [(.int (-1 : Int32))]))
    exact own_retI X174 hx hlk hret (by simp) rfl (hb hby d10_35) ⟨congrArg (fun z => some (Value.int z)) (by simp only [if_pos hc25_176]), N0, e174⟩ (by decide) (by decide)
  · refine up ?_ fun t k => XS.ifYes X174.here hx rfl (pc0 := 25) (pc' := 32) rfl (hb hby d10_25) rfl ((if0 _ _).trans (flt (fun q => hc25_176 ((lw_lt _ _).mp q))).2.1) (by decide) (by decide) (XS.iconst X174.here hx rfl (hb hby d10_32) (XS.istoreN X174.here hx rfl (hb hby d10_33) rfl (l' := #[oA a, oI (1 : Int32)]) rfl (XS.iloadN X174.here hx rfl (hb hby d10_34) rfl k)))
    show own_G (T174.setTop (mkF m 35 #[oA a, oI (1 : Int32)] [(.int (1 : Int32))]))
    exact own_retI X174 hx hlk hret (by simp) rfl (hb hby d10_35) ⟨congrArg (fun z => some (Value.int z)) (by simp only [if_neg hc25_176]), N0, e174⟩ (by decide) (by decide)
theorem d1_0 : decode prog_78_method_1_code 0 = .ok (.aload_n 0, 1) := by decide +kernel
theorem d1_1 : decode prog_78_method_1_code 1 = .ok (.invokespecial 1, 3) := by decide +kernel
theorem d1_4 : decode prog_78_method_1_code 4 = .ok (.aload_n 0, 1) := by decide +kernel
theorem d1_5 : decode prog_78_method_1_code 5 = .ok (.getstatic 7, 3) := by decide +kernel
theorem d1_8 : decode prog_78_method_1_code 8 = .ok (.putfield 13, 3) := by decide +kernel
theorem d1_11 : decode prog_78_method_1_code 11 = .ok (.return_, 1) := by decide +kernel
theorem own_ef_rmin (m : MethodId) (x0 : Addr) : entryFrame m #[(.ref x0)] 1 = mkF m 0 #[oA x0] [] := by first | (simp [entryFrame, mkF, argsToLocals, Value.category]; done) | rfl
def own_Q_rmin (Z : State) (a : Addr) (rn : Addr) (u1 : Value) (h0 : Heap) (n0 : Nat) (v : Option Value) (h : Heap) (L : List Loc) : Prop := v = none ∧ Fr n0 L ∧ Keep h0 h [a] ∧ Fld Z h a "com/example/eventweir/eventweir/ExactSum" "words" "[J" (.ref rn) ∧ Fld Z h a "com/example/eventweir/eventweir/ExactSum" "length" "I" (.int (0 : Int32)) ∧ Fld Z h a "com/example/eventweir/eventweir/ExactSum" "power" "I" (.int (0 : Int32))
theorem rmin (l : Launch) (Z : State) (a0 : Array Value) (hw : own_W Z a0) (ws : List Jvm.Cond) (a : Addr) (rn : Addr) (u1 : Value) (h0 : Heap) (n0 : Nat) (Z0 : n0 ≤ h0.size) (E_a : Exa Z h0 a "com/example/eventweir/eventweir/ExactSum") (Fw : Fld Z h0 a "com/example/eventweir/eventweir/ExactSum" "words" "[J" u1) (Fl : Fld Z h0 a "com/example/eventweir/eventweir/ExactSum" "length" "I" (.int (0 : Int32))) (Fp : Fld Z h0 a "com/example/eventweir/eventweir/ExactSum" "power" "I" (.int (0 : Int32))) (Sn : Sta Z h0 "com/example/eventweir/eventweir/ExactSum" "NONE" "[J" (.ref rn)) (g_a : n0 ≤ a) :
    own_M l Z (⟨"com/example/eventweir/eventweir/ExactSum", "<init>", "()V"⟩ : MethodName) prog_78_method_1_code 1 none ws ({ frames := 1, cells := 0, slots := 0, locals := 12 } : Room) #[(.ref a)] h0 (own_Q_rmin Z a rn u1 h0 n0) := by
  refine own_body (plainFor_of_name own_pn0) ?_
  intro p e s m below meth c s₁ hx hZ hby hml hown hnm hlk hret X0 e0
  have N0 := Fr.nil n0
  have K0 := Keep.refl h0 [a]
  refine up (U' := s₁.setTop (mkF m 0 #[oA a] [])) ?_ (fun t k => castTop (own_ef_rmin m a) k)
  refine up ?_ fun t k => XS.aloadN X0.here hx rfl (hb hby d1_0) rfl rfl k
  show own_G (s₁.setTop (mkF m 1 #[oA a] [(.ref a)]))
  obtain ⟨T177, X177, e177, st177⟩ := initO X0 hx hZ hown (hw _ (own_m 8 rfl)) (hw _ (own_m 9 rfl)) (hw _ (own_m 10 rfl)) e0 (g := (mkF m 1 #[oA a] [(.ref a)])) rfl (by rw [hml]; rfl) rfl (hb hby d1_1) (by decide) (W := 0) (by show 2 * 0 + _ ≤ _; exact Nat.le_of_eq rfl) (by decide)
  refine up ?_ st177
  show own_G (T177.setTop (mkF m 4 #[oA a] []))
  refine up ?_ fun t k => XS.aloadN X177.here hx rfl (hb hby d1_4) rfl rfl k
  show own_G (T177.setTop (mkF m 5 #[oA a] [(.ref a)]))
  obtain ⟨T178, X178, e178, st178⟩ := getS2 X177 hx hZ hown (host := "") (Or.inl (hw _ (own_m 11 rfl))) Via.refl e177 Sn (g := (mkF m 5 #[oA a] [(.ref a)])) rfl (hb hby d1_5)
  refine up ?_ st178
  show own_G (T178.setTop (mkF m 8 #[oA a] [(.ref rn), (.ref a)]))
  obtain ⟨T179, h179, X179, e179, W179, st179⟩ := putF X178 hx hZ hown (host := "") (Or.inl (hw _ (own_m 13 rfl))) Via.refl e178 Fw E_a (Or.inl (hw _ (own_m 14 rfl))) (hw _ (own_m 3 rfl)) (ty := (.array .long)) (by decide) rfl rfl (g := (mkF m 8 #[oA a] [(.ref rn), (.ref a)])) rfl rfl (hb hby d1_8)
  refine up ?_ st179
  have E_a_c180 := E_a.wr W179
  have Fl_c180 := Fl.other W179 (Or.inr (slot_ne (Or.inl (hw _ (own_m 21 rfl))) (Or.inl (hw _ (own_m 14 rfl))) (by decide) (t := .int) (t' := (.array .long)) (by decide) (by decide)))
  have Fp_c180 := Fp.other W179 (Or.inr (slot_ne (Or.inl (hw _ (own_m 23 rfl))) (Or.inl (hw _ (own_m 14 rfl))) (by decide) (t := .int) (t' := (.array .long)) (by decide) (by decide)))
  have Sn_c180 := Sn.wr W179
  have F179 := Fw.same W179
  have N179 := Fr.snoc X179 N0 g_a
  have Zs181 : n0 ≤ h179.size := Nat.le_trans Z0 (Keep.of_wr W179).1
  have K182 : Keep h0 h179 [a] := K0.wr W179 (Or.inl (List.mem_of_getElem? (i := 0) rfl))
  show own_G (T179.setTop (mkF m 11 #[oA a] []))
  exact own_retV X179 hx hlk hret (hb hby d1_11) (by rw [e179]; exact ⟨rfl, N179, K182, F179, Fl_c180, Fp_c180⟩) (by decide) (by decide)
theorem d11_0 : decode prog_78_method_13_code 0 = .ok (.iload_n 1, 1) := by decide +kernel
theorem d11_1 : decode prog_78_method_13_code 1 = .ok (.bipush 6, 2) := by decide +kernel
theorem d11_3 : decode prog_78_method_13_code 3 = .ok (.iushr, 1) := by decide +kernel
theorem d11_4 : decode prog_78_method_13_code 4 = .ok (.istore_n 2, 1) := by decide +kernel
theorem d11_5 : decode prog_78_method_13_code 5 = .ok (.iload_n 1, 1) := by decide +kernel
theorem d11_6 : decode prog_78_method_13_code 6 = .ok (.bipush 63, 2) := by decide +kernel
theorem d11_8 : decode prog_78_method_13_code 8 = .ok (.iand, 1) := by decide +kernel
theorem d11_9 : decode prog_78_method_13_code 9 = .ok (.istore_n 3, 1) := by decide +kernel
theorem d11_10 : decode prog_78_method_13_code 10 = .ok (.aload_n 0, 1) := by decide +kernel
theorem d11_11 : decode prog_78_method_13_code 11 = .ok (.getfield 16, 3) := by decide +kernel
theorem d11_14 : decode prog_78_method_13_code 14 = .ok (.iload_n 2, 1) := by decide +kernel
theorem d11_15 : decode prog_78_method_13_code 15 = .ok (.iadd, 1) := by decide +kernel
theorem d11_16 : decode prog_78_method_13_code 16 = .ok (.iconst 1, 1) := by decide +kernel
theorem d11_17 : decode prog_78_method_13_code 17 = .ok (.iadd, 1) := by decide +kernel
theorem d11_18 : decode prog_78_method_13_code 18 = .ok (.istore 4, 2) := by decide +kernel
theorem d11_20 : decode prog_78_method_13_code 20 = .ok (.aload_n 0, 1) := by decide +kernel
theorem d11_21 : decode prog_78_method_13_code 21 = .ok (.getfield 13, 3) := by decide +kernel
theorem d11_24 : decode prog_78_method_13_code 24 = .ok (.aload_n 0, 1) := by decide +kernel
theorem d11_25 : decode prog_78_method_13_code 25 = .ok (.getfield 16, 3) := by decide +kernel
theorem d11_28 : decode prog_78_method_13_code 28 = .ok (.iconst 1, 1) := by decide +kernel
theorem d11_29 : decode prog_78_method_13_code 29 = .ok (.isub, 1) := by decide +kernel
theorem d11_30 : decode prog_78_method_13_code 30 = .ok (.laload, 1) := by decide +kernel
theorem d11_31 : decode prog_78_method_13_code 31 = .ok (.bipush 63, 2) := by decide +kernel
theorem d11_33 : decode prog_78_method_13_code 33 = .ok (.lshr, 1) := by decide +kernel
theorem d11_34 : decode prog_78_method_13_code 34 = .ok (.lstore 5, 2) := by decide +kernel
theorem d11_36 : decode prog_78_method_13_code 36 = .ok (.aload_n 0, 1) := by decide +kernel
theorem d11_37 : decode prog_78_method_13_code 37 = .ok (.getfield 13, 3) := by decide +kernel
theorem d11_40 : decode prog_78_method_13_code 40 = .ok (.arraylength, 1) := by decide +kernel
theorem d11_41 : decode prog_78_method_13_code 41 = .ok (.iload 4, 2) := by decide +kernel
theorem d11_43 : decode prog_78_method_13_code 43 = .ok (.if_icmp .ge 10, 3) := by decide +kernel
theorem d11_46 : decode prog_78_method_13_code 46 = .ok (.iload 4, 2) := by decide +kernel
theorem d11_48 : decode prog_78_method_13_code 48 = .ok (.newarray .long, 2) := by decide +kernel
theorem d11_50 : decode prog_78_method_13_code 50 = .ok (.goto 7, 3) := by decide +kernel
theorem d11_53 : decode prog_78_method_13_code 53 = .ok (.aload_n 0, 1) := by decide +kernel
theorem d11_54 : decode prog_78_method_13_code 54 = .ok (.getfield 13, 3) := by decide +kernel
theorem d11_57 : decode prog_78_method_13_code 57 = .ok (.astore 7, 2) := by decide +kernel
theorem d11_59 : decode prog_78_method_13_code 59 = .ok (.aload_n 0, 1) := by decide +kernel
theorem d11_60 : decode prog_78_method_13_code 60 = .ok (.getfield 16, 3) := by decide +kernel
theorem d11_63 : decode prog_78_method_13_code 63 = .ok (.istore 8, 2) := by decide +kernel
theorem d11_65 : decode prog_78_method_13_code 65 = .ok (.iload 8, 2) := by decide +kernel
theorem d11_67 : decode prog_78_method_13_code 67 = .ok (.ifCond .lt 73, 3) := by decide +kernel
theorem d11_70 : decode prog_78_method_13_code 70 = .ok (.iload 8, 2) := by decide +kernel
theorem d11_72 : decode prog_78_method_13_code 72 = .ok (.aload_n 0, 1) := by decide +kernel
theorem d11_73 : decode prog_78_method_13_code 73 = .ok (.getfield 16, 3) := by decide +kernel
theorem d11_76 : decode prog_78_method_13_code 76 = .ok (.if_icmp .ge 13, 3) := by decide +kernel
theorem d11_79 : decode prog_78_method_13_code 79 = .ok (.aload_n 0, 1) := by decide +kernel
theorem d11_80 : decode prog_78_method_13_code 80 = .ok (.getfield 13, 3) := by decide +kernel
theorem d11_83 : decode prog_78_method_13_code 83 = .ok (.iload 8, 2) := by decide +kernel
theorem d11_85 : decode prog_78_method_13_code 85 = .ok (.laload, 1) := by decide +kernel
theorem d11_86 : decode prog_78_method_13_code 86 = .ok (.goto 5, 3) := by decide +kernel
theorem d11_89 : decode prog_78_method_13_code 89 = .ok (.lload 5, 2) := by decide +kernel
theorem d11_91 : decode prog_78_method_13_code 91 = .ok (.lstore 9, 2) := by decide +kernel
theorem d11_93 : decode prog_78_method_13_code 93 = .ok (.iload 8, 2) := by decide +kernel
theorem d11_95 : decode prog_78_method_13_code 95 = .ok (.ifCond .ne 7, 3) := by decide +kernel
theorem d11_98 : decode prog_78_method_13_code 98 = .ok (.lconst 0, 1) := by decide +kernel
theorem d11_99 : decode prog_78_method_13_code 99 = .ok (.goto 12, 3) := by decide +kernel
theorem d11_102 : decode prog_78_method_13_code 102 = .ok (.aload_n 0, 1) := by decide +kernel
theorem d11_103 : decode prog_78_method_13_code 103 = .ok (.getfield 13, 3) := by decide +kernel
theorem d11_106 : decode prog_78_method_13_code 106 = .ok (.iload 8, 2) := by decide +kernel
theorem d11_108 : decode prog_78_method_13_code 108 = .ok (.iconst 1, 1) := by decide +kernel
theorem d11_109 : decode prog_78_method_13_code 109 = .ok (.isub, 1) := by decide +kernel
theorem d11_110 : decode prog_78_method_13_code 110 = .ok (.laload, 1) := by decide +kernel
theorem d11_111 : decode prog_78_method_13_code 111 = .ok (.lstore 11, 2) := by decide +kernel
theorem d11_113 : decode prog_78_method_13_code 113 = .ok (.aload 7, 2) := by decide +kernel
theorem d11_115 : decode prog_78_method_13_code 115 = .ok (.iload 8, 2) := by decide +kernel
theorem d11_117 : decode prog_78_method_13_code 117 = .ok (.iload_n 2, 1) := by decide +kernel
theorem d11_118 : decode prog_78_method_13_code 118 = .ok (.iadd, 1) := by decide +kernel
theorem d11_119 : decode prog_78_method_13_code 119 = .ok (.lload 9, 2) := by decide +kernel
theorem d11_121 : decode prog_78_method_13_code 121 = .ok (.iload_n 3, 1) := by decide +kernel
theorem d11_122 : decode prog_78_method_13_code 122 = .ok (.lshl, 1) := by decide +kernel
theorem d11_123 : decode prog_78_method_13_code 123 = .ok (.lload 11, 2) := by decide +kernel
theorem d11_125 : decode prog_78_method_13_code 125 = .ok (.iconst 1, 1) := by decide +kernel
theorem d11_126 : decode prog_78_method_13_code 126 = .ok (.lushr, 1) := by decide +kernel
theorem d11_127 : decode prog_78_method_13_code 127 = .ok (.bipush 63, 2) := by decide +kernel
theorem d11_129 : decode prog_78_method_13_code 129 = .ok (.iload_n 3, 1) := by decide +kernel
theorem d11_130 : decode prog_78_method_13_code 130 = .ok (.isub, 1) := by decide +kernel
theorem d11_131 : decode prog_78_method_13_code 131 = .ok (.lushr, 1) := by decide +kernel
theorem d11_132 : decode prog_78_method_13_code 132 = .ok (.lor, 1) := by decide +kernel
theorem d11_133 : decode prog_78_method_13_code 133 = .ok (.lastore, 1) := by decide +kernel
theorem d11_134 : decode prog_78_method_13_code 134 = .ok (.iinc 8 (-1), 3) := by decide +kernel
theorem d11_137 : decode prog_78_method_13_code 137 = .ok (.goto (-72), 3) := by decide +kernel
theorem d11_140 : decode prog_78_method_13_code 140 = .ok (.aload 7, 2) := by decide +kernel
theorem d11_142 : decode prog_78_method_13_code 142 = .ok (.iconst 0, 1) := by decide +kernel
theorem d11_143 : decode prog_78_method_13_code 143 = .ok (.iload_n 2, 1) := by decide +kernel
theorem d11_144 : decode prog_78_method_13_code 144 = .ok (.lconst 0, 1) := by decide +kernel
theorem d11_145 : decode prog_78_method_13_code 145 = .ok (.invokestatic 110, 3) := by decide +kernel
theorem d11_148 : decode prog_78_method_13_code 148 = .ok (.aload_n 0, 1) := by decide +kernel
theorem d11_149 : decode prog_78_method_13_code 149 = .ok (.aload 7, 2) := by decide +kernel
theorem d11_151 : decode prog_78_method_13_code 151 = .ok (.putfield 13, 3) := by decide +kernel
theorem d11_154 : decode prog_78_method_13_code 154 = .ok (.aload_n 0, 1) := by decide +kernel
theorem d11_155 : decode prog_78_method_13_code 155 = .ok (.iload 4, 2) := by decide +kernel
theorem d11_157 : decode prog_78_method_13_code 157 = .ok (.putfield 16, 3) := by decide +kernel
theorem d11_160 : decode prog_78_method_13_code 160 = .ok (.return_, 1) := by decide +kernel
theorem own_ef_rmsA (m : MethodId) (x0 : Addr) (x1 : Int32) : entryFrame m #[(.ref x0), (.int x1)] 13 = mkF m 0 #[oA x0, oI x1, .unset, .unset, .unset, .unset, .unset, .unset, .unset, .unset, .unset, .unset, .unset] [] := by first | (simp [entryFrame, mkF, argsToLocals, Value.category]; done) | rfl
def own_Q_rmsA (Z : State) (a : Addr) (bits : Int32) (r : Addr) (kr : ClassId) (zc : Int32) (pw : Int32) (tl : List Value) (x0 : Int64) (x1 : Int64) (x2 : Int64) (bs : Int32) (h0 : Heap) (n0 : Nat) (v : Option Value) (h : Heap) (L : List Loc) : Prop := v = none ∧ Fr n0 L ∧ h0.size ≤ h.size ∧ own_O Z h a r kr zc (3 : Int32) pw ((.long (own_s2 x0 (0 : Int64) bs)) :: (.long (own_s2 x1 x0 bs)) :: (.long (own_s2 (own_sg x1) x1 bs)) :: tl)
theorem rmsA (l : Launch) (Z : State) (a0 : Array Value) (hw : own_W Z a0) (ws : List Jvm.Cond) (a : Addr) (bits : Int32) (r : Addr) (kr : ClassId) (zc : Int32) (pw : Int32) (tl : List Value) (x0 : Int64) (x1 : Int64) (x2 : Int64) (bs : Int32) (h0 : Heap) (n0 : Nat) (Z0 : n0 ≤ h0.size) (O0 : own_O Z h0 a r kr zc (2 : Int32) pw ((.long x0) :: (.long x1) :: (.long x2) :: tl)) (g_a : n0 ≤ a) (g_r : n0 ≤ r) (hc : own_cap zc tl) (hws : ((bits.toUInt32 >>> ((6 : Int32) &&& 31).toUInt32).toInt32) = (0 : Int32)) (hbs : (bits &&& (63 : Int32)) = bs) :
    own_M l Z (⟨"com/example/eventweir/eventweir/ExactSum", "shiftUp", "(I)V"⟩ : MethodName) prog_78_method_13_code 13 none ws ({ frames := 2, cells := 0, slots := 0, locals := 31 } : Room) #[(.ref a), (.int bits)] h0 (own_Q_rmsA Z a bits r kr zc pw tl x0 x1 x2 bs h0 n0) := by
  refine own_body (plainFor_of_name own_pn0) ?_
  intro p e s m below meth c s₁ hx hZ hby hml hown hnm hlk hret X0 e0
  have N0 := Fr.nil n0
  obtain ⟨E_a, Fw, Fl, Fp, V⟩ := O0
  have ne_ar : a ≠ r := E_a.neArv V (hw _ (own_m 3 rfl))
  refine up (U' := s₁.setTop (mkF m 0 #[oA a, oI bits, oU, oU, oU, oU, oU, oU, oU, oU, oU, oU, oU] [])) ?_ (fun t k => castTop (own_ef_rmsA m a bits) k)
  refine up ?_ fun t k => XS.iloadN X0.here hx rfl (hb hby d11_0) rfl (XS.bipush X0.here hx rfl (hb hby d11_1) (XS.iushr X0.here hx rfl (hb hby d11_3) rfl (XS.istoreN X0.here hx rfl (hb hby d11_4) rfl (l' := #[oA a, oI bits, oI ((bits.toUInt32 >>> ((6 : Int32) &&& 31).toUInt32).toInt32), oU, oU, oU, oU, oU, oU, oU, oU, oU, oU]) rfl k)))
  show own_G (s₁.setTop (mkF m 5 #[oA a, oI bits, oI ((bits.toUInt32 >>> ((6 : Int32) &&& 31).toUInt32).toInt32), oU, oU, oU, oU, oU, oU, oU, oU, oU, oU] []))
  rw [hws]
  show own_G (s₁.setTop (mkF m 5 #[oA a, oI bits, oI (0 : Int32), oU, oU, oU, oU, oU, oU, oU, oU, oU, oU] []))
  refine up ?_ fun t k => XS.iloadN X0.here hx rfl (hb hby d11_5) rfl (XS.bipush X0.here hx rfl (hb hby d11_6) (XS.iand X0.here hx rfl (hb hby d11_8) rfl (XS.istoreN X0.here hx rfl (hb hby d11_9) rfl (l' := #[oA a, oI bits, oI (0 : Int32), oI (bits &&& (63 : Int32)), oU, oU, oU, oU, oU, oU, oU, oU, oU]) rfl k)))
  show own_G (s₁.setTop (mkF m 10 #[oA a, oI bits, oI (0 : Int32), oI (bits &&& (63 : Int32)), oU, oU, oU, oU, oU, oU, oU, oU, oU] []))
  rw [hbs]
  show own_G (s₁.setTop (mkF m 10 #[oA a, oI bits, oI (0 : Int32), oI bs, oU, oU, oU, oU, oU, oU, oU, oU, oU] []))
  refine up ?_ fun t k => XS.aloadN X0.here hx rfl (hb hby d11_10) rfl rfl k
  show own_G (s₁.setTop (mkF m 11 #[oA a, oI bits, oI (0 : Int32), oI bs, oU, oU, oU, oU, oU, oU, oU, oU, oU] [(.ref a)]))
  obtain ⟨T183, X183, e183, st183⟩ := getF X0 hx hZ hown (host := "") (Or.inl (hw _ (own_m 20 rfl))) Via.refl e0 Fl (g := (mkF m 11 #[oA a, oI bits, oI (0 : Int32), oI bs, oU, oU, oU, oU, oU, oU, oU, oU, oU] [(.ref a)])) rfl rfl (hb hby d11_11)
  refine up ?_ st183
  show own_G (T183.setTop (mkF m 14 #[oA a, oI bits, oI (0 : Int32), oI bs, oU, oU, oU, oU, oU, oU, oU, oU, oU] [(.int (2 : Int32))]))
  refine up ?_ fun t k => XS.iloadN X183.here hx rfl (hb hby d11_14) rfl (XS.iadd X183.here hx rfl (hb hby d11_15) rfl (XS.iconst X183.here hx rfl (hb hby d11_16) (XS.iadd X183.here hx rfl (hb hby d11_17) rfl (XS.istore X183.here hx rfl (hb hby d11_18) rfl (l' := #[oA a, oI bits, oI (0 : Int32), oI bs, oI (3 : Int32), oU, oU, oU, oU, oU, oU, oU, oU]) rfl (XS.aloadN X183.here hx rfl (hb hby d11_20) rfl rfl k)))))
  show own_G (T183.setTop (mkF m 21 #[oA a, oI bits, oI (0 : Int32), oI bs, oI (3 : Int32), oU, oU, oU, oU, oU, oU, oU, oU] [(.ref a)]))
  obtain ⟨T184, X184, e184, st184⟩ := getF X183 hx hZ hown (host := "") (Or.inl (hw _ (own_m 13 rfl))) Via.refl e183 Fw (g := (mkF m 21 #[oA a, oI bits, oI (0 : Int32), oI bs, oI (3 : Int32), oU, oU, oU, oU, oU, oU, oU, oU] [(.ref a)])) rfl rfl (hb hby d11_21)
  refine up ?_ st184
  show own_G (T184.setTop (mkF m 24 #[oA a, oI bits, oI (0 : Int32), oI bs, oI (3 : Int32), oU, oU, oU, oU, oU, oU, oU, oU] [(.ref r)]))
  refine up ?_ fun t k => XS.aloadN X184.here hx rfl (hb hby d11_24) rfl rfl k
  show own_G (T184.setTop (mkF m 25 #[oA a, oI bits, oI (0 : Int32), oI bs, oI (3 : Int32), oU, oU, oU, oU, oU, oU, oU, oU] [(.ref a), (.ref r)]))
  obtain ⟨T185, X185, e185, st185⟩ := getF X184 hx hZ hown (host := "") (Or.inl (hw _ (own_m 20 rfl))) Via.refl e184 Fl (g := (mkF m 25 #[oA a, oI bits, oI (0 : Int32), oI bs, oI (3 : Int32), oU, oU, oU, oU, oU, oU, oU, oU] [(.ref a), (.ref r)])) rfl rfl (hb hby d11_25)
  refine up ?_ st185
  show own_G (T185.setTop (mkF m 28 #[oA a, oI bits, oI (0 : Int32), oI bs, oI (3 : Int32), oU, oU, oU, oU, oU, oU, oU, oU] [(.int (2 : Int32)), (.ref r)]))
  refine up ?_ fun t k => XS.iconst X185.here hx rfl (hb hby d11_28) (XS.isub X185.here hx rfl (hb hby d11_29) rfl k)
  show own_G (T185.setTop (mkF m 30 #[oA a, oI bits, oI (0 : Int32), oI bs, oI (3 : Int32), oU, oU, oU, oU, oU, oU, oU, oU] [(.int (1 : Int32)), (.ref r)]))
  obtain ⟨cl186, Ar186, qa186, Sa186, Na186, Ha186, Ga186⟩ := id V
  have hin186 : ¬ ((1 : Int32) < 0 ∨ cl186.slots.size ≤ ((1 : Int32)).toNatClampNeg) := inb_of Sa186 ⟨by decide, own_i1 hc⟩
  refine up ?_ fun t k => X185.laload hx (j := (1 : Int32)) (v := (.long x1)) (by rw [e185]; exact Ar186.1) (State.isArrayOf_alike hZ.alike Ar186.2.1) Ar186.2.2 hin186 (Ha186.at hin186 rfl) (g := (mkF m 30 #[oA a, oI bits, oI (0 : Int32), oI bs, oI (3 : Int32), oU, oU, oU, oU, oU, oU, oU, oU] [(.int (1 : Int32)), (.ref r)])) rfl rfl (hb hby d11_30) _ (XS.bipush X185.here hx rfl (hb hby d11_31) (XS.lshr X185.here hx rfl (hb hby d11_33) rfl k))
  show own_G (T185.setTop (mkF m 34 #[oA a, oI bits, oI (0 : Int32), oI bs, oI (3 : Int32), oU, oU, oU, oU, oU, oU, oU, oU] [(.long (x1 >>> ((63 : Int32) &&& 0x3f).toInt64))]))
  show own_G (T185.setTop (mkF m 34 #[oA a, oI bits, oI (0 : Int32), oI bs, oI (3 : Int32), oU, oU, oU, oU, oU, oU, oU, oU] [(.long (own_sg x1))]))
  refine up ?_ fun t k => XS.lstore X185.here hx rfl (hb hby d11_34) rfl (l' := #[oA a, oI bits, oI (0 : Int32), oI bs, oI (3 : Int32), oJ (own_sg x1), oS, oU, oU, oU, oU, oU, oU]) rfl (XS.aloadN X185.here hx rfl (hb hby d11_36) rfl rfl k)
  show own_G (T185.setTop (mkF m 37 #[oA a, oI bits, oI (0 : Int32), oI bs, oI (3 : Int32), oJ (own_sg x1), oS, oU, oU, oU, oU, oU, oU] [(.ref a)]))
  obtain ⟨T187, X187, e187, st187⟩ := getF X185 hx hZ hown (host := "") (Or.inl (hw _ (own_m 13 rfl))) Via.refl e185 Fw (g := (mkF m 37 #[oA a, oI bits, oI (0 : Int32), oI bs, oI (3 : Int32), oJ (own_sg x1), oS, oU, oU, oU, oU, oU, oU] [(.ref a)])) rfl rfl (hb hby d11_37)
  refine up ?_ st187
  show own_G (T187.setTop (mkF m 40 #[oA a, oI bits, oI (0 : Int32), oI bs, oI (3 : Int32), oJ (own_sg x1), oS, oU, oU, oU, oU, oU, oU] [(.ref r)]))
  obtain ⟨cl188, Ar188, qa188, Sa188, Na188, Ha188, Ga188⟩ := id V
  refine up ?_ fun t k => X187.arraylength hx (by rw [e187]; exact Ar188.1) (State.isArrayOf_alike hZ.alike Ar188.2.1) (g := (mkF m 40 #[oA a, oI bits, oI (0 : Int32), oI bs, oI (3 : Int32), oJ (own_sg x1), oS, oU, oU, oU, oU, oU, oU] [(.ref r)])) rfl rfl (hb hby d11_40) _ k
  rw [len_of Sa188 Na188]
  show own_G (T187.setTop (mkF m 41 #[oA a, oI bits, oI (0 : Int32), oI bs, oI (3 : Int32), oJ (own_sg x1), oS, oU, oU, oU, oU, oU, oU] [(.int zc)]))
  refine up ?_ fun t k => XS.iload X187.here hx rfl (hb hby d11_41) rfl k
  show own_G (T187.setTop (mkF m 43 #[oA a, oI bits, oI (0 : Int32), oI bs, oI (3 : Int32), oJ (own_sg x1), oS, oU, oU, oU, oU, oU, oU] [(.int (3 : Int32)), (.int zc)]))
  refine up ?_ fun t k => XS.icmpYes X187.here hx rfl (pc0 := 43) (pc' := 53) rfl (hb hby d11_43) rfl (flt (own_n3 hc : ¬ (zc < (3 : Int32)))).2.1 (by decide) (by decide) (XS.aloadN X187.here hx rfl (hb hby d11_53) rfl rfl k)
  show own_G (T187.setTop (mkF m 54 #[oA a, oI bits, oI (0 : Int32), oI bs, oI (3 : Int32), oJ (own_sg x1), oS, oU, oU, oU, oU, oU, oU] [(.ref a)]))
  obtain ⟨T189, X189, e189, st189⟩ := getF X187 hx hZ hown (host := "") (Or.inl (hw _ (own_m 13 rfl))) Via.refl e187 Fw (g := (mkF m 54 #[oA a, oI bits, oI (0 : Int32), oI bs, oI (3 : Int32), oJ (own_sg x1), oS, oU, oU, oU, oU, oU, oU] [(.ref a)])) rfl rfl (hb hby d11_54)
  refine up ?_ st189
  show own_G (T189.setTop (mkF m 57 #[oA a, oI bits, oI (0 : Int32), oI bs, oI (3 : Int32), oJ (own_sg x1), oS, oU, oU, oU, oU, oU, oU] [(.ref r)]))
  refine up ?_ fun t k => XS.astore X189.here hx rfl (hb hby d11_57) rfl rfl (l' := #[oA a, oI bits, oI (0 : Int32), oI bs, oI (3 : Int32), oJ (own_sg x1), oS, oA r, oU, oU, oU, oU, oU]) rfl (XS.aloadN X189.here hx rfl (hb hby d11_59) rfl rfl k)
  show own_G (T189.setTop (mkF m 60 #[oA a, oI bits, oI (0 : Int32), oI bs, oI (3 : Int32), oJ (own_sg x1), oS, oA r, oU, oU, oU, oU, oU] [(.ref a)]))
  obtain ⟨T190, X190, e190, st190⟩ := getF X189 hx hZ hown (host := "") (Or.inl (hw _ (own_m 20 rfl))) Via.refl e189 Fl (g := (mkF m 60 #[oA a, oI bits, oI (0 : Int32), oI bs, oI (3 : Int32), oJ (own_sg x1), oS, oA r, oU, oU, oU, oU, oU] [(.ref a)])) rfl rfl (hb hby d11_60)
  refine up ?_ st190
  show own_G (T190.setTop (mkF m 63 #[oA a, oI bits, oI (0 : Int32), oI bs, oI (3 : Int32), oJ (own_sg x1), oS, oA r, oU, oU, oU, oU, oU] [(.int (2 : Int32))]))
  refine up ?_ fun t k => XS.istore X190.here hx rfl (hb hby d11_63) rfl (l' := #[oA a, oI bits, oI (0 : Int32), oI bs, oI (3 : Int32), oJ (own_sg x1), oS, oA r, oI (2 : Int32), oU, oU, oU, oU]) rfl (XS.iload X190.here hx rfl (hb hby d11_65) rfl k)
  show own_G (T190.setTop (mkF m 67 #[oA a, oI bits, oI (0 : Int32), oI bs, oI (3 : Int32), oJ (own_sg x1), oS, oA r, oI (2 : Int32), oU, oU, oU, oU] [(.int (2 : Int32))]))
  refine up ?_ fun t k => XS.ifNo X190.here hx rfl (hb hby d11_67) rfl ((if0 _ _).trans (flt (by decide : ¬ ((2 : Int32) < (0 : Int32)))).1) (XS.iload X190.here hx rfl (hb hby d11_70) rfl (XS.aloadN X190.here hx rfl (hb hby d11_72) rfl rfl k))
  show own_G (T190.setTop (mkF m 73 #[oA a, oI bits, oI (0 : Int32), oI bs, oI (3 : Int32), oJ (own_sg x1), oS, oA r, oI (2 : Int32), oU, oU, oU, oU] [(.ref a), (.int (2 : Int32))]))
  obtain ⟨T191, X191, e191, st191⟩ := getF X190 hx hZ hown (host := "") (Or.inl (hw _ (own_m 20 rfl))) Via.refl e190 Fl (g := (mkF m 73 #[oA a, oI bits, oI (0 : Int32), oI bs, oI (3 : Int32), oJ (own_sg x1), oS, oA r, oI (2 : Int32), oU, oU, oU, oU] [(.ref a), (.int (2 : Int32))])) rfl rfl (hb hby d11_73)
  refine up ?_ st191
  show own_G (T191.setTop (mkF m 76 #[oA a, oI bits, oI (0 : Int32), oI bs, oI (3 : Int32), oJ (own_sg x1), oS, oA r, oI (2 : Int32), oU, oU, oU, oU] [(.int (2 : Int32)), (.int (2 : Int32))]))
  refine up ?_ fun t k => XS.icmpYes X191.here hx rfl (pc0 := 76) (pc' := 89) rfl (hb hby d11_76) rfl (flt (by decide : ¬ ((2 : Int32) < (2 : Int32)))).2.1 (by decide) (by decide) (XS.lload X191.here hx rfl (hb hby d11_89) rfl (XS.lstore X191.here hx rfl (hb hby d11_91) rfl (l' := #[oA a, oI bits, oI (0 : Int32), oI bs, oI (3 : Int32), oJ (own_sg x1), oS, oA r, oI (2 : Int32), oJ (own_sg x1), oS, oU, oU]) rfl (XS.iload X191.here hx rfl (hb hby d11_93) rfl k)))
  show own_G (T191.setTop (mkF m 95 #[oA a, oI bits, oI (0 : Int32), oI bs, oI (3 : Int32), oJ (own_sg x1), oS, oA r, oI (2 : Int32), oJ (own_sg x1), oS, oU, oU] [(.int (2 : Int32))]))
  refine up ?_ fun t k => XS.ifYes X191.here hx rfl (pc0 := 95) (pc' := 102) rfl (hb hby d11_95) rfl ((if0 _ _).trans (feq (by decide : ¬ ((2 : Int32) = (0 : Int32)))).2) (by decide) (by decide) (XS.aloadN X191.here hx rfl (hb hby d11_102) rfl rfl k)
  show own_G (T191.setTop (mkF m 103 #[oA a, oI bits, oI (0 : Int32), oI bs, oI (3 : Int32), oJ (own_sg x1), oS, oA r, oI (2 : Int32), oJ (own_sg x1), oS, oU, oU] [(.ref a)]))
  obtain ⟨T192, X192, e192, st192⟩ := getF X191 hx hZ hown (host := "") (Or.inl (hw _ (own_m 13 rfl))) Via.refl e191 Fw (g := (mkF m 103 #[oA a, oI bits, oI (0 : Int32), oI bs, oI (3 : Int32), oJ (own_sg x1), oS, oA r, oI (2 : Int32), oJ (own_sg x1), oS, oU, oU] [(.ref a)])) rfl rfl (hb hby d11_103)
  refine up ?_ st192
  show own_G (T192.setTop (mkF m 106 #[oA a, oI bits, oI (0 : Int32), oI bs, oI (3 : Int32), oJ (own_sg x1), oS, oA r, oI (2 : Int32), oJ (own_sg x1), oS, oU, oU] [(.ref r)]))
  refine up ?_ fun t k => XS.iload X192.here hx rfl (hb hby d11_106) rfl (XS.iconst X192.here hx rfl (hb hby d11_108) (XS.isub X192.here hx rfl (hb hby d11_109) rfl k))
  show own_G (T192.setTop (mkF m 110 #[oA a, oI bits, oI (0 : Int32), oI bs, oI (3 : Int32), oJ (own_sg x1), oS, oA r, oI (2 : Int32), oJ (own_sg x1), oS, oU, oU] [(.int (1 : Int32)), (.ref r)]))
  obtain ⟨cl193, Ar193, qa193, Sa193, Na193, Ha193, Ga193⟩ := id V
  have hin193 : ¬ ((1 : Int32) < 0 ∨ cl193.slots.size ≤ ((1 : Int32)).toNatClampNeg) := inb_of Sa193 ⟨by decide, own_i1 hc⟩
  refine up ?_ fun t k => X192.laload hx (j := (1 : Int32)) (v := (.long x1)) (by rw [e192]; exact Ar193.1) (State.isArrayOf_alike hZ.alike Ar193.2.1) Ar193.2.2 hin193 (Ha193.at hin193 rfl) (g := (mkF m 110 #[oA a, oI bits, oI (0 : Int32), oI bs, oI (3 : Int32), oJ (own_sg x1), oS, oA r, oI (2 : Int32), oJ (own_sg x1), oS, oU, oU] [(.int (1 : Int32)), (.ref r)])) rfl rfl (hb hby d11_110) _ (XS.lstore X192.here hx rfl (hb hby d11_111) rfl (l' := #[oA a, oI bits, oI (0 : Int32), oI bs, oI (3 : Int32), oJ (own_sg x1), oS, oA r, oI (2 : Int32), oJ (own_sg x1), oS, oJ x1, oS]) rfl (XS.aload X192.here hx rfl (hb hby d11_113) rfl rfl (XS.iload X192.here hx rfl (hb hby d11_115) rfl (XS.iloadN X192.here hx rfl (hb hby d11_117) rfl (XS.iadd X192.here hx rfl (hb hby d11_118) rfl (XS.lload X192.here hx rfl (hb hby d11_119) rfl (XS.iloadN X192.here hx rfl (hb hby d11_121) rfl (XS.lshl X192.here hx rfl (hb hby d11_122) rfl (XS.lload X192.here hx rfl (hb hby d11_123) rfl k)))))))))
  show own_G (T192.setTop (mkF m 125 #[oA a, oI bits, oI (0 : Int32), oI bs, oI (3 : Int32), oJ (own_sg x1), oS, oA r, oI (2 : Int32), oJ (own_sg x1), oS, oJ x1, oS] [(.long x1), (.long ((own_sg x1) <<< (bs &&& 0x3f).toInt64)), (.int (2 : Int32)), (.ref r)]))
  refine up ?_ fun t k => XS.iconst X192.here hx rfl (hb hby d11_125) (XS.lushr X192.here hx rfl (hb hby d11_126) rfl (XS.bipush X192.here hx rfl (hb hby d11_127) (XS.iloadN X192.here hx rfl (hb hby d11_129) rfl (XS.isub X192.here hx rfl (hb hby d11_130) rfl (XS.lushr X192.here hx rfl (hb hby d11_131) rfl (XS.lor X192.here hx rfl (hb hby d11_132) rfl k))))))
  show own_G (T192.setTop (mkF m 133 #[oA a, oI bits, oI (0 : Int32), oI bs, oI (3 : Int32), oJ (own_sg x1), oS, oA r, oI (2 : Int32), oJ (own_sg x1), oS, oJ x1, oS] [(.long (((own_sg x1) <<< (bs &&& 0x3f).toInt64) ||| ((((x1.toUInt64 >>> ((1 : Int32) &&& 0x3f).toInt64.toUInt64).toInt64).toUInt64 >>> (((63 : Int32) - bs) &&& 0x3f).toInt64.toUInt64).toInt64))), (.int (2 : Int32)), (.ref r)]))
  show own_G (T192.setTop (mkF m 133 #[oA a, oI bits, oI (0 : Int32), oI bs, oI (3 : Int32), oJ (own_sg x1), oS, oA r, oI (2 : Int32), oJ (own_sg x1), oS, oJ x1, oS] [(.long (own_s2 (own_sg x1) x1 bs)), (.int (2 : Int32)), (.ref r)]))
  obtain ⟨cl194, Ar194, qa194, Sa194, Na194, Ha194, Ga194⟩ := id V
  have hin194 : ¬ ((2 : Int32) < 0 ∨ cl194.slots.size ≤ ((2 : Int32)).toNatClampNeg) := inb_of Sa194 ⟨by decide, own_i2 hc⟩
  obtain ⟨T194, h194, X194, e194, W194, st194⟩ := stJ X192 hx hZ e192 Ar194 (j := (2 : Int32)) hin194 (g := (mkF m 133 #[oA a, oI bits, oI (0 : Int32), oI bs, oI (3 : Int32), oJ (own_sg x1), oS, oA r, oI (2 : Int32), oJ (own_sg x1), oS, oJ x1, oS] [(.long (own_s2 (own_sg x1) x1 bs)), (.int (2 : Int32)), (.ref r)])) rfl rfl (hb hby d11_133)
  refine up ?_ st194
  have E_a_c195 := E_a.wr W194
  have Fw_c195 := Fw.other W194 (Or.inl ne_ar)
  have Fl_c195 := Fl.other W194 (Or.inl ne_ar)
  have Fp_c195 := Fp.other W194 (Or.inl ne_ar)
  have V194 : Arv Z h194 r kr .long zc ((.long x0) :: (.long x1) :: (.long (own_s2 (own_sg x1) x1 bs)) :: tl) (.long (0 : Int64)) := Arv.set Ar194 qa194 Sa194 Na194 Ha194 Ga194 rfl W194 2 rfl (by simp only [List.length_cons]; omega)
  have N194 := Fr.snoc X194 N0 g_r
  have kq196 := Nat.le_trans (Nat.le_refl h0.size) (Keep.of_wr W194).1
  have Zs197 : n0 ≤ h194.size := Nat.le_trans Z0 (Keep.of_wr W194).1
  show own_G (T194.setTop (mkF m 134 #[oA a, oI bits, oI (0 : Int32), oI bs, oI (3 : Int32), oJ (own_sg x1), oS, oA r, oI (2 : Int32), oJ (own_sg x1), oS, oJ x1, oS] []))
  refine up ?_ fun t k => XS.iinc X194.here hx rfl (hb hby d11_134) rfl (l' := #[oA a, oI bits, oI (0 : Int32), oI bs, oI (3 : Int32), oJ (own_sg x1), oS, oA r, oI (1 : Int32), oJ (own_sg x1), oS, oJ x1, oS]) rfl (XS.goto X194.here hx rfl (pc0 := 137) (pc' := 65) rfl (hb hby d11_137) (by decide) (by decide) (XS.iload X194.here hx rfl (hb hby d11_65) rfl k))
  show own_G (T194.setTop (mkF m 67 #[oA a, oI bits, oI (0 : Int32), oI bs, oI (3 : Int32), oJ (own_sg x1), oS, oA r, oI (1 : Int32), oJ (own_sg x1), oS, oJ x1, oS] [(.int (1 : Int32))]))
  refine up ?_ fun t k => XS.ifNo X194.here hx rfl (hb hby d11_67) rfl ((if0 _ _).trans (flt (by decide : ¬ ((1 : Int32) < (0 : Int32)))).1) (XS.iload X194.here hx rfl (hb hby d11_70) rfl (XS.aloadN X194.here hx rfl (hb hby d11_72) rfl rfl k))
  show own_G (T194.setTop (mkF m 73 #[oA a, oI bits, oI (0 : Int32), oI bs, oI (3 : Int32), oJ (own_sg x1), oS, oA r, oI (1 : Int32), oJ (own_sg x1), oS, oJ x1, oS] [(.ref a), (.int (1 : Int32))]))
  obtain ⟨T198, X198, e198, st198⟩ := getF X194 hx hZ hown (host := "") (Or.inl (hw _ (own_m 20 rfl))) Via.refl e194 Fl_c195 (g := (mkF m 73 #[oA a, oI bits, oI (0 : Int32), oI bs, oI (3 : Int32), oJ (own_sg x1), oS, oA r, oI (1 : Int32), oJ (own_sg x1), oS, oJ x1, oS] [(.ref a), (.int (1 : Int32))])) rfl rfl (hb hby d11_73)
  refine up ?_ st198
  show own_G (T198.setTop (mkF m 76 #[oA a, oI bits, oI (0 : Int32), oI bs, oI (3 : Int32), oJ (own_sg x1), oS, oA r, oI (1 : Int32), oJ (own_sg x1), oS, oJ x1, oS] [(.int (2 : Int32)), (.int (1 : Int32))]))
  refine up ?_ fun t k => XS.icmpNo X198.here hx rfl (hb hby d11_76) rfl (tlt (by decide : ((1 : Int32) < (2 : Int32)))).2.1 (XS.aloadN X198.here hx rfl (hb hby d11_79) rfl rfl k)
  show own_G (T198.setTop (mkF m 80 #[oA a, oI bits, oI (0 : Int32), oI bs, oI (3 : Int32), oJ (own_sg x1), oS, oA r, oI (1 : Int32), oJ (own_sg x1), oS, oJ x1, oS] [(.ref a)]))
  obtain ⟨T199, X199, e199, st199⟩ := getF X198 hx hZ hown (host := "") (Or.inl (hw _ (own_m 13 rfl))) Via.refl e198 Fw_c195 (g := (mkF m 80 #[oA a, oI bits, oI (0 : Int32), oI bs, oI (3 : Int32), oJ (own_sg x1), oS, oA r, oI (1 : Int32), oJ (own_sg x1), oS, oJ x1, oS] [(.ref a)])) rfl rfl (hb hby d11_80)
  refine up ?_ st199
  show own_G (T199.setTop (mkF m 83 #[oA a, oI bits, oI (0 : Int32), oI bs, oI (3 : Int32), oJ (own_sg x1), oS, oA r, oI (1 : Int32), oJ (own_sg x1), oS, oJ x1, oS] [(.ref r)]))
  refine up ?_ fun t k => XS.iload X199.here hx rfl (hb hby d11_83) rfl k
  show own_G (T199.setTop (mkF m 85 #[oA a, oI bits, oI (0 : Int32), oI bs, oI (3 : Int32), oJ (own_sg x1), oS, oA r, oI (1 : Int32), oJ (own_sg x1), oS, oJ x1, oS] [(.int (1 : Int32)), (.ref r)]))
  obtain ⟨cl200, Ar200, qa200, Sa200, Na200, Ha200, Ga200⟩ := id V194
  have hin200 : ¬ ((1 : Int32) < 0 ∨ cl200.slots.size ≤ ((1 : Int32)).toNatClampNeg) := inb_of Sa200 ⟨by decide, own_i1 hc⟩
  refine up ?_ fun t k => X199.laload hx (j := (1 : Int32)) (v := (.long x1)) (by rw [e199]; exact Ar200.1) (State.isArrayOf_alike hZ.alike Ar200.2.1) Ar200.2.2 hin200 (Ha200.at hin200 rfl) (g := (mkF m 85 #[oA a, oI bits, oI (0 : Int32), oI bs, oI (3 : Int32), oJ (own_sg x1), oS, oA r, oI (1 : Int32), oJ (own_sg x1), oS, oJ x1, oS] [(.int (1 : Int32)), (.ref r)])) rfl rfl (hb hby d11_85) _ (XS.goto X199.here hx rfl (pc0 := 86) (pc' := 91) rfl (hb hby d11_86) (by decide) (by decide) (XS.lstore X199.here hx rfl (hb hby d11_91) rfl (l' := #[oA a, oI bits, oI (0 : Int32), oI bs, oI (3 : Int32), oJ (own_sg x1), oS, oA r, oI (1 : Int32), oJ x1, oS, oJ x1, oS]) rfl (XS.iload X199.here hx rfl (hb hby d11_93) rfl k)))
  show own_G (T199.setTop (mkF m 95 #[oA a, oI bits, oI (0 : Int32), oI bs, oI (3 : Int32), oJ (own_sg x1), oS, oA r, oI (1 : Int32), oJ x1, oS, oJ x1, oS] [(.int (1 : Int32))]))
  refine up ?_ fun t k => XS.ifYes X199.here hx rfl (pc0 := 95) (pc' := 102) rfl (hb hby d11_95) rfl ((if0 _ _).trans (feq (by decide : ¬ ((1 : Int32) = (0 : Int32)))).2) (by decide) (by decide) (XS.aloadN X199.here hx rfl (hb hby d11_102) rfl rfl k)
  show own_G (T199.setTop (mkF m 103 #[oA a, oI bits, oI (0 : Int32), oI bs, oI (3 : Int32), oJ (own_sg x1), oS, oA r, oI (1 : Int32), oJ x1, oS, oJ x1, oS] [(.ref a)]))
  obtain ⟨T201, X201, e201, st201⟩ := getF X199 hx hZ hown (host := "") (Or.inl (hw _ (own_m 13 rfl))) Via.refl e199 Fw_c195 (g := (mkF m 103 #[oA a, oI bits, oI (0 : Int32), oI bs, oI (3 : Int32), oJ (own_sg x1), oS, oA r, oI (1 : Int32), oJ x1, oS, oJ x1, oS] [(.ref a)])) rfl rfl (hb hby d11_103)
  refine up ?_ st201
  show own_G (T201.setTop (mkF m 106 #[oA a, oI bits, oI (0 : Int32), oI bs, oI (3 : Int32), oJ (own_sg x1), oS, oA r, oI (1 : Int32), oJ x1, oS, oJ x1, oS] [(.ref r)]))
  refine up ?_ fun t k => XS.iload X201.here hx rfl (hb hby d11_106) rfl (XS.iconst X201.here hx rfl (hb hby d11_108) (XS.isub X201.here hx rfl (hb hby d11_109) rfl k))
  show own_G (T201.setTop (mkF m 110 #[oA a, oI bits, oI (0 : Int32), oI bs, oI (3 : Int32), oJ (own_sg x1), oS, oA r, oI (1 : Int32), oJ x1, oS, oJ x1, oS] [(.int (0 : Int32)), (.ref r)]))
  obtain ⟨cl202, Ar202, qa202, Sa202, Na202, Ha202, Ga202⟩ := id V194
  have hin202 : ¬ ((0 : Int32) < 0 ∨ cl202.slots.size ≤ ((0 : Int32)).toNatClampNeg) := inb_of Sa202 ⟨by decide, own_i0 hc⟩
  refine up ?_ fun t k => X201.laload hx (j := (0 : Int32)) (v := (.long x0)) (by rw [e201]; exact Ar202.1) (State.isArrayOf_alike hZ.alike Ar202.2.1) Ar202.2.2 hin202 (Ha202.at hin202 rfl) (g := (mkF m 110 #[oA a, oI bits, oI (0 : Int32), oI bs, oI (3 : Int32), oJ (own_sg x1), oS, oA r, oI (1 : Int32), oJ x1, oS, oJ x1, oS] [(.int (0 : Int32)), (.ref r)])) rfl rfl (hb hby d11_110) _ (XS.lstore X201.here hx rfl (hb hby d11_111) rfl (l' := #[oA a, oI bits, oI (0 : Int32), oI bs, oI (3 : Int32), oJ (own_sg x1), oS, oA r, oI (1 : Int32), oJ x1, oS, oJ x0, oS]) rfl (XS.aload X201.here hx rfl (hb hby d11_113) rfl rfl (XS.iload X201.here hx rfl (hb hby d11_115) rfl (XS.iloadN X201.here hx rfl (hb hby d11_117) rfl (XS.iadd X201.here hx rfl (hb hby d11_118) rfl (XS.lload X201.here hx rfl (hb hby d11_119) rfl (XS.iloadN X201.here hx rfl (hb hby d11_121) rfl (XS.lshl X201.here hx rfl (hb hby d11_122) rfl (XS.lload X201.here hx rfl (hb hby d11_123) rfl k)))))))))
  show own_G (T201.setTop (mkF m 125 #[oA a, oI bits, oI (0 : Int32), oI bs, oI (3 : Int32), oJ (own_sg x1), oS, oA r, oI (1 : Int32), oJ x1, oS, oJ x0, oS] [(.long x0), (.long (x1 <<< (bs &&& 0x3f).toInt64)), (.int (1 : Int32)), (.ref r)]))
  refine up ?_ fun t k => XS.iconst X201.here hx rfl (hb hby d11_125) (XS.lushr X201.here hx rfl (hb hby d11_126) rfl (XS.bipush X201.here hx rfl (hb hby d11_127) (XS.iloadN X201.here hx rfl (hb hby d11_129) rfl (XS.isub X201.here hx rfl (hb hby d11_130) rfl (XS.lushr X201.here hx rfl (hb hby d11_131) rfl (XS.lor X201.here hx rfl (hb hby d11_132) rfl k))))))
  show own_G (T201.setTop (mkF m 133 #[oA a, oI bits, oI (0 : Int32), oI bs, oI (3 : Int32), oJ (own_sg x1), oS, oA r, oI (1 : Int32), oJ x1, oS, oJ x0, oS] [(.long ((x1 <<< (bs &&& 0x3f).toInt64) ||| ((((x0.toUInt64 >>> ((1 : Int32) &&& 0x3f).toInt64.toUInt64).toInt64).toUInt64 >>> (((63 : Int32) - bs) &&& 0x3f).toInt64.toUInt64).toInt64))), (.int (1 : Int32)), (.ref r)]))
  show own_G (T201.setTop (mkF m 133 #[oA a, oI bits, oI (0 : Int32), oI bs, oI (3 : Int32), oJ (own_sg x1), oS, oA r, oI (1 : Int32), oJ x1, oS, oJ x0, oS] [(.long (own_s2 x1 x0 bs)), (.int (1 : Int32)), (.ref r)]))
  obtain ⟨cl203, Ar203, qa203, Sa203, Na203, Ha203, Ga203⟩ := id V194
  have hin203 : ¬ ((1 : Int32) < 0 ∨ cl203.slots.size ≤ ((1 : Int32)).toNatClampNeg) := inb_of Sa203 ⟨by decide, own_i1 hc⟩
  obtain ⟨T203, h203, X203, e203, W203, st203⟩ := stJ X201 hx hZ e201 Ar203 (j := (1 : Int32)) hin203 (g := (mkF m 133 #[oA a, oI bits, oI (0 : Int32), oI bs, oI (3 : Int32), oJ (own_sg x1), oS, oA r, oI (1 : Int32), oJ x1, oS, oJ x0, oS] [(.long (own_s2 x1 x0 bs)), (.int (1 : Int32)), (.ref r)])) rfl rfl (hb hby d11_133)
  refine up ?_ st203
  have E_a_c204 := E_a_c195.wr W203
  have Fw_c204 := Fw_c195.other W203 (Or.inl ne_ar)
  have Fl_c204 := Fl_c195.other W203 (Or.inl ne_ar)
  have Fp_c204 := Fp_c195.other W203 (Or.inl ne_ar)
  have V203 : Arv Z h203 r kr .long zc ((.long x0) :: (.long (own_s2 x1 x0 bs)) :: (.long (own_s2 (own_sg x1) x1 bs)) :: tl) (.long (0 : Int64)) := Arv.set Ar203 qa203 Sa203 Na203 Ha203 Ga203 rfl W203 1 rfl (by simp only [List.length_cons]; omega)
  have N203 := Fr.snoc X203 N194 g_r
  have kq205 := Nat.le_trans kq196 (Keep.of_wr W203).1
  have Zs206 : n0 ≤ h203.size := Nat.le_trans Zs197 (Keep.of_wr W203).1
  show own_G (T203.setTop (mkF m 134 #[oA a, oI bits, oI (0 : Int32), oI bs, oI (3 : Int32), oJ (own_sg x1), oS, oA r, oI (1 : Int32), oJ x1, oS, oJ x0, oS] []))
  refine up ?_ fun t k => XS.iinc X203.here hx rfl (hb hby d11_134) rfl (l' := #[oA a, oI bits, oI (0 : Int32), oI bs, oI (3 : Int32), oJ (own_sg x1), oS, oA r, oI (0 : Int32), oJ x1, oS, oJ x0, oS]) rfl (XS.goto X203.here hx rfl (pc0 := 137) (pc' := 65) rfl (hb hby d11_137) (by decide) (by decide) (XS.iload X203.here hx rfl (hb hby d11_65) rfl k))
  show own_G (T203.setTop (mkF m 67 #[oA a, oI bits, oI (0 : Int32), oI bs, oI (3 : Int32), oJ (own_sg x1), oS, oA r, oI (0 : Int32), oJ x1, oS, oJ x0, oS] [(.int (0 : Int32))]))
  refine up ?_ fun t k => XS.ifNo X203.here hx rfl (hb hby d11_67) rfl ((if0 _ _).trans (flt (by decide : ¬ ((0 : Int32) < (0 : Int32)))).1) (XS.iload X203.here hx rfl (hb hby d11_70) rfl (XS.aloadN X203.here hx rfl (hb hby d11_72) rfl rfl k))
  show own_G (T203.setTop (mkF m 73 #[oA a, oI bits, oI (0 : Int32), oI bs, oI (3 : Int32), oJ (own_sg x1), oS, oA r, oI (0 : Int32), oJ x1, oS, oJ x0, oS] [(.ref a), (.int (0 : Int32))]))
  obtain ⟨T207, X207, e207, st207⟩ := getF X203 hx hZ hown (host := "") (Or.inl (hw _ (own_m 20 rfl))) Via.refl e203 Fl_c204 (g := (mkF m 73 #[oA a, oI bits, oI (0 : Int32), oI bs, oI (3 : Int32), oJ (own_sg x1), oS, oA r, oI (0 : Int32), oJ x1, oS, oJ x0, oS] [(.ref a), (.int (0 : Int32))])) rfl rfl (hb hby d11_73)
  refine up ?_ st207
  show own_G (T207.setTop (mkF m 76 #[oA a, oI bits, oI (0 : Int32), oI bs, oI (3 : Int32), oJ (own_sg x1), oS, oA r, oI (0 : Int32), oJ x1, oS, oJ x0, oS] [(.int (2 : Int32)), (.int (0 : Int32))]))
  refine up ?_ fun t k => XS.icmpNo X207.here hx rfl (hb hby d11_76) rfl (tlt (by decide : ((0 : Int32) < (2 : Int32)))).2.1 (XS.aloadN X207.here hx rfl (hb hby d11_79) rfl rfl k)
  show own_G (T207.setTop (mkF m 80 #[oA a, oI bits, oI (0 : Int32), oI bs, oI (3 : Int32), oJ (own_sg x1), oS, oA r, oI (0 : Int32), oJ x1, oS, oJ x0, oS] [(.ref a)]))
  obtain ⟨T208, X208, e208, st208⟩ := getF X207 hx hZ hown (host := "") (Or.inl (hw _ (own_m 13 rfl))) Via.refl e207 Fw_c204 (g := (mkF m 80 #[oA a, oI bits, oI (0 : Int32), oI bs, oI (3 : Int32), oJ (own_sg x1), oS, oA r, oI (0 : Int32), oJ x1, oS, oJ x0, oS] [(.ref a)])) rfl rfl (hb hby d11_80)
  refine up ?_ st208
  show own_G (T208.setTop (mkF m 83 #[oA a, oI bits, oI (0 : Int32), oI bs, oI (3 : Int32), oJ (own_sg x1), oS, oA r, oI (0 : Int32), oJ x1, oS, oJ x0, oS] [(.ref r)]))
  refine up ?_ fun t k => XS.iload X208.here hx rfl (hb hby d11_83) rfl k
  show own_G (T208.setTop (mkF m 85 #[oA a, oI bits, oI (0 : Int32), oI bs, oI (3 : Int32), oJ (own_sg x1), oS, oA r, oI (0 : Int32), oJ x1, oS, oJ x0, oS] [(.int (0 : Int32)), (.ref r)]))
  obtain ⟨cl209, Ar209, qa209, Sa209, Na209, Ha209, Ga209⟩ := id V203
  have hin209 : ¬ ((0 : Int32) < 0 ∨ cl209.slots.size ≤ ((0 : Int32)).toNatClampNeg) := inb_of Sa209 ⟨by decide, own_i0 hc⟩
  refine up ?_ fun t k => X208.laload hx (j := (0 : Int32)) (v := (.long x0)) (by rw [e208]; exact Ar209.1) (State.isArrayOf_alike hZ.alike Ar209.2.1) Ar209.2.2 hin209 (Ha209.at hin209 rfl) (g := (mkF m 85 #[oA a, oI bits, oI (0 : Int32), oI bs, oI (3 : Int32), oJ (own_sg x1), oS, oA r, oI (0 : Int32), oJ x1, oS, oJ x0, oS] [(.int (0 : Int32)), (.ref r)])) rfl rfl (hb hby d11_85) _ (XS.goto X208.here hx rfl (pc0 := 86) (pc' := 91) rfl (hb hby d11_86) (by decide) (by decide) (XS.lstore X208.here hx rfl (hb hby d11_91) rfl (l' := #[oA a, oI bits, oI (0 : Int32), oI bs, oI (3 : Int32), oJ (own_sg x1), oS, oA r, oI (0 : Int32), oJ x0, oS, oJ x0, oS]) rfl (XS.iload X208.here hx rfl (hb hby d11_93) rfl k)))
  show own_G (T208.setTop (mkF m 95 #[oA a, oI bits, oI (0 : Int32), oI bs, oI (3 : Int32), oJ (own_sg x1), oS, oA r, oI (0 : Int32), oJ x0, oS, oJ x0, oS] [(.int (0 : Int32))]))
  refine up ?_ fun t k => XS.ifNo X208.here hx rfl (hb hby d11_95) rfl ((if0 _ _).trans (teq (by decide : ((0 : Int32) = (0 : Int32)))).2) (XS.lconst X208.here hx rfl (hb hby d11_98) (XS.goto X208.here hx rfl (pc0 := 99) (pc' := 111) rfl (hb hby d11_99) (by decide) (by decide) (XS.lstore X208.here hx rfl (hb hby d11_111) rfl (l' := #[oA a, oI bits, oI (0 : Int32), oI bs, oI (3 : Int32), oJ (own_sg x1), oS, oA r, oI (0 : Int32), oJ x0, oS, oJ (0 : Int64), oS]) rfl (XS.aload X208.here hx rfl (hb hby d11_113) rfl rfl (XS.iload X208.here hx rfl (hb hby d11_115) rfl (XS.iloadN X208.here hx rfl (hb hby d11_117) rfl (XS.iadd X208.here hx rfl (hb hby d11_118) rfl (XS.lload X208.here hx rfl (hb hby d11_119) rfl (XS.iloadN X208.here hx rfl (hb hby d11_121) rfl k)))))))))
  show own_G (T208.setTop (mkF m 122 #[oA a, oI bits, oI (0 : Int32), oI bs, oI (3 : Int32), oJ (own_sg x1), oS, oA r, oI (0 : Int32), oJ x0, oS, oJ (0 : Int64), oS] [(.int bs), (.long x0), (.int (0 : Int32)), (.ref r)]))
  refine up ?_ fun t k => XS.lshl X208.here hx rfl (hb hby d11_122) rfl (XS.lload X208.here hx rfl (hb hby d11_123) rfl (XS.iconst X208.here hx rfl (hb hby d11_125) (XS.lushr X208.here hx rfl (hb hby d11_126) rfl (XS.bipush X208.here hx rfl (hb hby d11_127) (XS.iloadN X208.here hx rfl (hb hby d11_129) rfl (XS.isub X208.here hx rfl (hb hby d11_130) rfl (XS.lushr X208.here hx rfl (hb hby d11_131) rfl (XS.lor X208.here hx rfl (hb hby d11_132) rfl k))))))))
  show own_G (T208.setTop (mkF m 133 #[oA a, oI bits, oI (0 : Int32), oI bs, oI (3 : Int32), oJ (own_sg x1), oS, oA r, oI (0 : Int32), oJ x0, oS, oJ (0 : Int64), oS] [(.long ((x0 <<< (bs &&& 0x3f).toInt64) ||| (((((0 : Int64).toUInt64 >>> ((1 : Int32) &&& 0x3f).toInt64.toUInt64).toInt64).toUInt64 >>> (((63 : Int32) - bs) &&& 0x3f).toInt64.toUInt64).toInt64))), (.int (0 : Int32)), (.ref r)]))
  show own_G (T208.setTop (mkF m 133 #[oA a, oI bits, oI (0 : Int32), oI bs, oI (3 : Int32), oJ (own_sg x1), oS, oA r, oI (0 : Int32), oJ x0, oS, oJ (0 : Int64), oS] [(.long (own_s2 x0 (0 : Int64) bs)), (.int (0 : Int32)), (.ref r)]))
  obtain ⟨cl210, Ar210, qa210, Sa210, Na210, Ha210, Ga210⟩ := id V203
  have hin210 : ¬ ((0 : Int32) < 0 ∨ cl210.slots.size ≤ ((0 : Int32)).toNatClampNeg) := inb_of Sa210 ⟨by decide, own_i0 hc⟩
  obtain ⟨T210, h210, X210, e210, W210, st210⟩ := stJ X208 hx hZ e208 Ar210 (j := (0 : Int32)) hin210 (g := (mkF m 133 #[oA a, oI bits, oI (0 : Int32), oI bs, oI (3 : Int32), oJ (own_sg x1), oS, oA r, oI (0 : Int32), oJ x0, oS, oJ (0 : Int64), oS] [(.long (own_s2 x0 (0 : Int64) bs)), (.int (0 : Int32)), (.ref r)])) rfl rfl (hb hby d11_133)
  refine up ?_ st210
  have E_a_c211 := E_a_c204.wr W210
  have Fw_c211 := Fw_c204.other W210 (Or.inl ne_ar)
  have Fl_c211 := Fl_c204.other W210 (Or.inl ne_ar)
  have Fp_c211 := Fp_c204.other W210 (Or.inl ne_ar)
  have V210 : Arv Z h210 r kr .long zc ((.long (own_s2 x0 (0 : Int64) bs)) :: (.long (own_s2 x1 x0 bs)) :: (.long (own_s2 (own_sg x1) x1 bs)) :: tl) (.long (0 : Int64)) := Arv.set Ar210 qa210 Sa210 Na210 Ha210 Ga210 rfl W210 0 rfl (by simp only [List.length_cons]; omega)
  have N210 := Fr.snoc X210 N203 g_r
  have kq212 := Nat.le_trans kq205 (Keep.of_wr W210).1
  have Zs213 : n0 ≤ h210.size := Nat.le_trans Zs206 (Keep.of_wr W210).1
  show own_G (T210.setTop (mkF m 134 #[oA a, oI bits, oI (0 : Int32), oI bs, oI (3 : Int32), oJ (own_sg x1), oS, oA r, oI (0 : Int32), oJ x0, oS, oJ (0 : Int64), oS] []))
  refine up ?_ fun t k => XS.iinc X210.here hx rfl (hb hby d11_134) rfl (l' := #[oA a, oI bits, oI (0 : Int32), oI bs, oI (3 : Int32), oJ (own_sg x1), oS, oA r, oI (-1 : Int32), oJ x0, oS, oJ (0 : Int64), oS]) rfl (XS.goto X210.here hx rfl (pc0 := 137) (pc' := 65) rfl (hb hby d11_137) (by decide) (by decide) (XS.iload X210.here hx rfl (hb hby d11_65) rfl k))
  show own_G (T210.setTop (mkF m 67 #[oA a, oI bits, oI (0 : Int32), oI bs, oI (3 : Int32), oJ (own_sg x1), oS, oA r, oI (-1 : Int32), oJ x0, oS, oJ (0 : Int64), oS] [(.int (-1 : Int32))]))
  refine up ?_ fun t k => XS.ifYes X210.here hx rfl (pc0 := 67) (pc' := 140) rfl (hb hby d11_67) rfl ((if0 _ _).trans (tlt (by decide : ((-1 : Int32) < (0 : Int32)))).1) (by decide) (by decide) (XS.aload X210.here hx rfl (hb hby d11_140) rfl rfl (XS.iconst X210.here hx rfl (hb hby d11_142) (XS.iloadN X210.here hx rfl (hb hby d11_143) rfl (XS.lconst X210.here hx rfl (hb hby d11_144) k))))
  show own_G (T210.setTop (mkF m 145 #[oA a, oI bits, oI (0 : Int32), oI bs, oI (3 : Int32), oJ (own_sg x1), oS, oA r, oI (-1 : Int32), oJ x0, oS, oJ (0 : Int64), oS] [(.long (0 : Int64)), (.int (0 : Int32)), (.int (0 : Int32)), (.ref r)]))
  obtain ⟨_, _, ⟨T214, L214, k214, n214⟩, -, X214, ⟨Lc214, hQ214, l214, y214, z214⟩, st214⟩ := Jvm.LawKit.callS X210 hx (y := (⟨"java/util/Arrays", "fill", "([JIIJ)V"⟩ : MethodName)) hown (mvT hZ (hw _ (own_m 63 rfl))) (mvT hZ (hw _ (own_m 64 rfl))) (mvT hZ (hw _ (own_m 30 rfl))) (mvT hZ (hw _ (own_m 65 rfl))) (by decide) (backOf (W := 0) (rmf0 l Z a0 hw [] r kr zc ((.long (own_s2 x0 (0 : Int64) bs)) :: (.long (own_s2 x1 x0 bs)) :: (.long (own_s2 (own_sg x1) x1 bs)) :: tl) h210 n0 Zs213 V210 (own_nz0 hc)) hZ (hw _ (own_m 65 rfl)) (hw _ (own_m 30 rfl)) (by decide) (by decide)) (g := (mkF m 145 #[oA a, oI bits, oI (0 : Int32), oI bs, oI (3 : Int32), oJ (own_sg x1), oS, oA r, oI (-1 : Int32), oJ x0, oS, oJ (0 : Int64), oS] [(.long (0 : Int64)), (.int (0 : Int32)), (.int (0 : Int32)), (.ref r)])) rfl (by rw [hml]; rfl) (argsL := [(.ref r), (.int (0 : Int32)), (.int (0 : Int32)), (.long (0 : Int64))]) (rest := []) (lenOf own_pd4 rfl) rfl (by show 2 * 0 + _ ≤ _; exact Nat.le_of_eq rfl) (hb hby d11_145) (fun _ _ => ⟨rfl, e210, (by decide : 0 + 0 ≤ _), (by decide : 0 + 0 ≤ _)⟩)
  dsimp only [Pt.U, Pt.locs, Pt.cells, Pt.slots] at X214 l214 y214 z214 st214 hQ214
  subst l214 y214 z214
  obtain ⟨rfl, Nq214, e214⟩ := hQ214
  have N214 := Fr.app N210 Nq214
  refine up ?_ (st214)
  show own_G (T214.setTop (mkF m 148 #[oA a, oI bits, oI (0 : Int32), oI bs, oI (3 : Int32), oJ (own_sg x1), oS, oA r, oI (-1 : Int32), oJ x0, oS, oJ (0 : Int64), oS] []))
  refine up ?_ fun t k => XS.aloadN X214.here hx rfl (hb hby d11_148) rfl rfl (XS.aload X214.here hx rfl (hb hby d11_149) rfl rfl k)
  show own_G (T214.setTop (mkF m 151 #[oA a, oI bits, oI (0 : Int32), oI bs, oI (3 : Int32), oJ (own_sg x1), oS, oA r, oI (-1 : Int32), oJ x0, oS, oJ (0 : Int64), oS] [(.ref r), (.ref a)]))
  obtain ⟨T215, h215, X215, e215, W215, st215⟩ := putF X214 hx hZ hown (host := "") (Or.inl (hw _ (own_m 13 rfl))) Via.refl e214 Fw_c211 E_a_c211 (Or.inl (hw _ (own_m 14 rfl))) (hw _ (own_m 3 rfl)) (ty := (.array .long)) (by decide) rfl rfl (g := (mkF m 151 #[oA a, oI bits, oI (0 : Int32), oI bs, oI (3 : Int32), oJ (own_sg x1), oS, oA r, oI (-1 : Int32), oJ x0, oS, oJ (0 : Int64), oS] [(.ref r), (.ref a)])) rfl rfl (hb hby d11_151)
  refine up ?_ st215
  have E_a_c216 := E_a_c211.wr W215
  have Fl_c216 := Fl_c211.other W215 (Or.inr (slot_ne (Or.inl (hw _ (own_m 21 rfl))) (Or.inl (hw _ (own_m 14 rfl))) (by decide) (t := .int) (t' := (.array .long)) (by decide) (by decide)))
  have Fp_c216 := Fp_c211.other W215 (Or.inr (slot_ne (Or.inl (hw _ (own_m 23 rfl))) (Or.inl (hw _ (own_m 14 rfl))) (by decide) (t := .int) (t' := (.array .long)) (by decide) (by decide)))
  have V210_c216 := V210.other W215 (Ne.symm ne_ar)
  have F215 := Fw_c211.same W215
  have N215 := Fr.snoc X215 N214 g_a
  have kq217 := Nat.le_trans kq212 (Keep.of_wr W215).1
  have Zs218 : n0 ≤ h215.size := Nat.le_trans Zs213 (Keep.of_wr W215).1
  show own_G (T215.setTop (mkF m 154 #[oA a, oI bits, oI (0 : Int32), oI bs, oI (3 : Int32), oJ (own_sg x1), oS, oA r, oI (-1 : Int32), oJ x0, oS, oJ (0 : Int64), oS] []))
  refine up ?_ fun t k => XS.aloadN X215.here hx rfl (hb hby d11_154) rfl rfl (XS.iload X215.here hx rfl (hb hby d11_155) rfl k)
  show own_G (T215.setTop (mkF m 157 #[oA a, oI bits, oI (0 : Int32), oI bs, oI (3 : Int32), oJ (own_sg x1), oS, oA r, oI (-1 : Int32), oJ x0, oS, oJ (0 : Int64), oS] [(.int (3 : Int32)), (.ref a)]))
  obtain ⟨T219, h219, X219, e219, W219, st219⟩ := putF X215 hx hZ hown (host := "") (Or.inl (hw _ (own_m 20 rfl))) Via.refl e215 Fl_c216 E_a_c216 (Or.inl (hw _ (own_m 21 rfl))) (hw _ (own_m 3 rfl)) (ty := .int) (by decide) rfl rfl (g := (mkF m 157 #[oA a, oI bits, oI (0 : Int32), oI bs, oI (3 : Int32), oJ (own_sg x1), oS, oA r, oI (-1 : Int32), oJ x0, oS, oJ (0 : Int64), oS] [(.int (3 : Int32)), (.ref a)])) rfl rfl (hb hby d11_157)
  refine up ?_ st219
  have E_a_c220 := E_a_c216.wr W219
  have F215_c220 := F215.other W219 (Or.inr (slot_ne (Or.inl (hw _ (own_m 14 rfl))) (Or.inl (hw _ (own_m 21 rfl))) (by decide) (t := (.array .long)) (t' := .int) (by decide) (by decide)))
  have Fp_c220 := Fp_c216.other W219 (Or.inr (slot_ne (Or.inl (hw _ (own_m 23 rfl))) (Or.inl (hw _ (own_m 21 rfl))) (by decide) (t := .int) (t' := .int) (by decide) (by decide)))
  have V210_c220 := V210_c216.other W219 (Ne.symm ne_ar)
  have F219 := Fl_c216.same W219
  have N219 := Fr.snoc X219 N215 g_a
  have kq221 := Nat.le_trans kq217 (Keep.of_wr W219).1
  have Zs222 : n0 ≤ h219.size := Nat.le_trans Zs218 (Keep.of_wr W219).1
  show own_G (T219.setTop (mkF m 160 #[oA a, oI bits, oI (0 : Int32), oI bs, oI (3 : Int32), oJ (own_sg x1), oS, oA r, oI (-1 : Int32), oJ x0, oS, oJ (0 : Int64), oS] []))
  exact own_retV X219 hx hlk hret (hb hby d11_160) (by rw [e219]; exact ⟨rfl, N219, kq221, ⟨E_a_c220, F215_c220, F219, Fp_c220, V210_c220⟩⟩) (by decide) (by decide)
def own_Q_rmsB3 (Z : State) (a : Addr) (bits : Int32) (r : Addr) (kr : ClassId) (pw : Int32) (x0 : Int64) (x1 : Int64) (x2 : Int64) (bs : Int32) (h0 : Heap) (n0 : Nat) (v : Option Value) (h : Heap) (L : List Loc) : Prop := v = none ∧ Fr n0 L ∧ h0.size ≤ h.size ∧ ∃ (r' : Addr) (kr' : ClassId), n0 ≤ r' ∧ own_O Z h a r' kr' (4 : Int32) (4 : Int32) pw [(.long (own_s2 x0 (0 : Int64) bs)), (.long (own_s2 x1 x0 bs)), (.long (own_s2 x2 x1 bs)), (.long (own_s2 (own_sg x2) x2 bs))]
theorem rmsB3 (l : Launch) (Z : State) (a0 : Array Value) (hw : own_W Z a0) (ws : List Jvm.Cond) (a : Addr) (bits : Int32) (r : Addr) (kr : ClassId) (pw : Int32) (x0 : Int64) (x1 : Int64) (x2 : Int64) (bs : Int32) (h0 : Heap) (n0 : Nat) (Z0 : n0 ≤ h0.size) (O0 : own_O Z h0 a r kr (3 : Int32) (3 : Int32) pw [(.long x0), (.long x1), (.long x2)]) (g_a : n0 ≤ a) (g_r : n0 ≤ r) (hws : ((bits.toUInt32 >>> ((6 : Int32) &&& 31).toUInt32).toInt32) = (0 : Int32)) (hbs : (bits &&& (63 : Int32)) = bs) :
    own_M l Z (⟨"com/example/eventweir/eventweir/ExactSum", "shiftUp", "(I)V"⟩ : MethodName) prog_78_method_13_code 13 none ws ({ frames := 2, cells := 1, slots := 4, locals := 31 } : Room) #[(.ref a), (.int bits)] h0 (own_Q_rmsB3 Z a bits r kr pw x0 x1 x2 bs h0 n0) := by
  refine own_body (plainFor_of_name own_pn0) ?_
  intro p e s m below meth c s₁ hx hZ hby hml hown hnm hlk hret X0 e0
  have N0 := Fr.nil n0
  obtain ⟨E_a, Fw, Fl, Fp, V⟩ := O0
  have ne_ar : a ≠ r := E_a.neArv V (hw _ (own_m 3 rfl))
  refine up (U' := s₁.setTop (mkF m 0 #[oA a, oI bits, oU, oU, oU, oU, oU, oU, oU, oU, oU, oU, oU] [])) ?_ (fun t k => castTop (own_ef_rmsA m a bits) k)
  refine up ?_ fun t k => XS.iloadN X0.here hx rfl (hb hby d11_0) rfl (XS.bipush X0.here hx rfl (hb hby d11_1) (XS.iushr X0.here hx rfl (hb hby d11_3) rfl (XS.istoreN X0.here hx rfl (hb hby d11_4) rfl (l' := #[oA a, oI bits, oI ((bits.toUInt32 >>> ((6 : Int32) &&& 31).toUInt32).toInt32), oU, oU, oU, oU, oU, oU, oU, oU, oU, oU]) rfl k)))
  show own_G (s₁.setTop (mkF m 5 #[oA a, oI bits, oI ((bits.toUInt32 >>> ((6 : Int32) &&& 31).toUInt32).toInt32), oU, oU, oU, oU, oU, oU, oU, oU, oU, oU] []))
  rw [hws]
  show own_G (s₁.setTop (mkF m 5 #[oA a, oI bits, oI (0 : Int32), oU, oU, oU, oU, oU, oU, oU, oU, oU, oU] []))
  refine up ?_ fun t k => XS.iloadN X0.here hx rfl (hb hby d11_5) rfl (XS.bipush X0.here hx rfl (hb hby d11_6) (XS.iand X0.here hx rfl (hb hby d11_8) rfl (XS.istoreN X0.here hx rfl (hb hby d11_9) rfl (l' := #[oA a, oI bits, oI (0 : Int32), oI (bits &&& (63 : Int32)), oU, oU, oU, oU, oU, oU, oU, oU, oU]) rfl k)))
  show own_G (s₁.setTop (mkF m 10 #[oA a, oI bits, oI (0 : Int32), oI (bits &&& (63 : Int32)), oU, oU, oU, oU, oU, oU, oU, oU, oU] []))
  rw [hbs]
  show own_G (s₁.setTop (mkF m 10 #[oA a, oI bits, oI (0 : Int32), oI bs, oU, oU, oU, oU, oU, oU, oU, oU, oU] []))
  refine up ?_ fun t k => XS.aloadN X0.here hx rfl (hb hby d11_10) rfl rfl k
  show own_G (s₁.setTop (mkF m 11 #[oA a, oI bits, oI (0 : Int32), oI bs, oU, oU, oU, oU, oU, oU, oU, oU, oU] [(.ref a)]))
  obtain ⟨T223, X223, e223, st223⟩ := getF X0 hx hZ hown (host := "") (Or.inl (hw _ (own_m 20 rfl))) Via.refl e0 Fl (g := (mkF m 11 #[oA a, oI bits, oI (0 : Int32), oI bs, oU, oU, oU, oU, oU, oU, oU, oU, oU] [(.ref a)])) rfl rfl (hb hby d11_11)
  refine up ?_ st223
  show own_G (T223.setTop (mkF m 14 #[oA a, oI bits, oI (0 : Int32), oI bs, oU, oU, oU, oU, oU, oU, oU, oU, oU] [(.int (3 : Int32))]))
  refine up ?_ fun t k => XS.iloadN X223.here hx rfl (hb hby d11_14) rfl (XS.iadd X223.here hx rfl (hb hby d11_15) rfl (XS.iconst X223.here hx rfl (hb hby d11_16) (XS.iadd X223.here hx rfl (hb hby d11_17) rfl (XS.istore X223.here hx rfl (hb hby d11_18) rfl (l' := #[oA a, oI bits, oI (0 : Int32), oI bs, oI (4 : Int32), oU, oU, oU, oU, oU, oU, oU, oU]) rfl (XS.aloadN X223.here hx rfl (hb hby d11_20) rfl rfl k)))))
  show own_G (T223.setTop (mkF m 21 #[oA a, oI bits, oI (0 : Int32), oI bs, oI (4 : Int32), oU, oU, oU, oU, oU, oU, oU, oU] [(.ref a)]))
  obtain ⟨T224, X224, e224, st224⟩ := getF X223 hx hZ hown (host := "") (Or.inl (hw _ (own_m 13 rfl))) Via.refl e223 Fw (g := (mkF m 21 #[oA a, oI bits, oI (0 : Int32), oI bs, oI (4 : Int32), oU, oU, oU, oU, oU, oU, oU, oU] [(.ref a)])) rfl rfl (hb hby d11_21)
  refine up ?_ st224
  show own_G (T224.setTop (mkF m 24 #[oA a, oI bits, oI (0 : Int32), oI bs, oI (4 : Int32), oU, oU, oU, oU, oU, oU, oU, oU] [(.ref r)]))
  refine up ?_ fun t k => XS.aloadN X224.here hx rfl (hb hby d11_24) rfl rfl k
  show own_G (T224.setTop (mkF m 25 #[oA a, oI bits, oI (0 : Int32), oI bs, oI (4 : Int32), oU, oU, oU, oU, oU, oU, oU, oU] [(.ref a), (.ref r)]))
  obtain ⟨T225, X225, e225, st225⟩ := getF X224 hx hZ hown (host := "") (Or.inl (hw _ (own_m 20 rfl))) Via.refl e224 Fl (g := (mkF m 25 #[oA a, oI bits, oI (0 : Int32), oI bs, oI (4 : Int32), oU, oU, oU, oU, oU, oU, oU, oU] [(.ref a), (.ref r)])) rfl rfl (hb hby d11_25)
  refine up ?_ st225
  show own_G (T225.setTop (mkF m 28 #[oA a, oI bits, oI (0 : Int32), oI bs, oI (4 : Int32), oU, oU, oU, oU, oU, oU, oU, oU] [(.int (3 : Int32)), (.ref r)]))
  refine up ?_ fun t k => XS.iconst X225.here hx rfl (hb hby d11_28) (XS.isub X225.here hx rfl (hb hby d11_29) rfl k)
  show own_G (T225.setTop (mkF m 30 #[oA a, oI bits, oI (0 : Int32), oI bs, oI (4 : Int32), oU, oU, oU, oU, oU, oU, oU, oU] [(.int (2 : Int32)), (.ref r)]))
  obtain ⟨cl226, Ar226, qa226, Sa226, Na226, Ha226, Ga226⟩ := id V
  have hin226 : ¬ ((2 : Int32) < 0 ∨ cl226.slots.size ≤ ((2 : Int32)).toNatClampNeg) := inb_of Sa226 ⟨by decide, by decide⟩
  refine up ?_ fun t k => X225.laload hx (j := (2 : Int32)) (v := (.long x2)) (by rw [e225]; exact Ar226.1) (State.isArrayOf_alike hZ.alike Ar226.2.1) Ar226.2.2 hin226 (Ha226.at hin226 rfl) (g := (mkF m 30 #[oA a, oI bits, oI (0 : Int32), oI bs, oI (4 : Int32), oU, oU, oU, oU, oU, oU, oU, oU] [(.int (2 : Int32)), (.ref r)])) rfl rfl (hb hby d11_30) _ (XS.bipush X225.here hx rfl (hb hby d11_31) (XS.lshr X225.here hx rfl (hb hby d11_33) rfl k))
  show own_G (T225.setTop (mkF m 34 #[oA a, oI bits, oI (0 : Int32), oI bs, oI (4 : Int32), oU, oU, oU, oU, oU, oU, oU, oU] [(.long (x2 >>> ((63 : Int32) &&& 0x3f).toInt64))]))
  show own_G (T225.setTop (mkF m 34 #[oA a, oI bits, oI (0 : Int32), oI bs, oI (4 : Int32), oU, oU, oU, oU, oU, oU, oU, oU] [(.long (own_sg x2))]))
  refine up ?_ fun t k => XS.lstore X225.here hx rfl (hb hby d11_34) rfl (l' := #[oA a, oI bits, oI (0 : Int32), oI bs, oI (4 : Int32), oJ (own_sg x2), oS, oU, oU, oU, oU, oU, oU]) rfl (XS.aloadN X225.here hx rfl (hb hby d11_36) rfl rfl k)
  show own_G (T225.setTop (mkF m 37 #[oA a, oI bits, oI (0 : Int32), oI bs, oI (4 : Int32), oJ (own_sg x2), oS, oU, oU, oU, oU, oU, oU] [(.ref a)]))
  obtain ⟨T227, X227, e227, st227⟩ := getF X225 hx hZ hown (host := "") (Or.inl (hw _ (own_m 13 rfl))) Via.refl e225 Fw (g := (mkF m 37 #[oA a, oI bits, oI (0 : Int32), oI bs, oI (4 : Int32), oJ (own_sg x2), oS, oU, oU, oU, oU, oU, oU] [(.ref a)])) rfl rfl (hb hby d11_37)
  refine up ?_ st227
  show own_G (T227.setTop (mkF m 40 #[oA a, oI bits, oI (0 : Int32), oI bs, oI (4 : Int32), oJ (own_sg x2), oS, oU, oU, oU, oU, oU, oU] [(.ref r)]))
  obtain ⟨cl228, Ar228, qa228, Sa228, Na228, Ha228, Ga228⟩ := id V
  refine up ?_ fun t k => X227.arraylength hx (by rw [e227]; exact Ar228.1) (State.isArrayOf_alike hZ.alike Ar228.2.1) (g := (mkF m 40 #[oA a, oI bits, oI (0 : Int32), oI bs, oI (4 : Int32), oJ (own_sg x2), oS, oU, oU, oU, oU, oU, oU] [(.ref r)])) rfl rfl (hb hby d11_40) _ k
  rw [len_of Sa228 Na228]
  show own_G (T227.setTop (mkF m 41 #[oA a, oI bits, oI (0 : Int32), oI bs, oI (4 : Int32), oJ (own_sg x2), oS, oU, oU, oU, oU, oU, oU] [(.int (3 : Int32))]))
  refine up ?_ fun t k => XS.iload X227.here hx rfl (hb hby d11_41) rfl k
  show own_G (T227.setTop (mkF m 43 #[oA a, oI bits, oI (0 : Int32), oI bs, oI (4 : Int32), oJ (own_sg x2), oS, oU, oU, oU, oU, oU, oU] [(.int (4 : Int32)), (.int (3 : Int32))]))
  refine up ?_ fun t k => XS.icmpNo X227.here hx rfl (hb hby d11_43) rfl (tlt (by decide : ((3 : Int32) < (4 : Int32)))).2.1 (XS.iload X227.here hx rfl (hb hby d11_46) rfl k)
  show own_G (T227.setTop (mkF m 48 #[oA a, oI bits, oI (0 : Int32), oI bs, oI (4 : Int32), oJ (own_sg x2), oS, oU, oU, oU, oU, oU, oU] [(.int (4 : Int32))]))
  obtain ⟨T229, h229, k229, X229, e229, E229, A229, st229⟩ := newP X227 hx hZ (hw _ (own_m 32 rfl)) e227 (g := (mkF m 48 #[oA a, oI bits, oI (0 : Int32), oI bs, oI (4 : Int32), oJ (own_sg x2), oS, oU, oU, oU, oU, oU, oU] [(.int (4 : Int32))])) rfl (hb hby d11_48) rfl (by decide) (cap := 4) (by decide) (by decide) (by decide) (by decide)
  obtain ⟨b229, g229⟩ : ∃ z, z = h0.size := ⟨_, rfl⟩
  rw [← g229] at A229 st229
  refine up ?_ st229
  have ne230 : a ≠ b229 := Nat.ne_of_lt (Nat.lt_of_lt_of_le E_a.lt (Nat.le_of_eq g229.symm))
  have ne231 : r ≠ b229 := Nat.ne_of_lt (Nat.lt_of_lt_of_le V.lt (Nat.le_of_eq g229.symm))
  have ge232 : n0 ≤ b229 := Nat.le_trans Z0 (Nat.le_of_eq g229.symm)
  have E_a_c233 := E_a.ext E229
  have Fw_c233 := Fw.ext E229
  have Fl_c233 := Fl.ext E229
  have Fp_c233 := Fp.ext E229
  have V_c233 := V.ext E229
  have kq234 := Nat.le_trans (Nat.le_refl h0.size) E229.1
  have Zs235 : n0 ≤ h229.size := Nat.le_trans Z0 E229.1
  have V_b229 : Arv Z h229 b229 k229 .long (4 : Int32) [(.long (0 : Int64)), (.long (0 : Int64)), (.long (0 : Int64)), (.long (0 : Int64))] (.long (0 : Int64)) := (Arv.new A229 (by decide)).pad (pad_rep [] (.long (0 : Int64)) 4)
  show own_G (T229.setTop (mkF m 50 #[oA a, oI bits, oI (0 : Int32), oI bs, oI (4 : Int32), oJ (own_sg x2), oS, oU, oU, oU, oU, oU, oU] [(.ref b229)]))
  refine up ?_ fun t k => XS.goto X229.here hx rfl (pc0 := 50) (pc' := 57) rfl (hb hby d11_50) (by decide) (by decide) (XS.astore X229.here hx rfl (hb hby d11_57) rfl rfl (l' := #[oA a, oI bits, oI (0 : Int32), oI bs, oI (4 : Int32), oJ (own_sg x2), oS, oA b229, oU, oU, oU, oU, oU]) rfl (XS.aloadN X229.here hx rfl (hb hby d11_59) rfl rfl k))
  show own_G (T229.setTop (mkF m 60 #[oA a, oI bits, oI (0 : Int32), oI bs, oI (4 : Int32), oJ (own_sg x2), oS, oA b229, oU, oU, oU, oU, oU] [(.ref a)]))
  obtain ⟨T236, X236, e236, st236⟩ := getF X229 hx hZ hown (host := "") (Or.inl (hw _ (own_m 20 rfl))) Via.refl e229 Fl_c233 (g := (mkF m 60 #[oA a, oI bits, oI (0 : Int32), oI bs, oI (4 : Int32), oJ (own_sg x2), oS, oA b229, oU, oU, oU, oU, oU] [(.ref a)])) rfl rfl (hb hby d11_60)
  refine up ?_ st236
  show own_G (T236.setTop (mkF m 63 #[oA a, oI bits, oI (0 : Int32), oI bs, oI (4 : Int32), oJ (own_sg x2), oS, oA b229, oU, oU, oU, oU, oU] [(.int (3 : Int32))]))
  refine up ?_ fun t k => XS.istore X236.here hx rfl (hb hby d11_63) rfl (l' := #[oA a, oI bits, oI (0 : Int32), oI bs, oI (4 : Int32), oJ (own_sg x2), oS, oA b229, oI (3 : Int32), oU, oU, oU, oU]) rfl (XS.iload X236.here hx rfl (hb hby d11_65) rfl k)
  show own_G (T236.setTop (mkF m 67 #[oA a, oI bits, oI (0 : Int32), oI bs, oI (4 : Int32), oJ (own_sg x2), oS, oA b229, oI (3 : Int32), oU, oU, oU, oU] [(.int (3 : Int32))]))
  refine up ?_ fun t k => XS.ifNo X236.here hx rfl (hb hby d11_67) rfl ((if0 _ _).trans (flt (by decide : ¬ ((3 : Int32) < (0 : Int32)))).1) (XS.iload X236.here hx rfl (hb hby d11_70) rfl (XS.aloadN X236.here hx rfl (hb hby d11_72) rfl rfl k))
  show own_G (T236.setTop (mkF m 73 #[oA a, oI bits, oI (0 : Int32), oI bs, oI (4 : Int32), oJ (own_sg x2), oS, oA b229, oI (3 : Int32), oU, oU, oU, oU] [(.ref a), (.int (3 : Int32))]))
  obtain ⟨T237, X237, e237, st237⟩ := getF X236 hx hZ hown (host := "") (Or.inl (hw _ (own_m 20 rfl))) Via.refl e236 Fl_c233 (g := (mkF m 73 #[oA a, oI bits, oI (0 : Int32), oI bs, oI (4 : Int32), oJ (own_sg x2), oS, oA b229, oI (3 : Int32), oU, oU, oU, oU] [(.ref a), (.int (3 : Int32))])) rfl rfl (hb hby d11_73)
  refine up ?_ st237
  show own_G (T237.setTop (mkF m 76 #[oA a, oI bits, oI (0 : Int32), oI bs, oI (4 : Int32), oJ (own_sg x2), oS, oA b229, oI (3 : Int32), oU, oU, oU, oU] [(.int (3 : Int32)), (.int (3 : Int32))]))
  refine up ?_ fun t k => XS.icmpYes X237.here hx rfl (pc0 := 76) (pc' := 89) rfl (hb hby d11_76) rfl (flt (by decide : ¬ ((3 : Int32) < (3 : Int32)))).2.1 (by decide) (by decide) (XS.lload X237.here hx rfl (hb hby d11_89) rfl (XS.lstore X237.here hx rfl (hb hby d11_91) rfl (l' := #[oA a, oI bits, oI (0 : Int32), oI bs, oI (4 : Int32), oJ (own_sg x2), oS, oA b229, oI (3 : Int32), oJ (own_sg x2), oS, oU, oU]) rfl (XS.iload X237.here hx rfl (hb hby d11_93) rfl k)))
  show own_G (T237.setTop (mkF m 95 #[oA a, oI bits, oI (0 : Int32), oI bs, oI (4 : Int32), oJ (own_sg x2), oS, oA b229, oI (3 : Int32), oJ (own_sg x2), oS, oU, oU] [(.int (3 : Int32))]))
  refine up ?_ fun t k => XS.ifYes X237.here hx rfl (pc0 := 95) (pc' := 102) rfl (hb hby d11_95) rfl ((if0 _ _).trans (feq (by decide : ¬ ((3 : Int32) = (0 : Int32)))).2) (by decide) (by decide) (XS.aloadN X237.here hx rfl (hb hby d11_102) rfl rfl k)
  show own_G (T237.setTop (mkF m 103 #[oA a, oI bits, oI (0 : Int32), oI bs, oI (4 : Int32), oJ (own_sg x2), oS, oA b229, oI (3 : Int32), oJ (own_sg x2), oS, oU, oU] [(.ref a)]))
  obtain ⟨T238, X238, e238, st238⟩ := getF X237 hx hZ hown (host := "") (Or.inl (hw _ (own_m 13 rfl))) Via.refl e237 Fw_c233 (g := (mkF m 103 #[oA a, oI bits, oI (0 : Int32), oI bs, oI (4 : Int32), oJ (own_sg x2), oS, oA b229, oI (3 : Int32), oJ (own_sg x2), oS, oU, oU] [(.ref a)])) rfl rfl (hb hby d11_103)
  refine up ?_ st238
  show own_G (T238.setTop (mkF m 106 #[oA a, oI bits, oI (0 : Int32), oI bs, oI (4 : Int32), oJ (own_sg x2), oS, oA b229, oI (3 : Int32), oJ (own_sg x2), oS, oU, oU] [(.ref r)]))
  refine up ?_ fun t k => XS.iload X238.here hx rfl (hb hby d11_106) rfl (XS.iconst X238.here hx rfl (hb hby d11_108) (XS.isub X238.here hx rfl (hb hby d11_109) rfl k))
  show own_G (T238.setTop (mkF m 110 #[oA a, oI bits, oI (0 : Int32), oI bs, oI (4 : Int32), oJ (own_sg x2), oS, oA b229, oI (3 : Int32), oJ (own_sg x2), oS, oU, oU] [(.int (2 : Int32)), (.ref r)]))
  obtain ⟨cl239, Ar239, qa239, Sa239, Na239, Ha239, Ga239⟩ := id V_c233
  have hin239 : ¬ ((2 : Int32) < 0 ∨ cl239.slots.size ≤ ((2 : Int32)).toNatClampNeg) := inb_of Sa239 ⟨by decide, by decide⟩
  refine up ?_ fun t k => X238.laload hx (j := (2 : Int32)) (v := (.long x2)) (by rw [e238]; exact Ar239.1) (State.isArrayOf_alike hZ.alike Ar239.2.1) Ar239.2.2 hin239 (Ha239.at hin239 rfl) (g := (mkF m 110 #[oA a, oI bits, oI (0 : Int32), oI bs, oI (4 : Int32), oJ (own_sg x2), oS, oA b229, oI (3 : Int32), oJ (own_sg x2), oS, oU, oU] [(.int (2 : Int32)), (.ref r)])) rfl rfl (hb hby d11_110) _ (XS.lstore X238.here hx rfl (hb hby d11_111) rfl (l' := #[oA a, oI bits, oI (0 : Int32), oI bs, oI (4 : Int32), oJ (own_sg x2), oS, oA b229, oI (3 : Int32), oJ (own_sg x2), oS, oJ x2, oS]) rfl (XS.aload X238.here hx rfl (hb hby d11_113) rfl rfl (XS.iload X238.here hx rfl (hb hby d11_115) rfl (XS.iloadN X238.here hx rfl (hb hby d11_117) rfl (XS.iadd X238.here hx rfl (hb hby d11_118) rfl (XS.lload X238.here hx rfl (hb hby d11_119) rfl (XS.iloadN X238.here hx rfl (hb hby d11_121) rfl (XS.lshl X238.here hx rfl (hb hby d11_122) rfl (XS.lload X238.here hx rfl (hb hby d11_123) rfl k)))))))))
  show own_G (T238.setTop (mkF m 125 #[oA a, oI bits, oI (0 : Int32), oI bs, oI (4 : Int32), oJ (own_sg x2), oS, oA b229, oI (3 : Int32), oJ (own_sg x2), oS, oJ x2, oS] [(.long x2), (.long ((own_sg x2) <<< (bs &&& 0x3f).toInt64)), (.int (3 : Int32)), (.ref b229)]))
  refine up ?_ fun t k => XS.iconst X238.here hx rfl (hb hby d11_125) (XS.lushr X238.here hx rfl (hb hby d11_126) rfl (XS.bipush X238.here hx rfl (hb hby d11_127) (XS.iloadN X238.here hx rfl (hb hby d11_129) rfl (XS.isub X238.here hx rfl (hb hby d11_130) rfl (XS.lushr X238.here hx rfl (hb hby d11_131) rfl (XS.lor X238.here hx rfl (hb hby d11_132) rfl k))))))
  show own_G (T238.setTop (mkF m 133 #[oA a, oI bits, oI (0 : Int32), oI bs, oI (4 : Int32), oJ (own_sg x2), oS, oA b229, oI (3 : Int32), oJ (own_sg x2), oS, oJ x2, oS] [(.long (((own_sg x2) <<< (bs &&& 0x3f).toInt64) ||| ((((x2.toUInt64 >>> ((1 : Int32) &&& 0x3f).toInt64.toUInt64).toInt64).toUInt64 >>> (((63 : Int32) - bs) &&& 0x3f).toInt64.toUInt64).toInt64))), (.int (3 : Int32)), (.ref b229)]))
  show own_G (T238.setTop (mkF m 133 #[oA a, oI bits, oI (0 : Int32), oI bs, oI (4 : Int32), oJ (own_sg x2), oS, oA b229, oI (3 : Int32), oJ (own_sg x2), oS, oJ x2, oS] [(.long (own_s2 (own_sg x2) x2 bs)), (.int (3 : Int32)), (.ref b229)]))
  obtain ⟨cl240, Ar240, qa240, Sa240, Na240, Ha240, Ga240⟩ := id V_b229
  have hin240 : ¬ ((3 : Int32) < 0 ∨ cl240.slots.size ≤ ((3 : Int32)).toNatClampNeg) := inb_of Sa240 ⟨by decide, by decide⟩
  obtain ⟨T240, h240, X240, e240, W240, st240⟩ := stJ X238 hx hZ e238 Ar240 (j := (3 : Int32)) hin240 (g := (mkF m 133 #[oA a, oI bits, oI (0 : Int32), oI bs, oI (4 : Int32), oJ (own_sg x2), oS, oA b229, oI (3 : Int32), oJ (own_sg x2), oS, oJ x2, oS] [(.long (own_s2 (own_sg x2) x2 bs)), (.int (3 : Int32)), (.ref b229)])) rfl rfl (hb hby d11_133)
  refine up ?_ st240
  have E_a_c241 := E_a_c233.wr W240
  have Fw_c241 := Fw_c233.other W240 (Or.inl ne230)
  have Fl_c241 := Fl_c233.other W240 (Or.inl ne230)
  have Fp_c241 := Fp_c233.other W240 (Or.inl ne230)
  have V_c241 := V_c233.other W240 ne231
  have V240 : Arv Z h240 b229 k229 .long (4 : Int32) [(.long (0 : Int64)), (.long (0 : Int64)), (.long (0 : Int64)), (.long (own_s2 (own_sg x2) x2 bs))] (.long (0 : Int64)) := Arv.set Ar240 qa240 Sa240 Na240 Ha240 Ga240 rfl W240 3 rfl (Nat.le_of_ble_eq_true rfl)
  have N240 := Fr.snoc X240 N0 ge232
  have kq242 := Nat.le_trans kq234 (Keep.of_wr W240).1
  have Zs243 : n0 ≤ h240.size := Nat.le_trans Zs235 (Keep.of_wr W240).1
  show own_G (T240.setTop (mkF m 134 #[oA a, oI bits, oI (0 : Int32), oI bs, oI (4 : Int32), oJ (own_sg x2), oS, oA b229, oI (3 : Int32), oJ (own_sg x2), oS, oJ x2, oS] []))
  refine up ?_ fun t k => XS.iinc X240.here hx rfl (hb hby d11_134) rfl (l' := #[oA a, oI bits, oI (0 : Int32), oI bs, oI (4 : Int32), oJ (own_sg x2), oS, oA b229, oI (2 : Int32), oJ (own_sg x2), oS, oJ x2, oS]) rfl (XS.goto X240.here hx rfl (pc0 := 137) (pc' := 65) rfl (hb hby d11_137) (by decide) (by decide) (XS.iload X240.here hx rfl (hb hby d11_65) rfl k))
  show own_G (T240.setTop (mkF m 67 #[oA a, oI bits, oI (0 : Int32), oI bs, oI (4 : Int32), oJ (own_sg x2), oS, oA b229, oI (2 : Int32), oJ (own_sg x2), oS, oJ x2, oS] [(.int (2 : Int32))]))
  refine up ?_ fun t k => XS.ifNo X240.here hx rfl (hb hby d11_67) rfl ((if0 _ _).trans (flt (by decide : ¬ ((2 : Int32) < (0 : Int32)))).1) (XS.iload X240.here hx rfl (hb hby d11_70) rfl (XS.aloadN X240.here hx rfl (hb hby d11_72) rfl rfl k))
  show own_G (T240.setTop (mkF m 73 #[oA a, oI bits, oI (0 : Int32), oI bs, oI (4 : Int32), oJ (own_sg x2), oS, oA b229, oI (2 : Int32), oJ (own_sg x2), oS, oJ x2, oS] [(.ref a), (.int (2 : Int32))]))
  obtain ⟨T244, X244, e244, st244⟩ := getF X240 hx hZ hown (host := "") (Or.inl (hw _ (own_m 20 rfl))) Via.refl e240 Fl_c241 (g := (mkF m 73 #[oA a, oI bits, oI (0 : Int32), oI bs, oI (4 : Int32), oJ (own_sg x2), oS, oA b229, oI (2 : Int32), oJ (own_sg x2), oS, oJ x2, oS] [(.ref a), (.int (2 : Int32))])) rfl rfl (hb hby d11_73)
  refine up ?_ st244
  show own_G (T244.setTop (mkF m 76 #[oA a, oI bits, oI (0 : Int32), oI bs, oI (4 : Int32), oJ (own_sg x2), oS, oA b229, oI (2 : Int32), oJ (own_sg x2), oS, oJ x2, oS] [(.int (3 : Int32)), (.int (2 : Int32))]))
  refine up ?_ fun t k => XS.icmpNo X244.here hx rfl (hb hby d11_76) rfl (tlt (by decide : ((2 : Int32) < (3 : Int32)))).2.1 (XS.aloadN X244.here hx rfl (hb hby d11_79) rfl rfl k)
  show own_G (T244.setTop (mkF m 80 #[oA a, oI bits, oI (0 : Int32), oI bs, oI (4 : Int32), oJ (own_sg x2), oS, oA b229, oI (2 : Int32), oJ (own_sg x2), oS, oJ x2, oS] [(.ref a)]))
  obtain ⟨T245, X245, e245, st245⟩ := getF X244 hx hZ hown (host := "") (Or.inl (hw _ (own_m 13 rfl))) Via.refl e244 Fw_c241 (g := (mkF m 80 #[oA a, oI bits, oI (0 : Int32), oI bs, oI (4 : Int32), oJ (own_sg x2), oS, oA b229, oI (2 : Int32), oJ (own_sg x2), oS, oJ x2, oS] [(.ref a)])) rfl rfl (hb hby d11_80)
  refine up ?_ st245
  show own_G (T245.setTop (mkF m 83 #[oA a, oI bits, oI (0 : Int32), oI bs, oI (4 : Int32), oJ (own_sg x2), oS, oA b229, oI (2 : Int32), oJ (own_sg x2), oS, oJ x2, oS] [(.ref r)]))
  refine up ?_ fun t k => XS.iload X245.here hx rfl (hb hby d11_83) rfl k
  show own_G (T245.setTop (mkF m 85 #[oA a, oI bits, oI (0 : Int32), oI bs, oI (4 : Int32), oJ (own_sg x2), oS, oA b229, oI (2 : Int32), oJ (own_sg x2), oS, oJ x2, oS] [(.int (2 : Int32)), (.ref r)]))
  obtain ⟨cl246, Ar246, qa246, Sa246, Na246, Ha246, Ga246⟩ := id V_c241
  have hin246 : ¬ ((2 : Int32) < 0 ∨ cl246.slots.size ≤ ((2 : Int32)).toNatClampNeg) := inb_of Sa246 ⟨by decide, by decide⟩
  refine up ?_ fun t k => X245.laload hx (j := (2 : Int32)) (v := (.long x2)) (by rw [e245]; exact Ar246.1) (State.isArrayOf_alike hZ.alike Ar246.2.1) Ar246.2.2 hin246 (Ha246.at hin246 rfl) (g := (mkF m 85 #[oA a, oI bits, oI (0 : Int32), oI bs, oI (4 : Int32), oJ (own_sg x2), oS, oA b229, oI (2 : Int32), oJ (own_sg x2), oS, oJ x2, oS] [(.int (2 : Int32)), (.ref r)])) rfl rfl (hb hby d11_85) _ (XS.goto X245.here hx rfl (pc0 := 86) (pc' := 91) rfl (hb hby d11_86) (by decide) (by decide) (XS.lstore X245.here hx rfl (hb hby d11_91) rfl (l' := #[oA a, oI bits, oI (0 : Int32), oI bs, oI (4 : Int32), oJ (own_sg x2), oS, oA b229, oI (2 : Int32), oJ x2, oS, oJ x2, oS]) rfl (XS.iload X245.here hx rfl (hb hby d11_93) rfl k)))
  show own_G (T245.setTop (mkF m 95 #[oA a, oI bits, oI (0 : Int32), oI bs, oI (4 : Int32), oJ (own_sg x2), oS, oA b229, oI (2 : Int32), oJ x2, oS, oJ x2, oS] [(.int (2 : Int32))]))
  refine up ?_ fun t k => XS.ifYes X245.here hx rfl (pc0 := 95) (pc' := 102) rfl (hb hby d11_95) rfl ((if0 _ _).trans (feq (by decide : ¬ ((2 : Int32) = (0 : Int32)))).2) (by decide) (by decide) (XS.aloadN X245.here hx rfl (hb hby d11_102) rfl rfl k)
  show own_G (T245.setTop (mkF m 103 #[oA a, oI bits, oI (0 : Int32), oI bs, oI (4 : Int32), oJ (own_sg x2), oS, oA b229, oI (2 : Int32), oJ x2, oS, oJ x2, oS] [(.ref a)]))
  obtain ⟨T247, X247, e247, st247⟩ := getF X245 hx hZ hown (host := "") (Or.inl (hw _ (own_m 13 rfl))) Via.refl e245 Fw_c241 (g := (mkF m 103 #[oA a, oI bits, oI (0 : Int32), oI bs, oI (4 : Int32), oJ (own_sg x2), oS, oA b229, oI (2 : Int32), oJ x2, oS, oJ x2, oS] [(.ref a)])) rfl rfl (hb hby d11_103)
  refine up ?_ st247
  show own_G (T247.setTop (mkF m 106 #[oA a, oI bits, oI (0 : Int32), oI bs, oI (4 : Int32), oJ (own_sg x2), oS, oA b229, oI (2 : Int32), oJ x2, oS, oJ x2, oS] [(.ref r)]))
  refine up ?_ fun t k => XS.iload X247.here hx rfl (hb hby d11_106) rfl (XS.iconst X247.here hx rfl (hb hby d11_108) (XS.isub X247.here hx rfl (hb hby d11_109) rfl k))
  show own_G (T247.setTop (mkF m 110 #[oA a, oI bits, oI (0 : Int32), oI bs, oI (4 : Int32), oJ (own_sg x2), oS, oA b229, oI (2 : Int32), oJ x2, oS, oJ x2, oS] [(.int (1 : Int32)), (.ref r)]))
  obtain ⟨cl248, Ar248, qa248, Sa248, Na248, Ha248, Ga248⟩ := id V_c241
  have hin248 : ¬ ((1 : Int32) < 0 ∨ cl248.slots.size ≤ ((1 : Int32)).toNatClampNeg) := inb_of Sa248 ⟨by decide, by decide⟩
  refine up ?_ fun t k => X247.laload hx (j := (1 : Int32)) (v := (.long x1)) (by rw [e247]; exact Ar248.1) (State.isArrayOf_alike hZ.alike Ar248.2.1) Ar248.2.2 hin248 (Ha248.at hin248 rfl) (g := (mkF m 110 #[oA a, oI bits, oI (0 : Int32), oI bs, oI (4 : Int32), oJ (own_sg x2), oS, oA b229, oI (2 : Int32), oJ x2, oS, oJ x2, oS] [(.int (1 : Int32)), (.ref r)])) rfl rfl (hb hby d11_110) _ (XS.lstore X247.here hx rfl (hb hby d11_111) rfl (l' := #[oA a, oI bits, oI (0 : Int32), oI bs, oI (4 : Int32), oJ (own_sg x2), oS, oA b229, oI (2 : Int32), oJ x2, oS, oJ x1, oS]) rfl (XS.aload X247.here hx rfl (hb hby d11_113) rfl rfl (XS.iload X247.here hx rfl (hb hby d11_115) rfl (XS.iloadN X247.here hx rfl (hb hby d11_117) rfl (XS.iadd X247.here hx rfl (hb hby d11_118) rfl (XS.lload X247.here hx rfl (hb hby d11_119) rfl (XS.iloadN X247.here hx rfl (hb hby d11_121) rfl (XS.lshl X247.here hx rfl (hb hby d11_122) rfl (XS.lload X247.here hx rfl (hb hby d11_123) rfl k)))))))))
  show own_G (T247.setTop (mkF m 125 #[oA a, oI bits, oI (0 : Int32), oI bs, oI (4 : Int32), oJ (own_sg x2), oS, oA b229, oI (2 : Int32), oJ x2, oS, oJ x1, oS] [(.long x1), (.long (x2 <<< (bs &&& 0x3f).toInt64)), (.int (2 : Int32)), (.ref b229)]))
  refine up ?_ fun t k => XS.iconst X247.here hx rfl (hb hby d11_125) (XS.lushr X247.here hx rfl (hb hby d11_126) rfl (XS.bipush X247.here hx rfl (hb hby d11_127) (XS.iloadN X247.here hx rfl (hb hby d11_129) rfl (XS.isub X247.here hx rfl (hb hby d11_130) rfl (XS.lushr X247.here hx rfl (hb hby d11_131) rfl (XS.lor X247.here hx rfl (hb hby d11_132) rfl k))))))
  show own_G (T247.setTop (mkF m 133 #[oA a, oI bits, oI (0 : Int32), oI bs, oI (4 : Int32), oJ (own_sg x2), oS, oA b229, oI (2 : Int32), oJ x2, oS, oJ x1, oS] [(.long ((x2 <<< (bs &&& 0x3f).toInt64) ||| ((((x1.toUInt64 >>> ((1 : Int32) &&& 0x3f).toInt64.toUInt64).toInt64).toUInt64 >>> (((63 : Int32) - bs) &&& 0x3f).toInt64.toUInt64).toInt64))), (.int (2 : Int32)), (.ref b229)]))
  show own_G (T247.setTop (mkF m 133 #[oA a, oI bits, oI (0 : Int32), oI bs, oI (4 : Int32), oJ (own_sg x2), oS, oA b229, oI (2 : Int32), oJ x2, oS, oJ x1, oS] [(.long (own_s2 x2 x1 bs)), (.int (2 : Int32)), (.ref b229)]))
  obtain ⟨cl249, Ar249, qa249, Sa249, Na249, Ha249, Ga249⟩ := id V240
  have hin249 : ¬ ((2 : Int32) < 0 ∨ cl249.slots.size ≤ ((2 : Int32)).toNatClampNeg) := inb_of Sa249 ⟨by decide, by decide⟩
  obtain ⟨T249, h249, X249, e249, W249, st249⟩ := stJ X247 hx hZ e247 Ar249 (j := (2 : Int32)) hin249 (g := (mkF m 133 #[oA a, oI bits, oI (0 : Int32), oI bs, oI (4 : Int32), oJ (own_sg x2), oS, oA b229, oI (2 : Int32), oJ x2, oS, oJ x1, oS] [(.long (own_s2 x2 x1 bs)), (.int (2 : Int32)), (.ref b229)])) rfl rfl (hb hby d11_133)
  refine up ?_ st249
  have E_a_c250 := E_a_c241.wr W249
  have Fw_c250 := Fw_c241.other W249 (Or.inl ne230)
  have Fl_c250 := Fl_c241.other W249 (Or.inl ne230)
  have Fp_c250 := Fp_c241.other W249 (Or.inl ne230)
  have V_c250 := V_c241.other W249 ne231
  have V249 : Arv Z h249 b229 k229 .long (4 : Int32) [(.long (0 : Int64)), (.long (0 : Int64)), (.long (own_s2 x2 x1 bs)), (.long (own_s2 (own_sg x2) x2 bs))] (.long (0 : Int64)) := Arv.set Ar249 qa249 Sa249 Na249 Ha249 Ga249 rfl W249 2 rfl (Nat.le_of_ble_eq_true rfl)
  have N249 := Fr.snoc X249 N240 ge232
  have kq251 := Nat.le_trans kq242 (Keep.of_wr W249).1
  have Zs252 : n0 ≤ h249.size := Nat.le_trans Zs243 (Keep.of_wr W249).1
  show own_G (T249.setTop (mkF m 134 #[oA a, oI bits, oI (0 : Int32), oI bs, oI (4 : Int32), oJ (own_sg x2), oS, oA b229, oI (2 : Int32), oJ x2, oS, oJ x1, oS] []))
  refine up ?_ fun t k => XS.iinc X249.here hx rfl (hb hby d11_134) rfl (l' := #[oA a, oI bits, oI (0 : Int32), oI bs, oI (4 : Int32), oJ (own_sg x2), oS, oA b229, oI (1 : Int32), oJ x2, oS, oJ x1, oS]) rfl (XS.goto X249.here hx rfl (pc0 := 137) (pc' := 65) rfl (hb hby d11_137) (by decide) (by decide) (XS.iload X249.here hx rfl (hb hby d11_65) rfl k))
  show own_G (T249.setTop (mkF m 67 #[oA a, oI bits, oI (0 : Int32), oI bs, oI (4 : Int32), oJ (own_sg x2), oS, oA b229, oI (1 : Int32), oJ x2, oS, oJ x1, oS] [(.int (1 : Int32))]))
  refine up ?_ fun t k => XS.ifNo X249.here hx rfl (hb hby d11_67) rfl ((if0 _ _).trans (flt (by decide : ¬ ((1 : Int32) < (0 : Int32)))).1) (XS.iload X249.here hx rfl (hb hby d11_70) rfl (XS.aloadN X249.here hx rfl (hb hby d11_72) rfl rfl k))
  show own_G (T249.setTop (mkF m 73 #[oA a, oI bits, oI (0 : Int32), oI bs, oI (4 : Int32), oJ (own_sg x2), oS, oA b229, oI (1 : Int32), oJ x2, oS, oJ x1, oS] [(.ref a), (.int (1 : Int32))]))
  obtain ⟨T253, X253, e253, st253⟩ := getF X249 hx hZ hown (host := "") (Or.inl (hw _ (own_m 20 rfl))) Via.refl e249 Fl_c250 (g := (mkF m 73 #[oA a, oI bits, oI (0 : Int32), oI bs, oI (4 : Int32), oJ (own_sg x2), oS, oA b229, oI (1 : Int32), oJ x2, oS, oJ x1, oS] [(.ref a), (.int (1 : Int32))])) rfl rfl (hb hby d11_73)
  refine up ?_ st253
  show own_G (T253.setTop (mkF m 76 #[oA a, oI bits, oI (0 : Int32), oI bs, oI (4 : Int32), oJ (own_sg x2), oS, oA b229, oI (1 : Int32), oJ x2, oS, oJ x1, oS] [(.int (3 : Int32)), (.int (1 : Int32))]))
  refine up ?_ fun t k => XS.icmpNo X253.here hx rfl (hb hby d11_76) rfl (tlt (by decide : ((1 : Int32) < (3 : Int32)))).2.1 (XS.aloadN X253.here hx rfl (hb hby d11_79) rfl rfl k)
  show own_G (T253.setTop (mkF m 80 #[oA a, oI bits, oI (0 : Int32), oI bs, oI (4 : Int32), oJ (own_sg x2), oS, oA b229, oI (1 : Int32), oJ x2, oS, oJ x1, oS] [(.ref a)]))
  obtain ⟨T254, X254, e254, st254⟩ := getF X253 hx hZ hown (host := "") (Or.inl (hw _ (own_m 13 rfl))) Via.refl e253 Fw_c250 (g := (mkF m 80 #[oA a, oI bits, oI (0 : Int32), oI bs, oI (4 : Int32), oJ (own_sg x2), oS, oA b229, oI (1 : Int32), oJ x2, oS, oJ x1, oS] [(.ref a)])) rfl rfl (hb hby d11_80)
  refine up ?_ st254
  show own_G (T254.setTop (mkF m 83 #[oA a, oI bits, oI (0 : Int32), oI bs, oI (4 : Int32), oJ (own_sg x2), oS, oA b229, oI (1 : Int32), oJ x2, oS, oJ x1, oS] [(.ref r)]))
  refine up ?_ fun t k => XS.iload X254.here hx rfl (hb hby d11_83) rfl k
  show own_G (T254.setTop (mkF m 85 #[oA a, oI bits, oI (0 : Int32), oI bs, oI (4 : Int32), oJ (own_sg x2), oS, oA b229, oI (1 : Int32), oJ x2, oS, oJ x1, oS] [(.int (1 : Int32)), (.ref r)]))
  obtain ⟨cl255, Ar255, qa255, Sa255, Na255, Ha255, Ga255⟩ := id V_c250
  have hin255 : ¬ ((1 : Int32) < 0 ∨ cl255.slots.size ≤ ((1 : Int32)).toNatClampNeg) := inb_of Sa255 ⟨by decide, by decide⟩
  refine up ?_ fun t k => X254.laload hx (j := (1 : Int32)) (v := (.long x1)) (by rw [e254]; exact Ar255.1) (State.isArrayOf_alike hZ.alike Ar255.2.1) Ar255.2.2 hin255 (Ha255.at hin255 rfl) (g := (mkF m 85 #[oA a, oI bits, oI (0 : Int32), oI bs, oI (4 : Int32), oJ (own_sg x2), oS, oA b229, oI (1 : Int32), oJ x2, oS, oJ x1, oS] [(.int (1 : Int32)), (.ref r)])) rfl rfl (hb hby d11_85) _ (XS.goto X254.here hx rfl (pc0 := 86) (pc' := 91) rfl (hb hby d11_86) (by decide) (by decide) (XS.lstore X254.here hx rfl (hb hby d11_91) rfl (l' := #[oA a, oI bits, oI (0 : Int32), oI bs, oI (4 : Int32), oJ (own_sg x2), oS, oA b229, oI (1 : Int32), oJ x1, oS, oJ x1, oS]) rfl (XS.iload X254.here hx rfl (hb hby d11_93) rfl k)))
  show own_G (T254.setTop (mkF m 95 #[oA a, oI bits, oI (0 : Int32), oI bs, oI (4 : Int32), oJ (own_sg x2), oS, oA b229, oI (1 : Int32), oJ x1, oS, oJ x1, oS] [(.int (1 : Int32))]))
  refine up ?_ fun t k => XS.ifYes X254.here hx rfl (pc0 := 95) (pc' := 102) rfl (hb hby d11_95) rfl ((if0 _ _).trans (feq (by decide : ¬ ((1 : Int32) = (0 : Int32)))).2) (by decide) (by decide) (XS.aloadN X254.here hx rfl (hb hby d11_102) rfl rfl k)
  show own_G (T254.setTop (mkF m 103 #[oA a, oI bits, oI (0 : Int32), oI bs, oI (4 : Int32), oJ (own_sg x2), oS, oA b229, oI (1 : Int32), oJ x1, oS, oJ x1, oS] [(.ref a)]))
  obtain ⟨T256, X256, e256, st256⟩ := getF X254 hx hZ hown (host := "") (Or.inl (hw _ (own_m 13 rfl))) Via.refl e254 Fw_c250 (g := (mkF m 103 #[oA a, oI bits, oI (0 : Int32), oI bs, oI (4 : Int32), oJ (own_sg x2), oS, oA b229, oI (1 : Int32), oJ x1, oS, oJ x1, oS] [(.ref a)])) rfl rfl (hb hby d11_103)
  refine up ?_ st256
  show own_G (T256.setTop (mkF m 106 #[oA a, oI bits, oI (0 : Int32), oI bs, oI (4 : Int32), oJ (own_sg x2), oS, oA b229, oI (1 : Int32), oJ x1, oS, oJ x1, oS] [(.ref r)]))
  refine up ?_ fun t k => XS.iload X256.here hx rfl (hb hby d11_106) rfl (XS.iconst X256.here hx rfl (hb hby d11_108) (XS.isub X256.here hx rfl (hb hby d11_109) rfl k))
  show own_G (T256.setTop (mkF m 110 #[oA a, oI bits, oI (0 : Int32), oI bs, oI (4 : Int32), oJ (own_sg x2), oS, oA b229, oI (1 : Int32), oJ x1, oS, oJ x1, oS] [(.int (0 : Int32)), (.ref r)]))
  obtain ⟨cl257, Ar257, qa257, Sa257, Na257, Ha257, Ga257⟩ := id V_c250
  have hin257 : ¬ ((0 : Int32) < 0 ∨ cl257.slots.size ≤ ((0 : Int32)).toNatClampNeg) := inb_of Sa257 ⟨by decide, by decide⟩
  refine up ?_ fun t k => X256.laload hx (j := (0 : Int32)) (v := (.long x0)) (by rw [e256]; exact Ar257.1) (State.isArrayOf_alike hZ.alike Ar257.2.1) Ar257.2.2 hin257 (Ha257.at hin257 rfl) (g := (mkF m 110 #[oA a, oI bits, oI (0 : Int32), oI bs, oI (4 : Int32), oJ (own_sg x2), oS, oA b229, oI (1 : Int32), oJ x1, oS, oJ x1, oS] [(.int (0 : Int32)), (.ref r)])) rfl rfl (hb hby d11_110) _ (XS.lstore X256.here hx rfl (hb hby d11_111) rfl (l' := #[oA a, oI bits, oI (0 : Int32), oI bs, oI (4 : Int32), oJ (own_sg x2), oS, oA b229, oI (1 : Int32), oJ x1, oS, oJ x0, oS]) rfl (XS.aload X256.here hx rfl (hb hby d11_113) rfl rfl (XS.iload X256.here hx rfl (hb hby d11_115) rfl (XS.iloadN X256.here hx rfl (hb hby d11_117) rfl (XS.iadd X256.here hx rfl (hb hby d11_118) rfl (XS.lload X256.here hx rfl (hb hby d11_119) rfl (XS.iloadN X256.here hx rfl (hb hby d11_121) rfl (XS.lshl X256.here hx rfl (hb hby d11_122) rfl (XS.lload X256.here hx rfl (hb hby d11_123) rfl k)))))))))
  show own_G (T256.setTop (mkF m 125 #[oA a, oI bits, oI (0 : Int32), oI bs, oI (4 : Int32), oJ (own_sg x2), oS, oA b229, oI (1 : Int32), oJ x1, oS, oJ x0, oS] [(.long x0), (.long (x1 <<< (bs &&& 0x3f).toInt64)), (.int (1 : Int32)), (.ref b229)]))
  refine up ?_ fun t k => XS.iconst X256.here hx rfl (hb hby d11_125) (XS.lushr X256.here hx rfl (hb hby d11_126) rfl (XS.bipush X256.here hx rfl (hb hby d11_127) (XS.iloadN X256.here hx rfl (hb hby d11_129) rfl (XS.isub X256.here hx rfl (hb hby d11_130) rfl (XS.lushr X256.here hx rfl (hb hby d11_131) rfl (XS.lor X256.here hx rfl (hb hby d11_132) rfl k))))))
  show own_G (T256.setTop (mkF m 133 #[oA a, oI bits, oI (0 : Int32), oI bs, oI (4 : Int32), oJ (own_sg x2), oS, oA b229, oI (1 : Int32), oJ x1, oS, oJ x0, oS] [(.long ((x1 <<< (bs &&& 0x3f).toInt64) ||| ((((x0.toUInt64 >>> ((1 : Int32) &&& 0x3f).toInt64.toUInt64).toInt64).toUInt64 >>> (((63 : Int32) - bs) &&& 0x3f).toInt64.toUInt64).toInt64))), (.int (1 : Int32)), (.ref b229)]))
  show own_G (T256.setTop (mkF m 133 #[oA a, oI bits, oI (0 : Int32), oI bs, oI (4 : Int32), oJ (own_sg x2), oS, oA b229, oI (1 : Int32), oJ x1, oS, oJ x0, oS] [(.long (own_s2 x1 x0 bs)), (.int (1 : Int32)), (.ref b229)]))
  obtain ⟨cl258, Ar258, qa258, Sa258, Na258, Ha258, Ga258⟩ := id V249
  have hin258 : ¬ ((1 : Int32) < 0 ∨ cl258.slots.size ≤ ((1 : Int32)).toNatClampNeg) := inb_of Sa258 ⟨by decide, by decide⟩
  obtain ⟨T258, h258, X258, e258, W258, st258⟩ := stJ X256 hx hZ e256 Ar258 (j := (1 : Int32)) hin258 (g := (mkF m 133 #[oA a, oI bits, oI (0 : Int32), oI bs, oI (4 : Int32), oJ (own_sg x2), oS, oA b229, oI (1 : Int32), oJ x1, oS, oJ x0, oS] [(.long (own_s2 x1 x0 bs)), (.int (1 : Int32)), (.ref b229)])) rfl rfl (hb hby d11_133)
  refine up ?_ st258
  have E_a_c259 := E_a_c250.wr W258
  have Fw_c259 := Fw_c250.other W258 (Or.inl ne230)
  have Fl_c259 := Fl_c250.other W258 (Or.inl ne230)
  have Fp_c259 := Fp_c250.other W258 (Or.inl ne230)
  have V_c259 := V_c250.other W258 ne231
  have V258 : Arv Z h258 b229 k229 .long (4 : Int32) [(.long (0 : Int64)), (.long (own_s2 x1 x0 bs)), (.long (own_s2 x2 x1 bs)), (.long (own_s2 (own_sg x2) x2 bs))] (.long (0 : Int64)) := Arv.set Ar258 qa258 Sa258 Na258 Ha258 Ga258 rfl W258 1 rfl (Nat.le_of_ble_eq_true rfl)
  have N258 := Fr.snoc X258 N249 ge232
  have kq260 := Nat.le_trans kq251 (Keep.of_wr W258).1
  have Zs261 : n0 ≤ h258.size := Nat.le_trans Zs252 (Keep.of_wr W258).1
  show own_G (T258.setTop (mkF m 134 #[oA a, oI bits, oI (0 : Int32), oI bs, oI (4 : Int32), oJ (own_sg x2), oS, oA b229, oI (1 : Int32), oJ x1, oS, oJ x0, oS] []))
  refine up ?_ fun t k => XS.iinc X258.here hx rfl (hb hby d11_134) rfl (l' := #[oA a, oI bits, oI (0 : Int32), oI bs, oI (4 : Int32), oJ (own_sg x2), oS, oA b229, oI (0 : Int32), oJ x1, oS, oJ x0, oS]) rfl (XS.goto X258.here hx rfl (pc0 := 137) (pc' := 65) rfl (hb hby d11_137) (by decide) (by decide) (XS.iload X258.here hx rfl (hb hby d11_65) rfl k))
  show own_G (T258.setTop (mkF m 67 #[oA a, oI bits, oI (0 : Int32), oI bs, oI (4 : Int32), oJ (own_sg x2), oS, oA b229, oI (0 : Int32), oJ x1, oS, oJ x0, oS] [(.int (0 : Int32))]))
  refine up ?_ fun t k => XS.ifNo X258.here hx rfl (hb hby d11_67) rfl ((if0 _ _).trans (flt (by decide : ¬ ((0 : Int32) < (0 : Int32)))).1) (XS.iload X258.here hx rfl (hb hby d11_70) rfl (XS.aloadN X258.here hx rfl (hb hby d11_72) rfl rfl k))
  show own_G (T258.setTop (mkF m 73 #[oA a, oI bits, oI (0 : Int32), oI bs, oI (4 : Int32), oJ (own_sg x2), oS, oA b229, oI (0 : Int32), oJ x1, oS, oJ x0, oS] [(.ref a), (.int (0 : Int32))]))
  obtain ⟨T262, X262, e262, st262⟩ := getF X258 hx hZ hown (host := "") (Or.inl (hw _ (own_m 20 rfl))) Via.refl e258 Fl_c259 (g := (mkF m 73 #[oA a, oI bits, oI (0 : Int32), oI bs, oI (4 : Int32), oJ (own_sg x2), oS, oA b229, oI (0 : Int32), oJ x1, oS, oJ x0, oS] [(.ref a), (.int (0 : Int32))])) rfl rfl (hb hby d11_73)
  refine up ?_ st262
  show own_G (T262.setTop (mkF m 76 #[oA a, oI bits, oI (0 : Int32), oI bs, oI (4 : Int32), oJ (own_sg x2), oS, oA b229, oI (0 : Int32), oJ x1, oS, oJ x0, oS] [(.int (3 : Int32)), (.int (0 : Int32))]))
  refine up ?_ fun t k => XS.icmpNo X262.here hx rfl (hb hby d11_76) rfl (tlt (by decide : ((0 : Int32) < (3 : Int32)))).2.1 (XS.aloadN X262.here hx rfl (hb hby d11_79) rfl rfl k)
  show own_G (T262.setTop (mkF m 80 #[oA a, oI bits, oI (0 : Int32), oI bs, oI (4 : Int32), oJ (own_sg x2), oS, oA b229, oI (0 : Int32), oJ x1, oS, oJ x0, oS] [(.ref a)]))
  obtain ⟨T263, X263, e263, st263⟩ := getF X262 hx hZ hown (host := "") (Or.inl (hw _ (own_m 13 rfl))) Via.refl e262 Fw_c259 (g := (mkF m 80 #[oA a, oI bits, oI (0 : Int32), oI bs, oI (4 : Int32), oJ (own_sg x2), oS, oA b229, oI (0 : Int32), oJ x1, oS, oJ x0, oS] [(.ref a)])) rfl rfl (hb hby d11_80)
  refine up ?_ st263
  show own_G (T263.setTop (mkF m 83 #[oA a, oI bits, oI (0 : Int32), oI bs, oI (4 : Int32), oJ (own_sg x2), oS, oA b229, oI (0 : Int32), oJ x1, oS, oJ x0, oS] [(.ref r)]))
  refine up ?_ fun t k => XS.iload X263.here hx rfl (hb hby d11_83) rfl k
  show own_G (T263.setTop (mkF m 85 #[oA a, oI bits, oI (0 : Int32), oI bs, oI (4 : Int32), oJ (own_sg x2), oS, oA b229, oI (0 : Int32), oJ x1, oS, oJ x0, oS] [(.int (0 : Int32)), (.ref r)]))
  obtain ⟨cl264, Ar264, qa264, Sa264, Na264, Ha264, Ga264⟩ := id V_c259
  have hin264 : ¬ ((0 : Int32) < 0 ∨ cl264.slots.size ≤ ((0 : Int32)).toNatClampNeg) := inb_of Sa264 ⟨by decide, by decide⟩
  refine up ?_ fun t k => X263.laload hx (j := (0 : Int32)) (v := (.long x0)) (by rw [e263]; exact Ar264.1) (State.isArrayOf_alike hZ.alike Ar264.2.1) Ar264.2.2 hin264 (Ha264.at hin264 rfl) (g := (mkF m 85 #[oA a, oI bits, oI (0 : Int32), oI bs, oI (4 : Int32), oJ (own_sg x2), oS, oA b229, oI (0 : Int32), oJ x1, oS, oJ x0, oS] [(.int (0 : Int32)), (.ref r)])) rfl rfl (hb hby d11_85) _ (XS.goto X263.here hx rfl (pc0 := 86) (pc' := 91) rfl (hb hby d11_86) (by decide) (by decide) (XS.lstore X263.here hx rfl (hb hby d11_91) rfl (l' := #[oA a, oI bits, oI (0 : Int32), oI bs, oI (4 : Int32), oJ (own_sg x2), oS, oA b229, oI (0 : Int32), oJ x0, oS, oJ x0, oS]) rfl (XS.iload X263.here hx rfl (hb hby d11_93) rfl k)))
  show own_G (T263.setTop (mkF m 95 #[oA a, oI bits, oI (0 : Int32), oI bs, oI (4 : Int32), oJ (own_sg x2), oS, oA b229, oI (0 : Int32), oJ x0, oS, oJ x0, oS] [(.int (0 : Int32))]))
  refine up ?_ fun t k => XS.ifNo X263.here hx rfl (hb hby d11_95) rfl ((if0 _ _).trans (teq (by decide : ((0 : Int32) = (0 : Int32)))).2) (XS.lconst X263.here hx rfl (hb hby d11_98) (XS.goto X263.here hx rfl (pc0 := 99) (pc' := 111) rfl (hb hby d11_99) (by decide) (by decide) (XS.lstore X263.here hx rfl (hb hby d11_111) rfl (l' := #[oA a, oI bits, oI (0 : Int32), oI bs, oI (4 : Int32), oJ (own_sg x2), oS, oA b229, oI (0 : Int32), oJ x0, oS, oJ (0 : Int64), oS]) rfl (XS.aload X263.here hx rfl (hb hby d11_113) rfl rfl (XS.iload X263.here hx rfl (hb hby d11_115) rfl (XS.iloadN X263.here hx rfl (hb hby d11_117) rfl (XS.iadd X263.here hx rfl (hb hby d11_118) rfl (XS.lload X263.here hx rfl (hb hby d11_119) rfl (XS.iloadN X263.here hx rfl (hb hby d11_121) rfl k)))))))))
  show own_G (T263.setTop (mkF m 122 #[oA a, oI bits, oI (0 : Int32), oI bs, oI (4 : Int32), oJ (own_sg x2), oS, oA b229, oI (0 : Int32), oJ x0, oS, oJ (0 : Int64), oS] [(.int bs), (.long x0), (.int (0 : Int32)), (.ref b229)]))
  refine up ?_ fun t k => XS.lshl X263.here hx rfl (hb hby d11_122) rfl (XS.lload X263.here hx rfl (hb hby d11_123) rfl (XS.iconst X263.here hx rfl (hb hby d11_125) (XS.lushr X263.here hx rfl (hb hby d11_126) rfl (XS.bipush X263.here hx rfl (hb hby d11_127) (XS.iloadN X263.here hx rfl (hb hby d11_129) rfl (XS.isub X263.here hx rfl (hb hby d11_130) rfl (XS.lushr X263.here hx rfl (hb hby d11_131) rfl (XS.lor X263.here hx rfl (hb hby d11_132) rfl k))))))))
  show own_G (T263.setTop (mkF m 133 #[oA a, oI bits, oI (0 : Int32), oI bs, oI (4 : Int32), oJ (own_sg x2), oS, oA b229, oI (0 : Int32), oJ x0, oS, oJ (0 : Int64), oS] [(.long ((x0 <<< (bs &&& 0x3f).toInt64) ||| (((((0 : Int64).toUInt64 >>> ((1 : Int32) &&& 0x3f).toInt64.toUInt64).toInt64).toUInt64 >>> (((63 : Int32) - bs) &&& 0x3f).toInt64.toUInt64).toInt64))), (.int (0 : Int32)), (.ref b229)]))
  show own_G (T263.setTop (mkF m 133 #[oA a, oI bits, oI (0 : Int32), oI bs, oI (4 : Int32), oJ (own_sg x2), oS, oA b229, oI (0 : Int32), oJ x0, oS, oJ (0 : Int64), oS] [(.long (own_s2 x0 (0 : Int64) bs)), (.int (0 : Int32)), (.ref b229)]))
  obtain ⟨cl265, Ar265, qa265, Sa265, Na265, Ha265, Ga265⟩ := id V258
  have hin265 : ¬ ((0 : Int32) < 0 ∨ cl265.slots.size ≤ ((0 : Int32)).toNatClampNeg) := inb_of Sa265 ⟨by decide, by decide⟩
  obtain ⟨T265, h265, X265, e265, W265, st265⟩ := stJ X263 hx hZ e263 Ar265 (j := (0 : Int32)) hin265 (g := (mkF m 133 #[oA a, oI bits, oI (0 : Int32), oI bs, oI (4 : Int32), oJ (own_sg x2), oS, oA b229, oI (0 : Int32), oJ x0, oS, oJ (0 : Int64), oS] [(.long (own_s2 x0 (0 : Int64) bs)), (.int (0 : Int32)), (.ref b229)])) rfl rfl (hb hby d11_133)
  refine up ?_ st265
  have E_a_c266 := E_a_c259.wr W265
  have Fw_c266 := Fw_c259.other W265 (Or.inl ne230)
  have Fl_c266 := Fl_c259.other W265 (Or.inl ne230)
  have Fp_c266 := Fp_c259.other W265 (Or.inl ne230)
  have V_c266 := V_c259.other W265 ne231
  have V265 : Arv Z h265 b229 k229 .long (4 : Int32) [(.long (own_s2 x0 (0 : Int64) bs)), (.long (own_s2 x1 x0 bs)), (.long (own_s2 x2 x1 bs)), (.long (own_s2 (own_sg x2) x2 bs))] (.long (0 : Int64)) := Arv.set Ar265 qa265 Sa265 Na265 Ha265 Ga265 rfl W265 0 rfl (Nat.le_of_ble_eq_true rfl)
  have N265 := Fr.snoc X265 N258 ge232
  have kq267 := Nat.le_trans kq260 (Keep.of_wr W265).1
  have Zs268 : n0 ≤ h265.size := Nat.le_trans Zs261 (Keep.of_wr W265).1
  show own_G (T265.setTop (mkF m 134 #[oA a, oI bits, oI (0 : Int32), oI bs, oI (4 : Int32), oJ (own_sg x2), oS, oA b229, oI (0 : Int32), oJ x0, oS, oJ (0 : Int64), oS] []))
  refine up ?_ fun t k => XS.iinc X265.here hx rfl (hb hby d11_134) rfl (l' := #[oA a, oI bits, oI (0 : Int32), oI bs, oI (4 : Int32), oJ (own_sg x2), oS, oA b229, oI (-1 : Int32), oJ x0, oS, oJ (0 : Int64), oS]) rfl (XS.goto X265.here hx rfl (pc0 := 137) (pc' := 65) rfl (hb hby d11_137) (by decide) (by decide) (XS.iload X265.here hx rfl (hb hby d11_65) rfl k))
  show own_G (T265.setTop (mkF m 67 #[oA a, oI bits, oI (0 : Int32), oI bs, oI (4 : Int32), oJ (own_sg x2), oS, oA b229, oI (-1 : Int32), oJ x0, oS, oJ (0 : Int64), oS] [(.int (-1 : Int32))]))
  refine up ?_ fun t k => XS.ifYes X265.here hx rfl (pc0 := 67) (pc' := 140) rfl (hb hby d11_67) rfl ((if0 _ _).trans (tlt (by decide : ((-1 : Int32) < (0 : Int32)))).1) (by decide) (by decide) (XS.aload X265.here hx rfl (hb hby d11_140) rfl rfl (XS.iconst X265.here hx rfl (hb hby d11_142) (XS.iloadN X265.here hx rfl (hb hby d11_143) rfl (XS.lconst X265.here hx rfl (hb hby d11_144) k))))
  show own_G (T265.setTop (mkF m 145 #[oA a, oI bits, oI (0 : Int32), oI bs, oI (4 : Int32), oJ (own_sg x2), oS, oA b229, oI (-1 : Int32), oJ x0, oS, oJ (0 : Int64), oS] [(.long (0 : Int64)), (.int (0 : Int32)), (.int (0 : Int32)), (.ref b229)]))
  obtain ⟨_, _, ⟨T269, L269, k269, n269⟩, -, X269, ⟨Lc269, hQ269, l269, y269, z269⟩, st269⟩ := Jvm.LawKit.callS X265 hx (y := (⟨"java/util/Arrays", "fill", "([JIIJ)V"⟩ : MethodName)) hown (mvT hZ (hw _ (own_m 63 rfl))) (mvT hZ (hw _ (own_m 64 rfl))) (mvT hZ (hw _ (own_m 30 rfl))) (mvT hZ (hw _ (own_m 65 rfl))) (by decide) (backOf (W := 0) (rmf0 l Z a0 hw [] b229 k229 (4 : Int32) [(.long (own_s2 x0 (0 : Int64) bs)), (.long (own_s2 x1 x0 bs)), (.long (own_s2 x2 x1 bs)), (.long (own_s2 (own_sg x2) x2 bs))] h265 n0 Zs268 V265 (by decide)) hZ (hw _ (own_m 65 rfl)) (hw _ (own_m 30 rfl)) (by decide) (by decide)) (g := (mkF m 145 #[oA a, oI bits, oI (0 : Int32), oI bs, oI (4 : Int32), oJ (own_sg x2), oS, oA b229, oI (-1 : Int32), oJ x0, oS, oJ (0 : Int64), oS] [(.long (0 : Int64)), (.int (0 : Int32)), (.int (0 : Int32)), (.ref b229)])) rfl (by rw [hml]; rfl) (argsL := [(.ref b229), (.int (0 : Int32)), (.int (0 : Int32)), (.long (0 : Int64))]) (rest := []) (lenOf own_pd4 rfl) rfl (by show 2 * 0 + _ ≤ _; exact Nat.le_of_eq rfl) (hb hby d11_145) (fun _ _ => ⟨rfl, e265, (by decide : 1 + 0 ≤ _), (by decide : 4 + 0 ≤ _)⟩)
  dsimp only [Pt.U, Pt.locs, Pt.cells, Pt.slots] at X269 l269 y269 z269 st269 hQ269
  subst l269 y269 z269
  obtain ⟨rfl, Nq269, e269⟩ := hQ269
  have N269 := Fr.app N265 Nq269
  refine up ?_ (st269)
  show own_G (T269.setTop (mkF m 148 #[oA a, oI bits, oI (0 : Int32), oI bs, oI (4 : Int32), oJ (own_sg x2), oS, oA b229, oI (-1 : Int32), oJ x0, oS, oJ (0 : Int64), oS] []))
  refine up ?_ fun t k => XS.aloadN X269.here hx rfl (hb hby d11_148) rfl rfl (XS.aload X269.here hx rfl (hb hby d11_149) rfl rfl k)
  show own_G (T269.setTop (mkF m 151 #[oA a, oI bits, oI (0 : Int32), oI bs, oI (4 : Int32), oJ (own_sg x2), oS, oA b229, oI (-1 : Int32), oJ x0, oS, oJ (0 : Int64), oS] [(.ref b229), (.ref a)]))
  obtain ⟨T270, h270, X270, e270, W270, st270⟩ := putF X269 hx hZ hown (host := "") (Or.inl (hw _ (own_m 13 rfl))) Via.refl e269 Fw_c266 E_a_c266 (Or.inl (hw _ (own_m 14 rfl))) (hw _ (own_m 3 rfl)) (ty := (.array .long)) (by decide) rfl rfl (g := (mkF m 151 #[oA a, oI bits, oI (0 : Int32), oI bs, oI (4 : Int32), oJ (own_sg x2), oS, oA b229, oI (-1 : Int32), oJ x0, oS, oJ (0 : Int64), oS] [(.ref b229), (.ref a)])) rfl rfl (hb hby d11_151)
  refine up ?_ st270
  have E_a_c271 := E_a_c266.wr W270
  have Fl_c271 := Fl_c266.other W270 (Or.inr (slot_ne (Or.inl (hw _ (own_m 21 rfl))) (Or.inl (hw _ (own_m 14 rfl))) (by decide) (t := .int) (t' := (.array .long)) (by decide) (by decide)))
  have Fp_c271 := Fp_c266.other W270 (Or.inr (slot_ne (Or.inl (hw _ (own_m 23 rfl))) (Or.inl (hw _ (own_m 14 rfl))) (by decide) (t := .int) (t' := (.array .long)) (by decide) (by decide)))
  have V265_c271 := V265.other W270 (Ne.symm ne230)
  have F270 := Fw_c266.same W270
  have N270 := Fr.snoc X270 N269 g_a
  have kq272 := Nat.le_trans kq267 (Keep.of_wr W270).1
  have Zs273 : n0 ≤ h270.size := Nat.le_trans Zs268 (Keep.of_wr W270).1
  show own_G (T270.setTop (mkF m 154 #[oA a, oI bits, oI (0 : Int32), oI bs, oI (4 : Int32), oJ (own_sg x2), oS, oA b229, oI (-1 : Int32), oJ x0, oS, oJ (0 : Int64), oS] []))
  refine up ?_ fun t k => XS.aloadN X270.here hx rfl (hb hby d11_154) rfl rfl (XS.iload X270.here hx rfl (hb hby d11_155) rfl k)
  show own_G (T270.setTop (mkF m 157 #[oA a, oI bits, oI (0 : Int32), oI bs, oI (4 : Int32), oJ (own_sg x2), oS, oA b229, oI (-1 : Int32), oJ x0, oS, oJ (0 : Int64), oS] [(.int (4 : Int32)), (.ref a)]))
  obtain ⟨T274, h274, X274, e274, W274, st274⟩ := putF X270 hx hZ hown (host := "") (Or.inl (hw _ (own_m 20 rfl))) Via.refl e270 Fl_c271 E_a_c271 (Or.inl (hw _ (own_m 21 rfl))) (hw _ (own_m 3 rfl)) (ty := .int) (by decide) rfl rfl (g := (mkF m 157 #[oA a, oI bits, oI (0 : Int32), oI bs, oI (4 : Int32), oJ (own_sg x2), oS, oA b229, oI (-1 : Int32), oJ x0, oS, oJ (0 : Int64), oS] [(.int (4 : Int32)), (.ref a)])) rfl rfl (hb hby d11_157)
  refine up ?_ st274
  have E_a_c275 := E_a_c271.wr W274
  have F270_c275 := F270.other W274 (Or.inr (slot_ne (Or.inl (hw _ (own_m 14 rfl))) (Or.inl (hw _ (own_m 21 rfl))) (by decide) (t := (.array .long)) (t' := .int) (by decide) (by decide)))
  have Fp_c275 := Fp_c271.other W274 (Or.inr (slot_ne (Or.inl (hw _ (own_m 23 rfl))) (Or.inl (hw _ (own_m 21 rfl))) (by decide) (t := .int) (t' := .int) (by decide) (by decide)))
  have V265_c275 := V265_c271.other W274 (Ne.symm ne230)
  have F274 := Fl_c271.same W274
  have N274 := Fr.snoc X274 N270 g_a
  have kq276 := Nat.le_trans kq272 (Keep.of_wr W274).1
  have Zs277 : n0 ≤ h274.size := Nat.le_trans Zs273 (Keep.of_wr W274).1
  show own_G (T274.setTop (mkF m 160 #[oA a, oI bits, oI (0 : Int32), oI bs, oI (4 : Int32), oJ (own_sg x2), oS, oA b229, oI (-1 : Int32), oJ x0, oS, oJ (0 : Int64), oS] []))
  exact own_retV X274 hx hlk hret (hb hby d11_160) (by rw [e274]; exact ⟨rfl, N274, kq276, b229, k229, ge232, ⟨E_a_c275, F270_c275, F274, Fp_c275, V265_c275⟩⟩) (by decide) (by decide)
def own_Q_rmsB4 (Z : State) (a : Addr) (bits : Int32) (r : Addr) (kr : ClassId) (pw : Int32) (x0 : Int64) (x1 : Int64) (x2 : Int64) (x3 : Int64) (bs : Int32) (h0 : Heap) (n0 : Nat) (v : Option Value) (h : Heap) (L : List Loc) : Prop := v = none ∧ Fr n0 L ∧ h0.size ≤ h.size ∧ own_O Z h a r kr (4 : Int32) (4 : Int32) pw [(.long (own_s2 x0 (0 : Int64) bs)), (.long (own_s2 x1 x0 bs)), (.long (own_s2 x2 x1 bs)), (.long (own_s2 (own_sg x2) x2 bs))]
theorem rmsB4 (l : Launch) (Z : State) (a0 : Array Value) (hw : own_W Z a0) (ws : List Jvm.Cond) (a : Addr) (bits : Int32) (r : Addr) (kr : ClassId) (pw : Int32) (x0 : Int64) (x1 : Int64) (x2 : Int64) (x3 : Int64) (bs : Int32) (h0 : Heap) (n0 : Nat) (Z0 : n0 ≤ h0.size) (O0 : own_O Z h0 a r kr (4 : Int32) (3 : Int32) pw [(.long x0), (.long x1), (.long x2), (.long x3)]) (g_a : n0 ≤ a) (g_r : n0 ≤ r) (hws : ((bits.toUInt32 >>> ((6 : Int32) &&& 31).toUInt32).toInt32) = (0 : Int32)) (hbs : (bits &&& (63 : Int32)) = bs) :
    own_M l Z (⟨"com/example/eventweir/eventweir/ExactSum", "shiftUp", "(I)V"⟩ : MethodName) prog_78_method_13_code 13 none ws ({ frames := 2, cells := 0, slots := 0, locals := 31 } : Room) #[(.ref a), (.int bits)] h0 (own_Q_rmsB4 Z a bits r kr pw x0 x1 x2 x3 bs h0 n0) := by
  refine own_body (plainFor_of_name own_pn0) ?_
  intro p e s m below meth c s₁ hx hZ hby hml hown hnm hlk hret X0 e0
  have N0 := Fr.nil n0
  obtain ⟨E_a, Fw, Fl, Fp, V⟩ := O0
  have ne_ar : a ≠ r := E_a.neArv V (hw _ (own_m 3 rfl))
  refine up (U' := s₁.setTop (mkF m 0 #[oA a, oI bits, oU, oU, oU, oU, oU, oU, oU, oU, oU, oU, oU] [])) ?_ (fun t k => castTop (own_ef_rmsA m a bits) k)
  refine up ?_ fun t k => XS.iloadN X0.here hx rfl (hb hby d11_0) rfl (XS.bipush X0.here hx rfl (hb hby d11_1) (XS.iushr X0.here hx rfl (hb hby d11_3) rfl (XS.istoreN X0.here hx rfl (hb hby d11_4) rfl (l' := #[oA a, oI bits, oI ((bits.toUInt32 >>> ((6 : Int32) &&& 31).toUInt32).toInt32), oU, oU, oU, oU, oU, oU, oU, oU, oU, oU]) rfl k)))
  show own_G (s₁.setTop (mkF m 5 #[oA a, oI bits, oI ((bits.toUInt32 >>> ((6 : Int32) &&& 31).toUInt32).toInt32), oU, oU, oU, oU, oU, oU, oU, oU, oU, oU] []))
  rw [hws]
  show own_G (s₁.setTop (mkF m 5 #[oA a, oI bits, oI (0 : Int32), oU, oU, oU, oU, oU, oU, oU, oU, oU, oU] []))
  refine up ?_ fun t k => XS.iloadN X0.here hx rfl (hb hby d11_5) rfl (XS.bipush X0.here hx rfl (hb hby d11_6) (XS.iand X0.here hx rfl (hb hby d11_8) rfl (XS.istoreN X0.here hx rfl (hb hby d11_9) rfl (l' := #[oA a, oI bits, oI (0 : Int32), oI (bits &&& (63 : Int32)), oU, oU, oU, oU, oU, oU, oU, oU, oU]) rfl k)))
  show own_G (s₁.setTop (mkF m 10 #[oA a, oI bits, oI (0 : Int32), oI (bits &&& (63 : Int32)), oU, oU, oU, oU, oU, oU, oU, oU, oU] []))
  rw [hbs]
  show own_G (s₁.setTop (mkF m 10 #[oA a, oI bits, oI (0 : Int32), oI bs, oU, oU, oU, oU, oU, oU, oU, oU, oU] []))
  refine up ?_ fun t k => XS.aloadN X0.here hx rfl (hb hby d11_10) rfl rfl k
  show own_G (s₁.setTop (mkF m 11 #[oA a, oI bits, oI (0 : Int32), oI bs, oU, oU, oU, oU, oU, oU, oU, oU, oU] [(.ref a)]))
  obtain ⟨T278, X278, e278, st278⟩ := getF X0 hx hZ hown (host := "") (Or.inl (hw _ (own_m 20 rfl))) Via.refl e0 Fl (g := (mkF m 11 #[oA a, oI bits, oI (0 : Int32), oI bs, oU, oU, oU, oU, oU, oU, oU, oU, oU] [(.ref a)])) rfl rfl (hb hby d11_11)
  refine up ?_ st278
  show own_G (T278.setTop (mkF m 14 #[oA a, oI bits, oI (0 : Int32), oI bs, oU, oU, oU, oU, oU, oU, oU, oU, oU] [(.int (3 : Int32))]))
  refine up ?_ fun t k => XS.iloadN X278.here hx rfl (hb hby d11_14) rfl (XS.iadd X278.here hx rfl (hb hby d11_15) rfl (XS.iconst X278.here hx rfl (hb hby d11_16) (XS.iadd X278.here hx rfl (hb hby d11_17) rfl (XS.istore X278.here hx rfl (hb hby d11_18) rfl (l' := #[oA a, oI bits, oI (0 : Int32), oI bs, oI (4 : Int32), oU, oU, oU, oU, oU, oU, oU, oU]) rfl (XS.aloadN X278.here hx rfl (hb hby d11_20) rfl rfl k)))))
  show own_G (T278.setTop (mkF m 21 #[oA a, oI bits, oI (0 : Int32), oI bs, oI (4 : Int32), oU, oU, oU, oU, oU, oU, oU, oU] [(.ref a)]))
  obtain ⟨T279, X279, e279, st279⟩ := getF X278 hx hZ hown (host := "") (Or.inl (hw _ (own_m 13 rfl))) Via.refl e278 Fw (g := (mkF m 21 #[oA a, oI bits, oI (0 : Int32), oI bs, oI (4 : Int32), oU, oU, oU, oU, oU, oU, oU, oU] [(.ref a)])) rfl rfl (hb hby d11_21)
  refine up ?_ st279
  show own_G (T279.setTop (mkF m 24 #[oA a, oI bits, oI (0 : Int32), oI bs, oI (4 : Int32), oU, oU, oU, oU, oU, oU, oU, oU] [(.ref r)]))
  refine up ?_ fun t k => XS.aloadN X279.here hx rfl (hb hby d11_24) rfl rfl k
  show own_G (T279.setTop (mkF m 25 #[oA a, oI bits, oI (0 : Int32), oI bs, oI (4 : Int32), oU, oU, oU, oU, oU, oU, oU, oU] [(.ref a), (.ref r)]))
  obtain ⟨T280, X280, e280, st280⟩ := getF X279 hx hZ hown (host := "") (Or.inl (hw _ (own_m 20 rfl))) Via.refl e279 Fl (g := (mkF m 25 #[oA a, oI bits, oI (0 : Int32), oI bs, oI (4 : Int32), oU, oU, oU, oU, oU, oU, oU, oU] [(.ref a), (.ref r)])) rfl rfl (hb hby d11_25)
  refine up ?_ st280
  show own_G (T280.setTop (mkF m 28 #[oA a, oI bits, oI (0 : Int32), oI bs, oI (4 : Int32), oU, oU, oU, oU, oU, oU, oU, oU] [(.int (3 : Int32)), (.ref r)]))
  refine up ?_ fun t k => XS.iconst X280.here hx rfl (hb hby d11_28) (XS.isub X280.here hx rfl (hb hby d11_29) rfl k)
  show own_G (T280.setTop (mkF m 30 #[oA a, oI bits, oI (0 : Int32), oI bs, oI (4 : Int32), oU, oU, oU, oU, oU, oU, oU, oU] [(.int (2 : Int32)), (.ref r)]))
  obtain ⟨cl281, Ar281, qa281, Sa281, Na281, Ha281, Ga281⟩ := id V
  have hin281 : ¬ ((2 : Int32) < 0 ∨ cl281.slots.size ≤ ((2 : Int32)).toNatClampNeg) := inb_of Sa281 ⟨by decide, by decide⟩
  refine up ?_ fun t k => X280.laload hx (j := (2 : Int32)) (v := (.long x2)) (by rw [e280]; exact Ar281.1) (State.isArrayOf_alike hZ.alike Ar281.2.1) Ar281.2.2 hin281 (Ha281.at hin281 rfl) (g := (mkF m 30 #[oA a, oI bits, oI (0 : Int32), oI bs, oI (4 : Int32), oU, oU, oU, oU, oU, oU, oU, oU] [(.int (2 : Int32)), (.ref r)])) rfl rfl (hb hby d11_30) _ (XS.bipush X280.here hx rfl (hb hby d11_31) (XS.lshr X280.here hx rfl (hb hby d11_33) rfl k))
  show own_G (T280.setTop (mkF m 34 #[oA a, oI bits, oI (0 : Int32), oI bs, oI (4 : Int32), oU, oU, oU, oU, oU, oU, oU, oU] [(.long (x2 >>> ((63 : Int32) &&& 0x3f).toInt64))]))
  show own_G (T280.setTop (mkF m 34 #[oA a, oI bits, oI (0 : Int32), oI bs, oI (4 : Int32), oU, oU, oU, oU, oU, oU, oU, oU] [(.long (own_sg x2))]))
  refine up ?_ fun t k => XS.lstore X280.here hx rfl (hb hby d11_34) rfl (l' := #[oA a, oI bits, oI (0 : Int32), oI bs, oI (4 : Int32), oJ (own_sg x2), oS, oU, oU, oU, oU, oU, oU]) rfl (XS.aloadN X280.here hx rfl (hb hby d11_36) rfl rfl k)
  show own_G (T280.setTop (mkF m 37 #[oA a, oI bits, oI (0 : Int32), oI bs, oI (4 : Int32), oJ (own_sg x2), oS, oU, oU, oU, oU, oU, oU] [(.ref a)]))
  obtain ⟨T282, X282, e282, st282⟩ := getF X280 hx hZ hown (host := "") (Or.inl (hw _ (own_m 13 rfl))) Via.refl e280 Fw (g := (mkF m 37 #[oA a, oI bits, oI (0 : Int32), oI bs, oI (4 : Int32), oJ (own_sg x2), oS, oU, oU, oU, oU, oU, oU] [(.ref a)])) rfl rfl (hb hby d11_37)
  refine up ?_ st282
  show own_G (T282.setTop (mkF m 40 #[oA a, oI bits, oI (0 : Int32), oI bs, oI (4 : Int32), oJ (own_sg x2), oS, oU, oU, oU, oU, oU, oU] [(.ref r)]))
  obtain ⟨cl283, Ar283, qa283, Sa283, Na283, Ha283, Ga283⟩ := id V
  refine up ?_ fun t k => X282.arraylength hx (by rw [e282]; exact Ar283.1) (State.isArrayOf_alike hZ.alike Ar283.2.1) (g := (mkF m 40 #[oA a, oI bits, oI (0 : Int32), oI bs, oI (4 : Int32), oJ (own_sg x2), oS, oU, oU, oU, oU, oU, oU] [(.ref r)])) rfl rfl (hb hby d11_40) _ k
  rw [len_of Sa283 Na283]
  show own_G (T282.setTop (mkF m 41 #[oA a, oI bits, oI (0 : Int32), oI bs, oI (4 : Int32), oJ (own_sg x2), oS, oU, oU, oU, oU, oU, oU] [(.int (4 : Int32))]))
  refine up ?_ fun t k => XS.iload X282.here hx rfl (hb hby d11_41) rfl k
  show own_G (T282.setTop (mkF m 43 #[oA a, oI bits, oI (0 : Int32), oI bs, oI (4 : Int32), oJ (own_sg x2), oS, oU, oU, oU, oU, oU, oU] [(.int (4 : Int32)), (.int (4 : Int32))]))
  refine up ?_ fun t k => XS.icmpYes X282.here hx rfl (pc0 := 43) (pc' := 53) rfl (hb hby d11_43) rfl (flt (by decide : ¬ ((4 : Int32) < (4 : Int32)))).2.1 (by decide) (by decide) (XS.aloadN X282.here hx rfl (hb hby d11_53) rfl rfl k)
  show own_G (T282.setTop (mkF m 54 #[oA a, oI bits, oI (0 : Int32), oI bs, oI (4 : Int32), oJ (own_sg x2), oS, oU, oU, oU, oU, oU, oU] [(.ref a)]))
  obtain ⟨T284, X284, e284, st284⟩ := getF X282 hx hZ hown (host := "") (Or.inl (hw _ (own_m 13 rfl))) Via.refl e282 Fw (g := (mkF m 54 #[oA a, oI bits, oI (0 : Int32), oI bs, oI (4 : Int32), oJ (own_sg x2), oS, oU, oU, oU, oU, oU, oU] [(.ref a)])) rfl rfl (hb hby d11_54)
  refine up ?_ st284
  show own_G (T284.setTop (mkF m 57 #[oA a, oI bits, oI (0 : Int32), oI bs, oI (4 : Int32), oJ (own_sg x2), oS, oU, oU, oU, oU, oU, oU] [(.ref r)]))
  refine up ?_ fun t k => XS.astore X284.here hx rfl (hb hby d11_57) rfl rfl (l' := #[oA a, oI bits, oI (0 : Int32), oI bs, oI (4 : Int32), oJ (own_sg x2), oS, oA r, oU, oU, oU, oU, oU]) rfl (XS.aloadN X284.here hx rfl (hb hby d11_59) rfl rfl k)
  show own_G (T284.setTop (mkF m 60 #[oA a, oI bits, oI (0 : Int32), oI bs, oI (4 : Int32), oJ (own_sg x2), oS, oA r, oU, oU, oU, oU, oU] [(.ref a)]))
  obtain ⟨T285, X285, e285, st285⟩ := getF X284 hx hZ hown (host := "") (Or.inl (hw _ (own_m 20 rfl))) Via.refl e284 Fl (g := (mkF m 60 #[oA a, oI bits, oI (0 : Int32), oI bs, oI (4 : Int32), oJ (own_sg x2), oS, oA r, oU, oU, oU, oU, oU] [(.ref a)])) rfl rfl (hb hby d11_60)
  refine up ?_ st285
  show own_G (T285.setTop (mkF m 63 #[oA a, oI bits, oI (0 : Int32), oI bs, oI (4 : Int32), oJ (own_sg x2), oS, oA r, oU, oU, oU, oU, oU] [(.int (3 : Int32))]))
  refine up ?_ fun t k => XS.istore X285.here hx rfl (hb hby d11_63) rfl (l' := #[oA a, oI bits, oI (0 : Int32), oI bs, oI (4 : Int32), oJ (own_sg x2), oS, oA r, oI (3 : Int32), oU, oU, oU, oU]) rfl (XS.iload X285.here hx rfl (hb hby d11_65) rfl k)
  show own_G (T285.setTop (mkF m 67 #[oA a, oI bits, oI (0 : Int32), oI bs, oI (4 : Int32), oJ (own_sg x2), oS, oA r, oI (3 : Int32), oU, oU, oU, oU] [(.int (3 : Int32))]))
  refine up ?_ fun t k => XS.ifNo X285.here hx rfl (hb hby d11_67) rfl ((if0 _ _).trans (flt (by decide : ¬ ((3 : Int32) < (0 : Int32)))).1) (XS.iload X285.here hx rfl (hb hby d11_70) rfl (XS.aloadN X285.here hx rfl (hb hby d11_72) rfl rfl k))
  show own_G (T285.setTop (mkF m 73 #[oA a, oI bits, oI (0 : Int32), oI bs, oI (4 : Int32), oJ (own_sg x2), oS, oA r, oI (3 : Int32), oU, oU, oU, oU] [(.ref a), (.int (3 : Int32))]))
  obtain ⟨T286, X286, e286, st286⟩ := getF X285 hx hZ hown (host := "") (Or.inl (hw _ (own_m 20 rfl))) Via.refl e285 Fl (g := (mkF m 73 #[oA a, oI bits, oI (0 : Int32), oI bs, oI (4 : Int32), oJ (own_sg x2), oS, oA r, oI (3 : Int32), oU, oU, oU, oU] [(.ref a), (.int (3 : Int32))])) rfl rfl (hb hby d11_73)
  refine up ?_ st286
  show own_G (T286.setTop (mkF m 76 #[oA a, oI bits, oI (0 : Int32), oI bs, oI (4 : Int32), oJ (own_sg x2), oS, oA r, oI (3 : Int32), oU, oU, oU, oU] [(.int (3 : Int32)), (.int (3 : Int32))]))
  refine up ?_ fun t k => XS.icmpYes X286.here hx rfl (pc0 := 76) (pc' := 89) rfl (hb hby d11_76) rfl (flt (by decide : ¬ ((3 : Int32) < (3 : Int32)))).2.1 (by decide) (by decide) (XS.lload X286.here hx rfl (hb hby d11_89) rfl (XS.lstore X286.here hx rfl (hb hby d11_91) rfl (l' := #[oA a, oI bits, oI (0 : Int32), oI bs, oI (4 : Int32), oJ (own_sg x2), oS, oA r, oI (3 : Int32), oJ (own_sg x2), oS, oU, oU]) rfl (XS.iload X286.here hx rfl (hb hby d11_93) rfl k)))
  show own_G (T286.setTop (mkF m 95 #[oA a, oI bits, oI (0 : Int32), oI bs, oI (4 : Int32), oJ (own_sg x2), oS, oA r, oI (3 : Int32), oJ (own_sg x2), oS, oU, oU] [(.int (3 : Int32))]))
  refine up ?_ fun t k => XS.ifYes X286.here hx rfl (pc0 := 95) (pc' := 102) rfl (hb hby d11_95) rfl ((if0 _ _).trans (feq (by decide : ¬ ((3 : Int32) = (0 : Int32)))).2) (by decide) (by decide) (XS.aloadN X286.here hx rfl (hb hby d11_102) rfl rfl k)
  show own_G (T286.setTop (mkF m 103 #[oA a, oI bits, oI (0 : Int32), oI bs, oI (4 : Int32), oJ (own_sg x2), oS, oA r, oI (3 : Int32), oJ (own_sg x2), oS, oU, oU] [(.ref a)]))
  obtain ⟨T287, X287, e287, st287⟩ := getF X286 hx hZ hown (host := "") (Or.inl (hw _ (own_m 13 rfl))) Via.refl e286 Fw (g := (mkF m 103 #[oA a, oI bits, oI (0 : Int32), oI bs, oI (4 : Int32), oJ (own_sg x2), oS, oA r, oI (3 : Int32), oJ (own_sg x2), oS, oU, oU] [(.ref a)])) rfl rfl (hb hby d11_103)
  refine up ?_ st287
  show own_G (T287.setTop (mkF m 106 #[oA a, oI bits, oI (0 : Int32), oI bs, oI (4 : Int32), oJ (own_sg x2), oS, oA r, oI (3 : Int32), oJ (own_sg x2), oS, oU, oU] [(.ref r)]))
  refine up ?_ fun t k => XS.iload X287.here hx rfl (hb hby d11_106) rfl (XS.iconst X287.here hx rfl (hb hby d11_108) (XS.isub X287.here hx rfl (hb hby d11_109) rfl k))
  show own_G (T287.setTop (mkF m 110 #[oA a, oI bits, oI (0 : Int32), oI bs, oI (4 : Int32), oJ (own_sg x2), oS, oA r, oI (3 : Int32), oJ (own_sg x2), oS, oU, oU] [(.int (2 : Int32)), (.ref r)]))
  obtain ⟨cl288, Ar288, qa288, Sa288, Na288, Ha288, Ga288⟩ := id V
  have hin288 : ¬ ((2 : Int32) < 0 ∨ cl288.slots.size ≤ ((2 : Int32)).toNatClampNeg) := inb_of Sa288 ⟨by decide, by decide⟩
  refine up ?_ fun t k => X287.laload hx (j := (2 : Int32)) (v := (.long x2)) (by rw [e287]; exact Ar288.1) (State.isArrayOf_alike hZ.alike Ar288.2.1) Ar288.2.2 hin288 (Ha288.at hin288 rfl) (g := (mkF m 110 #[oA a, oI bits, oI (0 : Int32), oI bs, oI (4 : Int32), oJ (own_sg x2), oS, oA r, oI (3 : Int32), oJ (own_sg x2), oS, oU, oU] [(.int (2 : Int32)), (.ref r)])) rfl rfl (hb hby d11_110) _ (XS.lstore X287.here hx rfl (hb hby d11_111) rfl (l' := #[oA a, oI bits, oI (0 : Int32), oI bs, oI (4 : Int32), oJ (own_sg x2), oS, oA r, oI (3 : Int32), oJ (own_sg x2), oS, oJ x2, oS]) rfl (XS.aload X287.here hx rfl (hb hby d11_113) rfl rfl (XS.iload X287.here hx rfl (hb hby d11_115) rfl (XS.iloadN X287.here hx rfl (hb hby d11_117) rfl (XS.iadd X287.here hx rfl (hb hby d11_118) rfl (XS.lload X287.here hx rfl (hb hby d11_119) rfl (XS.iloadN X287.here hx rfl (hb hby d11_121) rfl (XS.lshl X287.here hx rfl (hb hby d11_122) rfl (XS.lload X287.here hx rfl (hb hby d11_123) rfl k)))))))))
  show own_G (T287.setTop (mkF m 125 #[oA a, oI bits, oI (0 : Int32), oI bs, oI (4 : Int32), oJ (own_sg x2), oS, oA r, oI (3 : Int32), oJ (own_sg x2), oS, oJ x2, oS] [(.long x2), (.long ((own_sg x2) <<< (bs &&& 0x3f).toInt64)), (.int (3 : Int32)), (.ref r)]))
  refine up ?_ fun t k => XS.iconst X287.here hx rfl (hb hby d11_125) (XS.lushr X287.here hx rfl (hb hby d11_126) rfl (XS.bipush X287.here hx rfl (hb hby d11_127) (XS.iloadN X287.here hx rfl (hb hby d11_129) rfl (XS.isub X287.here hx rfl (hb hby d11_130) rfl (XS.lushr X287.here hx rfl (hb hby d11_131) rfl (XS.lor X287.here hx rfl (hb hby d11_132) rfl k))))))
  show own_G (T287.setTop (mkF m 133 #[oA a, oI bits, oI (0 : Int32), oI bs, oI (4 : Int32), oJ (own_sg x2), oS, oA r, oI (3 : Int32), oJ (own_sg x2), oS, oJ x2, oS] [(.long (((own_sg x2) <<< (bs &&& 0x3f).toInt64) ||| ((((x2.toUInt64 >>> ((1 : Int32) &&& 0x3f).toInt64.toUInt64).toInt64).toUInt64 >>> (((63 : Int32) - bs) &&& 0x3f).toInt64.toUInt64).toInt64))), (.int (3 : Int32)), (.ref r)]))
  show own_G (T287.setTop (mkF m 133 #[oA a, oI bits, oI (0 : Int32), oI bs, oI (4 : Int32), oJ (own_sg x2), oS, oA r, oI (3 : Int32), oJ (own_sg x2), oS, oJ x2, oS] [(.long (own_s2 (own_sg x2) x2 bs)), (.int (3 : Int32)), (.ref r)]))
  obtain ⟨cl289, Ar289, qa289, Sa289, Na289, Ha289, Ga289⟩ := id V
  have hin289 : ¬ ((3 : Int32) < 0 ∨ cl289.slots.size ≤ ((3 : Int32)).toNatClampNeg) := inb_of Sa289 ⟨by decide, by decide⟩
  obtain ⟨T289, h289, X289, e289, W289, st289⟩ := stJ X287 hx hZ e287 Ar289 (j := (3 : Int32)) hin289 (g := (mkF m 133 #[oA a, oI bits, oI (0 : Int32), oI bs, oI (4 : Int32), oJ (own_sg x2), oS, oA r, oI (3 : Int32), oJ (own_sg x2), oS, oJ x2, oS] [(.long (own_s2 (own_sg x2) x2 bs)), (.int (3 : Int32)), (.ref r)])) rfl rfl (hb hby d11_133)
  refine up ?_ st289
  have E_a_c290 := E_a.wr W289
  have Fw_c290 := Fw.other W289 (Or.inl ne_ar)
  have Fl_c290 := Fl.other W289 (Or.inl ne_ar)
  have Fp_c290 := Fp.other W289 (Or.inl ne_ar)
  have V289 : Arv Z h289 r kr .long (4 : Int32) [(.long x0), (.long x1), (.long x2), (.long (own_s2 (own_sg x2) x2 bs))] (.long (0 : Int64)) := Arv.set Ar289 qa289 Sa289 Na289 Ha289 Ga289 rfl W289 3 rfl (Nat.le_of_ble_eq_true rfl)
  have N289 := Fr.snoc X289 N0 g_r
  have kq291 := Nat.le_trans (Nat.le_refl h0.size) (Keep.of_wr W289).1
  have Zs292 : n0 ≤ h289.size := Nat.le_trans Z0 (Keep.of_wr W289).1
  show own_G (T289.setTop (mkF m 134 #[oA a, oI bits, oI (0 : Int32), oI bs, oI (4 : Int32), oJ (own_sg x2), oS, oA r, oI (3 : Int32), oJ (own_sg x2), oS, oJ x2, oS] []))
  refine up ?_ fun t k => XS.iinc X289.here hx rfl (hb hby d11_134) rfl (l' := #[oA a, oI bits, oI (0 : Int32), oI bs, oI (4 : Int32), oJ (own_sg x2), oS, oA r, oI (2 : Int32), oJ (own_sg x2), oS, oJ x2, oS]) rfl (XS.goto X289.here hx rfl (pc0 := 137) (pc' := 65) rfl (hb hby d11_137) (by decide) (by decide) (XS.iload X289.here hx rfl (hb hby d11_65) rfl k))
  show own_G (T289.setTop (mkF m 67 #[oA a, oI bits, oI (0 : Int32), oI bs, oI (4 : Int32), oJ (own_sg x2), oS, oA r, oI (2 : Int32), oJ (own_sg x2), oS, oJ x2, oS] [(.int (2 : Int32))]))
  refine up ?_ fun t k => XS.ifNo X289.here hx rfl (hb hby d11_67) rfl ((if0 _ _).trans (flt (by decide : ¬ ((2 : Int32) < (0 : Int32)))).1) (XS.iload X289.here hx rfl (hb hby d11_70) rfl (XS.aloadN X289.here hx rfl (hb hby d11_72) rfl rfl k))
  show own_G (T289.setTop (mkF m 73 #[oA a, oI bits, oI (0 : Int32), oI bs, oI (4 : Int32), oJ (own_sg x2), oS, oA r, oI (2 : Int32), oJ (own_sg x2), oS, oJ x2, oS] [(.ref a), (.int (2 : Int32))]))
  obtain ⟨T293, X293, e293, st293⟩ := getF X289 hx hZ hown (host := "") (Or.inl (hw _ (own_m 20 rfl))) Via.refl e289 Fl_c290 (g := (mkF m 73 #[oA a, oI bits, oI (0 : Int32), oI bs, oI (4 : Int32), oJ (own_sg x2), oS, oA r, oI (2 : Int32), oJ (own_sg x2), oS, oJ x2, oS] [(.ref a), (.int (2 : Int32))])) rfl rfl (hb hby d11_73)
  refine up ?_ st293
  show own_G (T293.setTop (mkF m 76 #[oA a, oI bits, oI (0 : Int32), oI bs, oI (4 : Int32), oJ (own_sg x2), oS, oA r, oI (2 : Int32), oJ (own_sg x2), oS, oJ x2, oS] [(.int (3 : Int32)), (.int (2 : Int32))]))
  refine up ?_ fun t k => XS.icmpNo X293.here hx rfl (hb hby d11_76) rfl (tlt (by decide : ((2 : Int32) < (3 : Int32)))).2.1 (XS.aloadN X293.here hx rfl (hb hby d11_79) rfl rfl k)
  show own_G (T293.setTop (mkF m 80 #[oA a, oI bits, oI (0 : Int32), oI bs, oI (4 : Int32), oJ (own_sg x2), oS, oA r, oI (2 : Int32), oJ (own_sg x2), oS, oJ x2, oS] [(.ref a)]))
  obtain ⟨T294, X294, e294, st294⟩ := getF X293 hx hZ hown (host := "") (Or.inl (hw _ (own_m 13 rfl))) Via.refl e293 Fw_c290 (g := (mkF m 80 #[oA a, oI bits, oI (0 : Int32), oI bs, oI (4 : Int32), oJ (own_sg x2), oS, oA r, oI (2 : Int32), oJ (own_sg x2), oS, oJ x2, oS] [(.ref a)])) rfl rfl (hb hby d11_80)
  refine up ?_ st294
  show own_G (T294.setTop (mkF m 83 #[oA a, oI bits, oI (0 : Int32), oI bs, oI (4 : Int32), oJ (own_sg x2), oS, oA r, oI (2 : Int32), oJ (own_sg x2), oS, oJ x2, oS] [(.ref r)]))
  refine up ?_ fun t k => XS.iload X294.here hx rfl (hb hby d11_83) rfl k
  show own_G (T294.setTop (mkF m 85 #[oA a, oI bits, oI (0 : Int32), oI bs, oI (4 : Int32), oJ (own_sg x2), oS, oA r, oI (2 : Int32), oJ (own_sg x2), oS, oJ x2, oS] [(.int (2 : Int32)), (.ref r)]))
  obtain ⟨cl295, Ar295, qa295, Sa295, Na295, Ha295, Ga295⟩ := id V289
  have hin295 : ¬ ((2 : Int32) < 0 ∨ cl295.slots.size ≤ ((2 : Int32)).toNatClampNeg) := inb_of Sa295 ⟨by decide, by decide⟩
  refine up ?_ fun t k => X294.laload hx (j := (2 : Int32)) (v := (.long x2)) (by rw [e294]; exact Ar295.1) (State.isArrayOf_alike hZ.alike Ar295.2.1) Ar295.2.2 hin295 (Ha295.at hin295 rfl) (g := (mkF m 85 #[oA a, oI bits, oI (0 : Int32), oI bs, oI (4 : Int32), oJ (own_sg x2), oS, oA r, oI (2 : Int32), oJ (own_sg x2), oS, oJ x2, oS] [(.int (2 : Int32)), (.ref r)])) rfl rfl (hb hby d11_85) _ (XS.goto X294.here hx rfl (pc0 := 86) (pc' := 91) rfl (hb hby d11_86) (by decide) (by decide) (XS.lstore X294.here hx rfl (hb hby d11_91) rfl (l' := #[oA a, oI bits, oI (0 : Int32), oI bs, oI (4 : Int32), oJ (own_sg x2), oS, oA r, oI (2 : Int32), oJ x2, oS, oJ x2, oS]) rfl (XS.iload X294.here hx rfl (hb hby d11_93) rfl k)))
  show own_G (T294.setTop (mkF m 95 #[oA a, oI bits, oI (0 : Int32), oI bs, oI (4 : Int32), oJ (own_sg x2), oS, oA r, oI (2 : Int32), oJ x2, oS, oJ x2, oS] [(.int (2 : Int32))]))
  refine up ?_ fun t k => XS.ifYes X294.here hx rfl (pc0 := 95) (pc' := 102) rfl (hb hby d11_95) rfl ((if0 _ _).trans (feq (by decide : ¬ ((2 : Int32) = (0 : Int32)))).2) (by decide) (by decide) (XS.aloadN X294.here hx rfl (hb hby d11_102) rfl rfl k)
  show own_G (T294.setTop (mkF m 103 #[oA a, oI bits, oI (0 : Int32), oI bs, oI (4 : Int32), oJ (own_sg x2), oS, oA r, oI (2 : Int32), oJ x2, oS, oJ x2, oS] [(.ref a)]))
  obtain ⟨T296, X296, e296, st296⟩ := getF X294 hx hZ hown (host := "") (Or.inl (hw _ (own_m 13 rfl))) Via.refl e294 Fw_c290 (g := (mkF m 103 #[oA a, oI bits, oI (0 : Int32), oI bs, oI (4 : Int32), oJ (own_sg x2), oS, oA r, oI (2 : Int32), oJ x2, oS, oJ x2, oS] [(.ref a)])) rfl rfl (hb hby d11_103)
  refine up ?_ st296
  show own_G (T296.setTop (mkF m 106 #[oA a, oI bits, oI (0 : Int32), oI bs, oI (4 : Int32), oJ (own_sg x2), oS, oA r, oI (2 : Int32), oJ x2, oS, oJ x2, oS] [(.ref r)]))
  refine up ?_ fun t k => XS.iload X296.here hx rfl (hb hby d11_106) rfl (XS.iconst X296.here hx rfl (hb hby d11_108) (XS.isub X296.here hx rfl (hb hby d11_109) rfl k))
  show own_G (T296.setTop (mkF m 110 #[oA a, oI bits, oI (0 : Int32), oI bs, oI (4 : Int32), oJ (own_sg x2), oS, oA r, oI (2 : Int32), oJ x2, oS, oJ x2, oS] [(.int (1 : Int32)), (.ref r)]))
  obtain ⟨cl297, Ar297, qa297, Sa297, Na297, Ha297, Ga297⟩ := id V289
  have hin297 : ¬ ((1 : Int32) < 0 ∨ cl297.slots.size ≤ ((1 : Int32)).toNatClampNeg) := inb_of Sa297 ⟨by decide, by decide⟩
  refine up ?_ fun t k => X296.laload hx (j := (1 : Int32)) (v := (.long x1)) (by rw [e296]; exact Ar297.1) (State.isArrayOf_alike hZ.alike Ar297.2.1) Ar297.2.2 hin297 (Ha297.at hin297 rfl) (g := (mkF m 110 #[oA a, oI bits, oI (0 : Int32), oI bs, oI (4 : Int32), oJ (own_sg x2), oS, oA r, oI (2 : Int32), oJ x2, oS, oJ x2, oS] [(.int (1 : Int32)), (.ref r)])) rfl rfl (hb hby d11_110) _ (XS.lstore X296.here hx rfl (hb hby d11_111) rfl (l' := #[oA a, oI bits, oI (0 : Int32), oI bs, oI (4 : Int32), oJ (own_sg x2), oS, oA r, oI (2 : Int32), oJ x2, oS, oJ x1, oS]) rfl (XS.aload X296.here hx rfl (hb hby d11_113) rfl rfl (XS.iload X296.here hx rfl (hb hby d11_115) rfl (XS.iloadN X296.here hx rfl (hb hby d11_117) rfl (XS.iadd X296.here hx rfl (hb hby d11_118) rfl (XS.lload X296.here hx rfl (hb hby d11_119) rfl (XS.iloadN X296.here hx rfl (hb hby d11_121) rfl (XS.lshl X296.here hx rfl (hb hby d11_122) rfl (XS.lload X296.here hx rfl (hb hby d11_123) rfl k)))))))))
  show own_G (T296.setTop (mkF m 125 #[oA a, oI bits, oI (0 : Int32), oI bs, oI (4 : Int32), oJ (own_sg x2), oS, oA r, oI (2 : Int32), oJ x2, oS, oJ x1, oS] [(.long x1), (.long (x2 <<< (bs &&& 0x3f).toInt64)), (.int (2 : Int32)), (.ref r)]))
  refine up ?_ fun t k => XS.iconst X296.here hx rfl (hb hby d11_125) (XS.lushr X296.here hx rfl (hb hby d11_126) rfl (XS.bipush X296.here hx rfl (hb hby d11_127) (XS.iloadN X296.here hx rfl (hb hby d11_129) rfl (XS.isub X296.here hx rfl (hb hby d11_130) rfl (XS.lushr X296.here hx rfl (hb hby d11_131) rfl (XS.lor X296.here hx rfl (hb hby d11_132) rfl k))))))
  show own_G (T296.setTop (mkF m 133 #[oA a, oI bits, oI (0 : Int32), oI bs, oI (4 : Int32), oJ (own_sg x2), oS, oA r, oI (2 : Int32), oJ x2, oS, oJ x1, oS] [(.long ((x2 <<< (bs &&& 0x3f).toInt64) ||| ((((x1.toUInt64 >>> ((1 : Int32) &&& 0x3f).toInt64.toUInt64).toInt64).toUInt64 >>> (((63 : Int32) - bs) &&& 0x3f).toInt64.toUInt64).toInt64))), (.int (2 : Int32)), (.ref r)]))
  show own_G (T296.setTop (mkF m 133 #[oA a, oI bits, oI (0 : Int32), oI bs, oI (4 : Int32), oJ (own_sg x2), oS, oA r, oI (2 : Int32), oJ x2, oS, oJ x1, oS] [(.long (own_s2 x2 x1 bs)), (.int (2 : Int32)), (.ref r)]))
  obtain ⟨cl298, Ar298, qa298, Sa298, Na298, Ha298, Ga298⟩ := id V289
  have hin298 : ¬ ((2 : Int32) < 0 ∨ cl298.slots.size ≤ ((2 : Int32)).toNatClampNeg) := inb_of Sa298 ⟨by decide, by decide⟩
  obtain ⟨T298, h298, X298, e298, W298, st298⟩ := stJ X296 hx hZ e296 Ar298 (j := (2 : Int32)) hin298 (g := (mkF m 133 #[oA a, oI bits, oI (0 : Int32), oI bs, oI (4 : Int32), oJ (own_sg x2), oS, oA r, oI (2 : Int32), oJ x2, oS, oJ x1, oS] [(.long (own_s2 x2 x1 bs)), (.int (2 : Int32)), (.ref r)])) rfl rfl (hb hby d11_133)
  refine up ?_ st298
  have E_a_c299 := E_a_c290.wr W298
  have Fw_c299 := Fw_c290.other W298 (Or.inl ne_ar)
  have Fl_c299 := Fl_c290.other W298 (Or.inl ne_ar)
  have Fp_c299 := Fp_c290.other W298 (Or.inl ne_ar)
  have V298 : Arv Z h298 r kr .long (4 : Int32) [(.long x0), (.long x1), (.long (own_s2 x2 x1 bs)), (.long (own_s2 (own_sg x2) x2 bs))] (.long (0 : Int64)) := Arv.set Ar298 qa298 Sa298 Na298 Ha298 Ga298 rfl W298 2 rfl (Nat.le_of_ble_eq_true rfl)
  have N298 := Fr.snoc X298 N289 g_r
  have kq300 := Nat.le_trans kq291 (Keep.of_wr W298).1
  have Zs301 : n0 ≤ h298.size := Nat.le_trans Zs292 (Keep.of_wr W298).1
  show own_G (T298.setTop (mkF m 134 #[oA a, oI bits, oI (0 : Int32), oI bs, oI (4 : Int32), oJ (own_sg x2), oS, oA r, oI (2 : Int32), oJ x2, oS, oJ x1, oS] []))
  refine up ?_ fun t k => XS.iinc X298.here hx rfl (hb hby d11_134) rfl (l' := #[oA a, oI bits, oI (0 : Int32), oI bs, oI (4 : Int32), oJ (own_sg x2), oS, oA r, oI (1 : Int32), oJ x2, oS, oJ x1, oS]) rfl (XS.goto X298.here hx rfl (pc0 := 137) (pc' := 65) rfl (hb hby d11_137) (by decide) (by decide) (XS.iload X298.here hx rfl (hb hby d11_65) rfl k))
  show own_G (T298.setTop (mkF m 67 #[oA a, oI bits, oI (0 : Int32), oI bs, oI (4 : Int32), oJ (own_sg x2), oS, oA r, oI (1 : Int32), oJ x2, oS, oJ x1, oS] [(.int (1 : Int32))]))
  refine up ?_ fun t k => XS.ifNo X298.here hx rfl (hb hby d11_67) rfl ((if0 _ _).trans (flt (by decide : ¬ ((1 : Int32) < (0 : Int32)))).1) (XS.iload X298.here hx rfl (hb hby d11_70) rfl (XS.aloadN X298.here hx rfl (hb hby d11_72) rfl rfl k))
  show own_G (T298.setTop (mkF m 73 #[oA a, oI bits, oI (0 : Int32), oI bs, oI (4 : Int32), oJ (own_sg x2), oS, oA r, oI (1 : Int32), oJ x2, oS, oJ x1, oS] [(.ref a), (.int (1 : Int32))]))
  obtain ⟨T302, X302, e302, st302⟩ := getF X298 hx hZ hown (host := "") (Or.inl (hw _ (own_m 20 rfl))) Via.refl e298 Fl_c299 (g := (mkF m 73 #[oA a, oI bits, oI (0 : Int32), oI bs, oI (4 : Int32), oJ (own_sg x2), oS, oA r, oI (1 : Int32), oJ x2, oS, oJ x1, oS] [(.ref a), (.int (1 : Int32))])) rfl rfl (hb hby d11_73)
  refine up ?_ st302
  show own_G (T302.setTop (mkF m 76 #[oA a, oI bits, oI (0 : Int32), oI bs, oI (4 : Int32), oJ (own_sg x2), oS, oA r, oI (1 : Int32), oJ x2, oS, oJ x1, oS] [(.int (3 : Int32)), (.int (1 : Int32))]))
  refine up ?_ fun t k => XS.icmpNo X302.here hx rfl (hb hby d11_76) rfl (tlt (by decide : ((1 : Int32) < (3 : Int32)))).2.1 (XS.aloadN X302.here hx rfl (hb hby d11_79) rfl rfl k)
  show own_G (T302.setTop (mkF m 80 #[oA a, oI bits, oI (0 : Int32), oI bs, oI (4 : Int32), oJ (own_sg x2), oS, oA r, oI (1 : Int32), oJ x2, oS, oJ x1, oS] [(.ref a)]))
  obtain ⟨T303, X303, e303, st303⟩ := getF X302 hx hZ hown (host := "") (Or.inl (hw _ (own_m 13 rfl))) Via.refl e302 Fw_c299 (g := (mkF m 80 #[oA a, oI bits, oI (0 : Int32), oI bs, oI (4 : Int32), oJ (own_sg x2), oS, oA r, oI (1 : Int32), oJ x2, oS, oJ x1, oS] [(.ref a)])) rfl rfl (hb hby d11_80)
  refine up ?_ st303
  show own_G (T303.setTop (mkF m 83 #[oA a, oI bits, oI (0 : Int32), oI bs, oI (4 : Int32), oJ (own_sg x2), oS, oA r, oI (1 : Int32), oJ x2, oS, oJ x1, oS] [(.ref r)]))
  refine up ?_ fun t k => XS.iload X303.here hx rfl (hb hby d11_83) rfl k
  show own_G (T303.setTop (mkF m 85 #[oA a, oI bits, oI (0 : Int32), oI bs, oI (4 : Int32), oJ (own_sg x2), oS, oA r, oI (1 : Int32), oJ x2, oS, oJ x1, oS] [(.int (1 : Int32)), (.ref r)]))
  obtain ⟨cl304, Ar304, qa304, Sa304, Na304, Ha304, Ga304⟩ := id V298
  have hin304 : ¬ ((1 : Int32) < 0 ∨ cl304.slots.size ≤ ((1 : Int32)).toNatClampNeg) := inb_of Sa304 ⟨by decide, by decide⟩
  refine up ?_ fun t k => X303.laload hx (j := (1 : Int32)) (v := (.long x1)) (by rw [e303]; exact Ar304.1) (State.isArrayOf_alike hZ.alike Ar304.2.1) Ar304.2.2 hin304 (Ha304.at hin304 rfl) (g := (mkF m 85 #[oA a, oI bits, oI (0 : Int32), oI bs, oI (4 : Int32), oJ (own_sg x2), oS, oA r, oI (1 : Int32), oJ x2, oS, oJ x1, oS] [(.int (1 : Int32)), (.ref r)])) rfl rfl (hb hby d11_85) _ (XS.goto X303.here hx rfl (pc0 := 86) (pc' := 91) rfl (hb hby d11_86) (by decide) (by decide) (XS.lstore X303.here hx rfl (hb hby d11_91) rfl (l' := #[oA a, oI bits, oI (0 : Int32), oI bs, oI (4 : Int32), oJ (own_sg x2), oS, oA r, oI (1 : Int32), oJ x1, oS, oJ x1, oS]) rfl (XS.iload X303.here hx rfl (hb hby d11_93) rfl k)))
  show own_G (T303.setTop (mkF m 95 #[oA a, oI bits, oI (0 : Int32), oI bs, oI (4 : Int32), oJ (own_sg x2), oS, oA r, oI (1 : Int32), oJ x1, oS, oJ x1, oS] [(.int (1 : Int32))]))
  refine up ?_ fun t k => XS.ifYes X303.here hx rfl (pc0 := 95) (pc' := 102) rfl (hb hby d11_95) rfl ((if0 _ _).trans (feq (by decide : ¬ ((1 : Int32) = (0 : Int32)))).2) (by decide) (by decide) (XS.aloadN X303.here hx rfl (hb hby d11_102) rfl rfl k)
  show own_G (T303.setTop (mkF m 103 #[oA a, oI bits, oI (0 : Int32), oI bs, oI (4 : Int32), oJ (own_sg x2), oS, oA r, oI (1 : Int32), oJ x1, oS, oJ x1, oS] [(.ref a)]))
  obtain ⟨T305, X305, e305, st305⟩ := getF X303 hx hZ hown (host := "") (Or.inl (hw _ (own_m 13 rfl))) Via.refl e303 Fw_c299 (g := (mkF m 103 #[oA a, oI bits, oI (0 : Int32), oI bs, oI (4 : Int32), oJ (own_sg x2), oS, oA r, oI (1 : Int32), oJ x1, oS, oJ x1, oS] [(.ref a)])) rfl rfl (hb hby d11_103)
  refine up ?_ st305
  show own_G (T305.setTop (mkF m 106 #[oA a, oI bits, oI (0 : Int32), oI bs, oI (4 : Int32), oJ (own_sg x2), oS, oA r, oI (1 : Int32), oJ x1, oS, oJ x1, oS] [(.ref r)]))
  refine up ?_ fun t k => XS.iload X305.here hx rfl (hb hby d11_106) rfl (XS.iconst X305.here hx rfl (hb hby d11_108) (XS.isub X305.here hx rfl (hb hby d11_109) rfl k))
  show own_G (T305.setTop (mkF m 110 #[oA a, oI bits, oI (0 : Int32), oI bs, oI (4 : Int32), oJ (own_sg x2), oS, oA r, oI (1 : Int32), oJ x1, oS, oJ x1, oS] [(.int (0 : Int32)), (.ref r)]))
  obtain ⟨cl306, Ar306, qa306, Sa306, Na306, Ha306, Ga306⟩ := id V298
  have hin306 : ¬ ((0 : Int32) < 0 ∨ cl306.slots.size ≤ ((0 : Int32)).toNatClampNeg) := inb_of Sa306 ⟨by decide, by decide⟩
  refine up ?_ fun t k => X305.laload hx (j := (0 : Int32)) (v := (.long x0)) (by rw [e305]; exact Ar306.1) (State.isArrayOf_alike hZ.alike Ar306.2.1) Ar306.2.2 hin306 (Ha306.at hin306 rfl) (g := (mkF m 110 #[oA a, oI bits, oI (0 : Int32), oI bs, oI (4 : Int32), oJ (own_sg x2), oS, oA r, oI (1 : Int32), oJ x1, oS, oJ x1, oS] [(.int (0 : Int32)), (.ref r)])) rfl rfl (hb hby d11_110) _ (XS.lstore X305.here hx rfl (hb hby d11_111) rfl (l' := #[oA a, oI bits, oI (0 : Int32), oI bs, oI (4 : Int32), oJ (own_sg x2), oS, oA r, oI (1 : Int32), oJ x1, oS, oJ x0, oS]) rfl (XS.aload X305.here hx rfl (hb hby d11_113) rfl rfl (XS.iload X305.here hx rfl (hb hby d11_115) rfl (XS.iloadN X305.here hx rfl (hb hby d11_117) rfl (XS.iadd X305.here hx rfl (hb hby d11_118) rfl (XS.lload X305.here hx rfl (hb hby d11_119) rfl (XS.iloadN X305.here hx rfl (hb hby d11_121) rfl (XS.lshl X305.here hx rfl (hb hby d11_122) rfl (XS.lload X305.here hx rfl (hb hby d11_123) rfl k)))))))))
  show own_G (T305.setTop (mkF m 125 #[oA a, oI bits, oI (0 : Int32), oI bs, oI (4 : Int32), oJ (own_sg x2), oS, oA r, oI (1 : Int32), oJ x1, oS, oJ x0, oS] [(.long x0), (.long (x1 <<< (bs &&& 0x3f).toInt64)), (.int (1 : Int32)), (.ref r)]))
  refine up ?_ fun t k => XS.iconst X305.here hx rfl (hb hby d11_125) (XS.lushr X305.here hx rfl (hb hby d11_126) rfl (XS.bipush X305.here hx rfl (hb hby d11_127) (XS.iloadN X305.here hx rfl (hb hby d11_129) rfl (XS.isub X305.here hx rfl (hb hby d11_130) rfl (XS.lushr X305.here hx rfl (hb hby d11_131) rfl (XS.lor X305.here hx rfl (hb hby d11_132) rfl k))))))
  show own_G (T305.setTop (mkF m 133 #[oA a, oI bits, oI (0 : Int32), oI bs, oI (4 : Int32), oJ (own_sg x2), oS, oA r, oI (1 : Int32), oJ x1, oS, oJ x0, oS] [(.long ((x1 <<< (bs &&& 0x3f).toInt64) ||| ((((x0.toUInt64 >>> ((1 : Int32) &&& 0x3f).toInt64.toUInt64).toInt64).toUInt64 >>> (((63 : Int32) - bs) &&& 0x3f).toInt64.toUInt64).toInt64))), (.int (1 : Int32)), (.ref r)]))
  show own_G (T305.setTop (mkF m 133 #[oA a, oI bits, oI (0 : Int32), oI bs, oI (4 : Int32), oJ (own_sg x2), oS, oA r, oI (1 : Int32), oJ x1, oS, oJ x0, oS] [(.long (own_s2 x1 x0 bs)), (.int (1 : Int32)), (.ref r)]))
  obtain ⟨cl307, Ar307, qa307, Sa307, Na307, Ha307, Ga307⟩ := id V298
  have hin307 : ¬ ((1 : Int32) < 0 ∨ cl307.slots.size ≤ ((1 : Int32)).toNatClampNeg) := inb_of Sa307 ⟨by decide, by decide⟩
  obtain ⟨T307, h307, X307, e307, W307, st307⟩ := stJ X305 hx hZ e305 Ar307 (j := (1 : Int32)) hin307 (g := (mkF m 133 #[oA a, oI bits, oI (0 : Int32), oI bs, oI (4 : Int32), oJ (own_sg x2), oS, oA r, oI (1 : Int32), oJ x1, oS, oJ x0, oS] [(.long (own_s2 x1 x0 bs)), (.int (1 : Int32)), (.ref r)])) rfl rfl (hb hby d11_133)
  refine up ?_ st307
  have E_a_c308 := E_a_c299.wr W307
  have Fw_c308 := Fw_c299.other W307 (Or.inl ne_ar)
  have Fl_c308 := Fl_c299.other W307 (Or.inl ne_ar)
  have Fp_c308 := Fp_c299.other W307 (Or.inl ne_ar)
  have V307 : Arv Z h307 r kr .long (4 : Int32) [(.long x0), (.long (own_s2 x1 x0 bs)), (.long (own_s2 x2 x1 bs)), (.long (own_s2 (own_sg x2) x2 bs))] (.long (0 : Int64)) := Arv.set Ar307 qa307 Sa307 Na307 Ha307 Ga307 rfl W307 1 rfl (Nat.le_of_ble_eq_true rfl)
  have N307 := Fr.snoc X307 N298 g_r
  have kq309 := Nat.le_trans kq300 (Keep.of_wr W307).1
  have Zs310 : n0 ≤ h307.size := Nat.le_trans Zs301 (Keep.of_wr W307).1
  show own_G (T307.setTop (mkF m 134 #[oA a, oI bits, oI (0 : Int32), oI bs, oI (4 : Int32), oJ (own_sg x2), oS, oA r, oI (1 : Int32), oJ x1, oS, oJ x0, oS] []))
  refine up ?_ fun t k => XS.iinc X307.here hx rfl (hb hby d11_134) rfl (l' := #[oA a, oI bits, oI (0 : Int32), oI bs, oI (4 : Int32), oJ (own_sg x2), oS, oA r, oI (0 : Int32), oJ x1, oS, oJ x0, oS]) rfl (XS.goto X307.here hx rfl (pc0 := 137) (pc' := 65) rfl (hb hby d11_137) (by decide) (by decide) (XS.iload X307.here hx rfl (hb hby d11_65) rfl k))
  show own_G (T307.setTop (mkF m 67 #[oA a, oI bits, oI (0 : Int32), oI bs, oI (4 : Int32), oJ (own_sg x2), oS, oA r, oI (0 : Int32), oJ x1, oS, oJ x0, oS] [(.int (0 : Int32))]))
  refine up ?_ fun t k => XS.ifNo X307.here hx rfl (hb hby d11_67) rfl ((if0 _ _).trans (flt (by decide : ¬ ((0 : Int32) < (0 : Int32)))).1) (XS.iload X307.here hx rfl (hb hby d11_70) rfl (XS.aloadN X307.here hx rfl (hb hby d11_72) rfl rfl k))
  show own_G (T307.setTop (mkF m 73 #[oA a, oI bits, oI (0 : Int32), oI bs, oI (4 : Int32), oJ (own_sg x2), oS, oA r, oI (0 : Int32), oJ x1, oS, oJ x0, oS] [(.ref a), (.int (0 : Int32))]))
  obtain ⟨T311, X311, e311, st311⟩ := getF X307 hx hZ hown (host := "") (Or.inl (hw _ (own_m 20 rfl))) Via.refl e307 Fl_c308 (g := (mkF m 73 #[oA a, oI bits, oI (0 : Int32), oI bs, oI (4 : Int32), oJ (own_sg x2), oS, oA r, oI (0 : Int32), oJ x1, oS, oJ x0, oS] [(.ref a), (.int (0 : Int32))])) rfl rfl (hb hby d11_73)
  refine up ?_ st311
  show own_G (T311.setTop (mkF m 76 #[oA a, oI bits, oI (0 : Int32), oI bs, oI (4 : Int32), oJ (own_sg x2), oS, oA r, oI (0 : Int32), oJ x1, oS, oJ x0, oS] [(.int (3 : Int32)), (.int (0 : Int32))]))
  refine up ?_ fun t k => XS.icmpNo X311.here hx rfl (hb hby d11_76) rfl (tlt (by decide : ((0 : Int32) < (3 : Int32)))).2.1 (XS.aloadN X311.here hx rfl (hb hby d11_79) rfl rfl k)
  show own_G (T311.setTop (mkF m 80 #[oA a, oI bits, oI (0 : Int32), oI bs, oI (4 : Int32), oJ (own_sg x2), oS, oA r, oI (0 : Int32), oJ x1, oS, oJ x0, oS] [(.ref a)]))
  obtain ⟨T312, X312, e312, st312⟩ := getF X311 hx hZ hown (host := "") (Or.inl (hw _ (own_m 13 rfl))) Via.refl e311 Fw_c308 (g := (mkF m 80 #[oA a, oI bits, oI (0 : Int32), oI bs, oI (4 : Int32), oJ (own_sg x2), oS, oA r, oI (0 : Int32), oJ x1, oS, oJ x0, oS] [(.ref a)])) rfl rfl (hb hby d11_80)
  refine up ?_ st312
  show own_G (T312.setTop (mkF m 83 #[oA a, oI bits, oI (0 : Int32), oI bs, oI (4 : Int32), oJ (own_sg x2), oS, oA r, oI (0 : Int32), oJ x1, oS, oJ x0, oS] [(.ref r)]))
  refine up ?_ fun t k => XS.iload X312.here hx rfl (hb hby d11_83) rfl k
  show own_G (T312.setTop (mkF m 85 #[oA a, oI bits, oI (0 : Int32), oI bs, oI (4 : Int32), oJ (own_sg x2), oS, oA r, oI (0 : Int32), oJ x1, oS, oJ x0, oS] [(.int (0 : Int32)), (.ref r)]))
  obtain ⟨cl313, Ar313, qa313, Sa313, Na313, Ha313, Ga313⟩ := id V307
  have hin313 : ¬ ((0 : Int32) < 0 ∨ cl313.slots.size ≤ ((0 : Int32)).toNatClampNeg) := inb_of Sa313 ⟨by decide, by decide⟩
  refine up ?_ fun t k => X312.laload hx (j := (0 : Int32)) (v := (.long x0)) (by rw [e312]; exact Ar313.1) (State.isArrayOf_alike hZ.alike Ar313.2.1) Ar313.2.2 hin313 (Ha313.at hin313 rfl) (g := (mkF m 85 #[oA a, oI bits, oI (0 : Int32), oI bs, oI (4 : Int32), oJ (own_sg x2), oS, oA r, oI (0 : Int32), oJ x1, oS, oJ x0, oS] [(.int (0 : Int32)), (.ref r)])) rfl rfl (hb hby d11_85) _ (XS.goto X312.here hx rfl (pc0 := 86) (pc' := 91) rfl (hb hby d11_86) (by decide) (by decide) (XS.lstore X312.here hx rfl (hb hby d11_91) rfl (l' := #[oA a, oI bits, oI (0 : Int32), oI bs, oI (4 : Int32), oJ (own_sg x2), oS, oA r, oI (0 : Int32), oJ x0, oS, oJ x0, oS]) rfl (XS.iload X312.here hx rfl (hb hby d11_93) rfl k)))
  show own_G (T312.setTop (mkF m 95 #[oA a, oI bits, oI (0 : Int32), oI bs, oI (4 : Int32), oJ (own_sg x2), oS, oA r, oI (0 : Int32), oJ x0, oS, oJ x0, oS] [(.int (0 : Int32))]))
  refine up ?_ fun t k => XS.ifNo X312.here hx rfl (hb hby d11_95) rfl ((if0 _ _).trans (teq (by decide : ((0 : Int32) = (0 : Int32)))).2) (XS.lconst X312.here hx rfl (hb hby d11_98) (XS.goto X312.here hx rfl (pc0 := 99) (pc' := 111) rfl (hb hby d11_99) (by decide) (by decide) (XS.lstore X312.here hx rfl (hb hby d11_111) rfl (l' := #[oA a, oI bits, oI (0 : Int32), oI bs, oI (4 : Int32), oJ (own_sg x2), oS, oA r, oI (0 : Int32), oJ x0, oS, oJ (0 : Int64), oS]) rfl (XS.aload X312.here hx rfl (hb hby d11_113) rfl rfl (XS.iload X312.here hx rfl (hb hby d11_115) rfl (XS.iloadN X312.here hx rfl (hb hby d11_117) rfl (XS.iadd X312.here hx rfl (hb hby d11_118) rfl (XS.lload X312.here hx rfl (hb hby d11_119) rfl (XS.iloadN X312.here hx rfl (hb hby d11_121) rfl k)))))))))
  show own_G (T312.setTop (mkF m 122 #[oA a, oI bits, oI (0 : Int32), oI bs, oI (4 : Int32), oJ (own_sg x2), oS, oA r, oI (0 : Int32), oJ x0, oS, oJ (0 : Int64), oS] [(.int bs), (.long x0), (.int (0 : Int32)), (.ref r)]))
  refine up ?_ fun t k => XS.lshl X312.here hx rfl (hb hby d11_122) rfl (XS.lload X312.here hx rfl (hb hby d11_123) rfl (XS.iconst X312.here hx rfl (hb hby d11_125) (XS.lushr X312.here hx rfl (hb hby d11_126) rfl (XS.bipush X312.here hx rfl (hb hby d11_127) (XS.iloadN X312.here hx rfl (hb hby d11_129) rfl (XS.isub X312.here hx rfl (hb hby d11_130) rfl (XS.lushr X312.here hx rfl (hb hby d11_131) rfl (XS.lor X312.here hx rfl (hb hby d11_132) rfl k))))))))
  show own_G (T312.setTop (mkF m 133 #[oA a, oI bits, oI (0 : Int32), oI bs, oI (4 : Int32), oJ (own_sg x2), oS, oA r, oI (0 : Int32), oJ x0, oS, oJ (0 : Int64), oS] [(.long ((x0 <<< (bs &&& 0x3f).toInt64) ||| (((((0 : Int64).toUInt64 >>> ((1 : Int32) &&& 0x3f).toInt64.toUInt64).toInt64).toUInt64 >>> (((63 : Int32) - bs) &&& 0x3f).toInt64.toUInt64).toInt64))), (.int (0 : Int32)), (.ref r)]))
  show own_G (T312.setTop (mkF m 133 #[oA a, oI bits, oI (0 : Int32), oI bs, oI (4 : Int32), oJ (own_sg x2), oS, oA r, oI (0 : Int32), oJ x0, oS, oJ (0 : Int64), oS] [(.long (own_s2 x0 (0 : Int64) bs)), (.int (0 : Int32)), (.ref r)]))
  obtain ⟨cl314, Ar314, qa314, Sa314, Na314, Ha314, Ga314⟩ := id V307
  have hin314 : ¬ ((0 : Int32) < 0 ∨ cl314.slots.size ≤ ((0 : Int32)).toNatClampNeg) := inb_of Sa314 ⟨by decide, by decide⟩
  obtain ⟨T314, h314, X314, e314, W314, st314⟩ := stJ X312 hx hZ e312 Ar314 (j := (0 : Int32)) hin314 (g := (mkF m 133 #[oA a, oI bits, oI (0 : Int32), oI bs, oI (4 : Int32), oJ (own_sg x2), oS, oA r, oI (0 : Int32), oJ x0, oS, oJ (0 : Int64), oS] [(.long (own_s2 x0 (0 : Int64) bs)), (.int (0 : Int32)), (.ref r)])) rfl rfl (hb hby d11_133)
  refine up ?_ st314
  have E_a_c315 := E_a_c308.wr W314
  have Fw_c315 := Fw_c308.other W314 (Or.inl ne_ar)
  have Fl_c315 := Fl_c308.other W314 (Or.inl ne_ar)
  have Fp_c315 := Fp_c308.other W314 (Or.inl ne_ar)
  have V314 : Arv Z h314 r kr .long (4 : Int32) [(.long (own_s2 x0 (0 : Int64) bs)), (.long (own_s2 x1 x0 bs)), (.long (own_s2 x2 x1 bs)), (.long (own_s2 (own_sg x2) x2 bs))] (.long (0 : Int64)) := Arv.set Ar314 qa314 Sa314 Na314 Ha314 Ga314 rfl W314 0 rfl (Nat.le_of_ble_eq_true rfl)
  have N314 := Fr.snoc X314 N307 g_r
  have kq316 := Nat.le_trans kq309 (Keep.of_wr W314).1
  have Zs317 : n0 ≤ h314.size := Nat.le_trans Zs310 (Keep.of_wr W314).1
  show own_G (T314.setTop (mkF m 134 #[oA a, oI bits, oI (0 : Int32), oI bs, oI (4 : Int32), oJ (own_sg x2), oS, oA r, oI (0 : Int32), oJ x0, oS, oJ (0 : Int64), oS] []))
  refine up ?_ fun t k => XS.iinc X314.here hx rfl (hb hby d11_134) rfl (l' := #[oA a, oI bits, oI (0 : Int32), oI bs, oI (4 : Int32), oJ (own_sg x2), oS, oA r, oI (-1 : Int32), oJ x0, oS, oJ (0 : Int64), oS]) rfl (XS.goto X314.here hx rfl (pc0 := 137) (pc' := 65) rfl (hb hby d11_137) (by decide) (by decide) (XS.iload X314.here hx rfl (hb hby d11_65) rfl k))
  show own_G (T314.setTop (mkF m 67 #[oA a, oI bits, oI (0 : Int32), oI bs, oI (4 : Int32), oJ (own_sg x2), oS, oA r, oI (-1 : Int32), oJ x0, oS, oJ (0 : Int64), oS] [(.int (-1 : Int32))]))
  refine up ?_ fun t k => XS.ifYes X314.here hx rfl (pc0 := 67) (pc' := 140) rfl (hb hby d11_67) rfl ((if0 _ _).trans (tlt (by decide : ((-1 : Int32) < (0 : Int32)))).1) (by decide) (by decide) (XS.aload X314.here hx rfl (hb hby d11_140) rfl rfl (XS.iconst X314.here hx rfl (hb hby d11_142) (XS.iloadN X314.here hx rfl (hb hby d11_143) rfl (XS.lconst X314.here hx rfl (hb hby d11_144) k))))
  show own_G (T314.setTop (mkF m 145 #[oA a, oI bits, oI (0 : Int32), oI bs, oI (4 : Int32), oJ (own_sg x2), oS, oA r, oI (-1 : Int32), oJ x0, oS, oJ (0 : Int64), oS] [(.long (0 : Int64)), (.int (0 : Int32)), (.int (0 : Int32)), (.ref r)]))
  obtain ⟨_, _, ⟨T318, L318, k318, n318⟩, -, X318, ⟨Lc318, hQ318, l318, y318, z318⟩, st318⟩ := Jvm.LawKit.callS X314 hx (y := (⟨"java/util/Arrays", "fill", "([JIIJ)V"⟩ : MethodName)) hown (mvT hZ (hw _ (own_m 63 rfl))) (mvT hZ (hw _ (own_m 64 rfl))) (mvT hZ (hw _ (own_m 30 rfl))) (mvT hZ (hw _ (own_m 65 rfl))) (by decide) (backOf (W := 0) (rmf0 l Z a0 hw [] r kr (4 : Int32) [(.long (own_s2 x0 (0 : Int64) bs)), (.long (own_s2 x1 x0 bs)), (.long (own_s2 x2 x1 bs)), (.long (own_s2 (own_sg x2) x2 bs))] h314 n0 Zs317 V314 (by decide)) hZ (hw _ (own_m 65 rfl)) (hw _ (own_m 30 rfl)) (by decide) (by decide)) (g := (mkF m 145 #[oA a, oI bits, oI (0 : Int32), oI bs, oI (4 : Int32), oJ (own_sg x2), oS, oA r, oI (-1 : Int32), oJ x0, oS, oJ (0 : Int64), oS] [(.long (0 : Int64)), (.int (0 : Int32)), (.int (0 : Int32)), (.ref r)])) rfl (by rw [hml]; rfl) (argsL := [(.ref r), (.int (0 : Int32)), (.int (0 : Int32)), (.long (0 : Int64))]) (rest := []) (lenOf own_pd4 rfl) rfl (by show 2 * 0 + _ ≤ _; exact Nat.le_of_eq rfl) (hb hby d11_145) (fun _ _ => ⟨rfl, e314, (by decide : 0 + 0 ≤ _), (by decide : 0 + 0 ≤ _)⟩)
  dsimp only [Pt.U, Pt.locs, Pt.cells, Pt.slots] at X318 l318 y318 z318 st318 hQ318
  subst l318 y318 z318
  obtain ⟨rfl, Nq318, e318⟩ := hQ318
  have N318 := Fr.app N314 Nq318
  refine up ?_ (st318)
  show own_G (T318.setTop (mkF m 148 #[oA a, oI bits, oI (0 : Int32), oI bs, oI (4 : Int32), oJ (own_sg x2), oS, oA r, oI (-1 : Int32), oJ x0, oS, oJ (0 : Int64), oS] []))
  refine up ?_ fun t k => XS.aloadN X318.here hx rfl (hb hby d11_148) rfl rfl (XS.aload X318.here hx rfl (hb hby d11_149) rfl rfl k)
  show own_G (T318.setTop (mkF m 151 #[oA a, oI bits, oI (0 : Int32), oI bs, oI (4 : Int32), oJ (own_sg x2), oS, oA r, oI (-1 : Int32), oJ x0, oS, oJ (0 : Int64), oS] [(.ref r), (.ref a)]))
  obtain ⟨T319, h319, X319, e319, W319, st319⟩ := putF X318 hx hZ hown (host := "") (Or.inl (hw _ (own_m 13 rfl))) Via.refl e318 Fw_c315 E_a_c315 (Or.inl (hw _ (own_m 14 rfl))) (hw _ (own_m 3 rfl)) (ty := (.array .long)) (by decide) rfl rfl (g := (mkF m 151 #[oA a, oI bits, oI (0 : Int32), oI bs, oI (4 : Int32), oJ (own_sg x2), oS, oA r, oI (-1 : Int32), oJ x0, oS, oJ (0 : Int64), oS] [(.ref r), (.ref a)])) rfl rfl (hb hby d11_151)
  refine up ?_ st319
  have E_a_c320 := E_a_c315.wr W319
  have Fl_c320 := Fl_c315.other W319 (Or.inr (slot_ne (Or.inl (hw _ (own_m 21 rfl))) (Or.inl (hw _ (own_m 14 rfl))) (by decide) (t := .int) (t' := (.array .long)) (by decide) (by decide)))
  have Fp_c320 := Fp_c315.other W319 (Or.inr (slot_ne (Or.inl (hw _ (own_m 23 rfl))) (Or.inl (hw _ (own_m 14 rfl))) (by decide) (t := .int) (t' := (.array .long)) (by decide) (by decide)))
  have V314_c320 := V314.other W319 (Ne.symm ne_ar)
  have F319 := Fw_c315.same W319
  have N319 := Fr.snoc X319 N318 g_a
  have kq321 := Nat.le_trans kq316 (Keep.of_wr W319).1
  have Zs322 : n0 ≤ h319.size := Nat.le_trans Zs317 (Keep.of_wr W319).1
  show own_G (T319.setTop (mkF m 154 #[oA a, oI bits, oI (0 : Int32), oI bs, oI (4 : Int32), oJ (own_sg x2), oS, oA r, oI (-1 : Int32), oJ x0, oS, oJ (0 : Int64), oS] []))
  refine up ?_ fun t k => XS.aloadN X319.here hx rfl (hb hby d11_154) rfl rfl (XS.iload X319.here hx rfl (hb hby d11_155) rfl k)
  show own_G (T319.setTop (mkF m 157 #[oA a, oI bits, oI (0 : Int32), oI bs, oI (4 : Int32), oJ (own_sg x2), oS, oA r, oI (-1 : Int32), oJ x0, oS, oJ (0 : Int64), oS] [(.int (4 : Int32)), (.ref a)]))
  obtain ⟨T323, h323, X323, e323, W323, st323⟩ := putF X319 hx hZ hown (host := "") (Or.inl (hw _ (own_m 20 rfl))) Via.refl e319 Fl_c320 E_a_c320 (Or.inl (hw _ (own_m 21 rfl))) (hw _ (own_m 3 rfl)) (ty := .int) (by decide) rfl rfl (g := (mkF m 157 #[oA a, oI bits, oI (0 : Int32), oI bs, oI (4 : Int32), oJ (own_sg x2), oS, oA r, oI (-1 : Int32), oJ x0, oS, oJ (0 : Int64), oS] [(.int (4 : Int32)), (.ref a)])) rfl rfl (hb hby d11_157)
  refine up ?_ st323
  have E_a_c324 := E_a_c320.wr W323
  have F319_c324 := F319.other W323 (Or.inr (slot_ne (Or.inl (hw _ (own_m 14 rfl))) (Or.inl (hw _ (own_m 21 rfl))) (by decide) (t := (.array .long)) (t' := .int) (by decide) (by decide)))
  have Fp_c324 := Fp_c320.other W323 (Or.inr (slot_ne (Or.inl (hw _ (own_m 23 rfl))) (Or.inl (hw _ (own_m 21 rfl))) (by decide) (t := .int) (t' := .int) (by decide) (by decide)))
  have V314_c324 := V314_c320.other W323 (Ne.symm ne_ar)
  have F323 := Fl_c320.same W323
  have N323 := Fr.snoc X323 N319 g_a
  have kq325 := Nat.le_trans kq321 (Keep.of_wr W323).1
  have Zs326 : n0 ≤ h323.size := Nat.le_trans Zs322 (Keep.of_wr W323).1
  show own_G (T323.setTop (mkF m 160 #[oA a, oI bits, oI (0 : Int32), oI bs, oI (4 : Int32), oJ (own_sg x2), oS, oA r, oI (-1 : Int32), oJ x0, oS, oJ (0 : Int64), oS] []))
  exact own_retV X323 hx hlk hret (hb hby d11_160) (by rw [e323]; exact ⟨rfl, N323, kq325, ⟨E_a_c324, F319_c324, F323, Fp_c324, V314_c324⟩⟩) (by decide) (by decide)
def own_Q_rmsC3 (Z : State) (a : Addr) (bits : Int32) (r : Addr) (kr : ClassId) (pw : Int32) (x0 : Int64) (x1 : Int64) (x2 : Int64) (bs : Int32) (h0 : Heap) (n0 : Nat) (v : Option Value) (h : Heap) (L : List Loc) : Prop := v = none ∧ Fr n0 L ∧ h0.size ≤ h.size ∧ ∃ (r' : Addr) (kr' : ClassId), n0 ≤ r' ∧ own_O Z h a r' kr' (4 : Int32) (4 : Int32) pw [(.long (0 : Int64)), (.long (own_s2 x0 (0 : Int64) bs)), (.long (own_s2 x1 x0 bs)), (.long (own_s2 (own_sg x1) x1 bs))]
theorem rmsC3 (l : Launch) (Z : State) (a0 : Array Value) (hw : own_W Z a0) (ws : List Jvm.Cond) (a : Addr) (bits : Int32) (r : Addr) (kr : ClassId) (pw : Int32) (x0 : Int64) (x1 : Int64) (x2 : Int64) (bs : Int32) (h0 : Heap) (n0 : Nat) (Z0 : n0 ≤ h0.size) (O0 : own_O Z h0 a r kr (3 : Int32) (2 : Int32) pw [(.long x0), (.long x1), (.long x2)]) (g_a : n0 ≤ a) (g_r : n0 ≤ r) (hws : ((bits.toUInt32 >>> ((6 : Int32) &&& 31).toUInt32).toInt32) = (1 : Int32)) (hbs : (bits &&& (63 : Int32)) = bs) :
    own_M l Z (⟨"com/example/eventweir/eventweir/ExactSum", "shiftUp", "(I)V"⟩ : MethodName) prog_78_method_13_code 13 none ws ({ frames := 2, cells := 1, slots := 4, locals := 31 } : Room) #[(.ref a), (.int bits)] h0 (own_Q_rmsC3 Z a bits r kr pw x0 x1 x2 bs h0 n0) := by
  refine own_body (plainFor_of_name own_pn0) ?_
  intro p e s m below meth c s₁ hx hZ hby hml hown hnm hlk hret X0 e0
  have N0 := Fr.nil n0
  obtain ⟨E_a, Fw, Fl, Fp, V⟩ := O0
  have ne_ar : a ≠ r := E_a.neArv V (hw _ (own_m 3 rfl))
  refine up (U' := s₁.setTop (mkF m 0 #[oA a, oI bits, oU, oU, oU, oU, oU, oU, oU, oU, oU, oU, oU] [])) ?_ (fun t k => castTop (own_ef_rmsA m a bits) k)
  refine up ?_ fun t k => XS.iloadN X0.here hx rfl (hb hby d11_0) rfl (XS.bipush X0.here hx rfl (hb hby d11_1) (XS.iushr X0.here hx rfl (hb hby d11_3) rfl (XS.istoreN X0.here hx rfl (hb hby d11_4) rfl (l' := #[oA a, oI bits, oI ((bits.toUInt32 >>> ((6 : Int32) &&& 31).toUInt32).toInt32), oU, oU, oU, oU, oU, oU, oU, oU, oU, oU]) rfl k)))
  show own_G (s₁.setTop (mkF m 5 #[oA a, oI bits, oI ((bits.toUInt32 >>> ((6 : Int32) &&& 31).toUInt32).toInt32), oU, oU, oU, oU, oU, oU, oU, oU, oU, oU] []))
  rw [hws]
  show own_G (s₁.setTop (mkF m 5 #[oA a, oI bits, oI (1 : Int32), oU, oU, oU, oU, oU, oU, oU, oU, oU, oU] []))
  refine up ?_ fun t k => XS.iloadN X0.here hx rfl (hb hby d11_5) rfl (XS.bipush X0.here hx rfl (hb hby d11_6) (XS.iand X0.here hx rfl (hb hby d11_8) rfl (XS.istoreN X0.here hx rfl (hb hby d11_9) rfl (l' := #[oA a, oI bits, oI (1 : Int32), oI (bits &&& (63 : Int32)), oU, oU, oU, oU, oU, oU, oU, oU, oU]) rfl k)))
  show own_G (s₁.setTop (mkF m 10 #[oA a, oI bits, oI (1 : Int32), oI (bits &&& (63 : Int32)), oU, oU, oU, oU, oU, oU, oU, oU, oU] []))
  rw [hbs]
  show own_G (s₁.setTop (mkF m 10 #[oA a, oI bits, oI (1 : Int32), oI bs, oU, oU, oU, oU, oU, oU, oU, oU, oU] []))
  refine up ?_ fun t k => XS.aloadN X0.here hx rfl (hb hby d11_10) rfl rfl k
  show own_G (s₁.setTop (mkF m 11 #[oA a, oI bits, oI (1 : Int32), oI bs, oU, oU, oU, oU, oU, oU, oU, oU, oU] [(.ref a)]))
  obtain ⟨T327, X327, e327, st327⟩ := getF X0 hx hZ hown (host := "") (Or.inl (hw _ (own_m 20 rfl))) Via.refl e0 Fl (g := (mkF m 11 #[oA a, oI bits, oI (1 : Int32), oI bs, oU, oU, oU, oU, oU, oU, oU, oU, oU] [(.ref a)])) rfl rfl (hb hby d11_11)
  refine up ?_ st327
  show own_G (T327.setTop (mkF m 14 #[oA a, oI bits, oI (1 : Int32), oI bs, oU, oU, oU, oU, oU, oU, oU, oU, oU] [(.int (2 : Int32))]))
  refine up ?_ fun t k => XS.iloadN X327.here hx rfl (hb hby d11_14) rfl (XS.iadd X327.here hx rfl (hb hby d11_15) rfl (XS.iconst X327.here hx rfl (hb hby d11_16) (XS.iadd X327.here hx rfl (hb hby d11_17) rfl (XS.istore X327.here hx rfl (hb hby d11_18) rfl (l' := #[oA a, oI bits, oI (1 : Int32), oI bs, oI (4 : Int32), oU, oU, oU, oU, oU, oU, oU, oU]) rfl (XS.aloadN X327.here hx rfl (hb hby d11_20) rfl rfl k)))))
  show own_G (T327.setTop (mkF m 21 #[oA a, oI bits, oI (1 : Int32), oI bs, oI (4 : Int32), oU, oU, oU, oU, oU, oU, oU, oU] [(.ref a)]))
  obtain ⟨T328, X328, e328, st328⟩ := getF X327 hx hZ hown (host := "") (Or.inl (hw _ (own_m 13 rfl))) Via.refl e327 Fw (g := (mkF m 21 #[oA a, oI bits, oI (1 : Int32), oI bs, oI (4 : Int32), oU, oU, oU, oU, oU, oU, oU, oU] [(.ref a)])) rfl rfl (hb hby d11_21)
  refine up ?_ st328
  show own_G (T328.setTop (mkF m 24 #[oA a, oI bits, oI (1 : Int32), oI bs, oI (4 : Int32), oU, oU, oU, oU, oU, oU, oU, oU] [(.ref r)]))
  refine up ?_ fun t k => XS.aloadN X328.here hx rfl (hb hby d11_24) rfl rfl k
  show own_G (T328.setTop (mkF m 25 #[oA a, oI bits, oI (1 : Int32), oI bs, oI (4 : Int32), oU, oU, oU, oU, oU, oU, oU, oU] [(.ref a), (.ref r)]))
  obtain ⟨T329, X329, e329, st329⟩ := getF X328 hx hZ hown (host := "") (Or.inl (hw _ (own_m 20 rfl))) Via.refl e328 Fl (g := (mkF m 25 #[oA a, oI bits, oI (1 : Int32), oI bs, oI (4 : Int32), oU, oU, oU, oU, oU, oU, oU, oU] [(.ref a), (.ref r)])) rfl rfl (hb hby d11_25)
  refine up ?_ st329
  show own_G (T329.setTop (mkF m 28 #[oA a, oI bits, oI (1 : Int32), oI bs, oI (4 : Int32), oU, oU, oU, oU, oU, oU, oU, oU] [(.int (2 : Int32)), (.ref r)]))
  refine up ?_ fun t k => XS.iconst X329.here hx rfl (hb hby d11_28) (XS.isub X329.here hx rfl (hb hby d11_29) rfl k)
  show own_G (T329.setTop (mkF m 30 #[oA a, oI bits, oI (1 : Int32), oI bs, oI (4 : Int32), oU, oU, oU, oU, oU, oU, oU, oU] [(.int (1 : Int32)), (.ref r)]))
  obtain ⟨cl330, Ar330, qa330, Sa330, Na330, Ha330, Ga330⟩ := id V
  have hin330 : ¬ ((1 : Int32) < 0 ∨ cl330.slots.size ≤ ((1 : Int32)).toNatClampNeg) := inb_of Sa330 ⟨by decide, by decide⟩
  refine up ?_ fun t k => X329.laload hx (j := (1 : Int32)) (v := (.long x1)) (by rw [e329]; exact Ar330.1) (State.isArrayOf_alike hZ.alike Ar330.2.1) Ar330.2.2 hin330 (Ha330.at hin330 rfl) (g := (mkF m 30 #[oA a, oI bits, oI (1 : Int32), oI bs, oI (4 : Int32), oU, oU, oU, oU, oU, oU, oU, oU] [(.int (1 : Int32)), (.ref r)])) rfl rfl (hb hby d11_30) _ (XS.bipush X329.here hx rfl (hb hby d11_31) (XS.lshr X329.here hx rfl (hb hby d11_33) rfl k))
  show own_G (T329.setTop (mkF m 34 #[oA a, oI bits, oI (1 : Int32), oI bs, oI (4 : Int32), oU, oU, oU, oU, oU, oU, oU, oU] [(.long (x1 >>> ((63 : Int32) &&& 0x3f).toInt64))]))
  show own_G (T329.setTop (mkF m 34 #[oA a, oI bits, oI (1 : Int32), oI bs, oI (4 : Int32), oU, oU, oU, oU, oU, oU, oU, oU] [(.long (own_sg x1))]))
  refine up ?_ fun t k => XS.lstore X329.here hx rfl (hb hby d11_34) rfl (l' := #[oA a, oI bits, oI (1 : Int32), oI bs, oI (4 : Int32), oJ (own_sg x1), oS, oU, oU, oU, oU, oU, oU]) rfl (XS.aloadN X329.here hx rfl (hb hby d11_36) rfl rfl k)
  show own_G (T329.setTop (mkF m 37 #[oA a, oI bits, oI (1 : Int32), oI bs, oI (4 : Int32), oJ (own_sg x1), oS, oU, oU, oU, oU, oU, oU] [(.ref a)]))
  obtain ⟨T331, X331, e331, st331⟩ := getF X329 hx hZ hown (host := "") (Or.inl (hw _ (own_m 13 rfl))) Via.refl e329 Fw (g := (mkF m 37 #[oA a, oI bits, oI (1 : Int32), oI bs, oI (4 : Int32), oJ (own_sg x1), oS, oU, oU, oU, oU, oU, oU] [(.ref a)])) rfl rfl (hb hby d11_37)
  refine up ?_ st331
  show own_G (T331.setTop (mkF m 40 #[oA a, oI bits, oI (1 : Int32), oI bs, oI (4 : Int32), oJ (own_sg x1), oS, oU, oU, oU, oU, oU, oU] [(.ref r)]))
  obtain ⟨cl332, Ar332, qa332, Sa332, Na332, Ha332, Ga332⟩ := id V
  refine up ?_ fun t k => X331.arraylength hx (by rw [e331]; exact Ar332.1) (State.isArrayOf_alike hZ.alike Ar332.2.1) (g := (mkF m 40 #[oA a, oI bits, oI (1 : Int32), oI bs, oI (4 : Int32), oJ (own_sg x1), oS, oU, oU, oU, oU, oU, oU] [(.ref r)])) rfl rfl (hb hby d11_40) _ k
  rw [len_of Sa332 Na332]
  show own_G (T331.setTop (mkF m 41 #[oA a, oI bits, oI (1 : Int32), oI bs, oI (4 : Int32), oJ (own_sg x1), oS, oU, oU, oU, oU, oU, oU] [(.int (3 : Int32))]))
  refine up ?_ fun t k => XS.iload X331.here hx rfl (hb hby d11_41) rfl k
  show own_G (T331.setTop (mkF m 43 #[oA a, oI bits, oI (1 : Int32), oI bs, oI (4 : Int32), oJ (own_sg x1), oS, oU, oU, oU, oU, oU, oU] [(.int (4 : Int32)), (.int (3 : Int32))]))
  refine up ?_ fun t k => XS.icmpNo X331.here hx rfl (hb hby d11_43) rfl (tlt (by decide : ((3 : Int32) < (4 : Int32)))).2.1 (XS.iload X331.here hx rfl (hb hby d11_46) rfl k)
  show own_G (T331.setTop (mkF m 48 #[oA a, oI bits, oI (1 : Int32), oI bs, oI (4 : Int32), oJ (own_sg x1), oS, oU, oU, oU, oU, oU, oU] [(.int (4 : Int32))]))
  obtain ⟨T333, h333, k333, X333, e333, E333, A333, st333⟩ := newP X331 hx hZ (hw _ (own_m 32 rfl)) e331 (g := (mkF m 48 #[oA a, oI bits, oI (1 : Int32), oI bs, oI (4 : Int32), oJ (own_sg x1), oS, oU, oU, oU, oU, oU, oU] [(.int (4 : Int32))])) rfl (hb hby d11_48) rfl (by decide) (cap := 4) (by decide) (by decide) (by decide) (by decide)
  obtain ⟨b333, g333⟩ : ∃ z, z = h0.size := ⟨_, rfl⟩
  rw [← g333] at A333 st333
  refine up ?_ st333
  have ne334 : a ≠ b333 := Nat.ne_of_lt (Nat.lt_of_lt_of_le E_a.lt (Nat.le_of_eq g333.symm))
  have ne335 : r ≠ b333 := Nat.ne_of_lt (Nat.lt_of_lt_of_le V.lt (Nat.le_of_eq g333.symm))
  have ge336 : n0 ≤ b333 := Nat.le_trans Z0 (Nat.le_of_eq g333.symm)
  have E_a_c337 := E_a.ext E333
  have Fw_c337 := Fw.ext E333
  have Fl_c337 := Fl.ext E333
  have Fp_c337 := Fp.ext E333
  have V_c337 := V.ext E333
  have kq338 := Nat.le_trans (Nat.le_refl h0.size) E333.1
  have Zs339 : n0 ≤ h333.size := Nat.le_trans Z0 E333.1
  have V_b333 : Arv Z h333 b333 k333 .long (4 : Int32) [(.long (0 : Int64)), (.long (0 : Int64)), (.long (0 : Int64)), (.long (0 : Int64))] (.long (0 : Int64)) := (Arv.new A333 (by decide)).pad (pad_rep [] (.long (0 : Int64)) 4)
  show own_G (T333.setTop (mkF m 50 #[oA a, oI bits, oI (1 : Int32), oI bs, oI (4 : Int32), oJ (own_sg x1), oS, oU, oU, oU, oU, oU, oU] [(.ref b333)]))
  refine up ?_ fun t k => XS.goto X333.here hx rfl (pc0 := 50) (pc' := 57) rfl (hb hby d11_50) (by decide) (by decide) (XS.astore X333.here hx rfl (hb hby d11_57) rfl rfl (l' := #[oA a, oI bits, oI (1 : Int32), oI bs, oI (4 : Int32), oJ (own_sg x1), oS, oA b333, oU, oU, oU, oU, oU]) rfl (XS.aloadN X333.here hx rfl (hb hby d11_59) rfl rfl k))
  show own_G (T333.setTop (mkF m 60 #[oA a, oI bits, oI (1 : Int32), oI bs, oI (4 : Int32), oJ (own_sg x1), oS, oA b333, oU, oU, oU, oU, oU] [(.ref a)]))
  obtain ⟨T340, X340, e340, st340⟩ := getF X333 hx hZ hown (host := "") (Or.inl (hw _ (own_m 20 rfl))) Via.refl e333 Fl_c337 (g := (mkF m 60 #[oA a, oI bits, oI (1 : Int32), oI bs, oI (4 : Int32), oJ (own_sg x1), oS, oA b333, oU, oU, oU, oU, oU] [(.ref a)])) rfl rfl (hb hby d11_60)
  refine up ?_ st340
  show own_G (T340.setTop (mkF m 63 #[oA a, oI bits, oI (1 : Int32), oI bs, oI (4 : Int32), oJ (own_sg x1), oS, oA b333, oU, oU, oU, oU, oU] [(.int (2 : Int32))]))
  refine up ?_ fun t k => XS.istore X340.here hx rfl (hb hby d11_63) rfl (l' := #[oA a, oI bits, oI (1 : Int32), oI bs, oI (4 : Int32), oJ (own_sg x1), oS, oA b333, oI (2 : Int32), oU, oU, oU, oU]) rfl (XS.iload X340.here hx rfl (hb hby d11_65) rfl k)
  show own_G (T340.setTop (mkF m 67 #[oA a, oI bits, oI (1 : Int32), oI bs, oI (4 : Int32), oJ (own_sg x1), oS, oA b333, oI (2 : Int32), oU, oU, oU, oU] [(.int (2 : Int32))]))
  refine up ?_ fun t k => XS.ifNo X340.here hx rfl (hb hby d11_67) rfl ((if0 _ _).trans (flt (by decide : ¬ ((2 : Int32) < (0 : Int32)))).1) (XS.iload X340.here hx rfl (hb hby d11_70) rfl (XS.aloadN X340.here hx rfl (hb hby d11_72) rfl rfl k))
  show own_G (T340.setTop (mkF m 73 #[oA a, oI bits, oI (1 : Int32), oI bs, oI (4 : Int32), oJ (own_sg x1), oS, oA b333, oI (2 : Int32), oU, oU, oU, oU] [(.ref a), (.int (2 : Int32))]))
  obtain ⟨T341, X341, e341, st341⟩ := getF X340 hx hZ hown (host := "") (Or.inl (hw _ (own_m 20 rfl))) Via.refl e340 Fl_c337 (g := (mkF m 73 #[oA a, oI bits, oI (1 : Int32), oI bs, oI (4 : Int32), oJ (own_sg x1), oS, oA b333, oI (2 : Int32), oU, oU, oU, oU] [(.ref a), (.int (2 : Int32))])) rfl rfl (hb hby d11_73)
  refine up ?_ st341
  show own_G (T341.setTop (mkF m 76 #[oA a, oI bits, oI (1 : Int32), oI bs, oI (4 : Int32), oJ (own_sg x1), oS, oA b333, oI (2 : Int32), oU, oU, oU, oU] [(.int (2 : Int32)), (.int (2 : Int32))]))
  refine up ?_ fun t k => XS.icmpYes X341.here hx rfl (pc0 := 76) (pc' := 89) rfl (hb hby d11_76) rfl (flt (by decide : ¬ ((2 : Int32) < (2 : Int32)))).2.1 (by decide) (by decide) (XS.lload X341.here hx rfl (hb hby d11_89) rfl (XS.lstore X341.here hx rfl (hb hby d11_91) rfl (l' := #[oA a, oI bits, oI (1 : Int32), oI bs, oI (4 : Int32), oJ (own_sg x1), oS, oA b333, oI (2 : Int32), oJ (own_sg x1), oS, oU, oU]) rfl (XS.iload X341.here hx rfl (hb hby d11_93) rfl k)))
  show own_G (T341.setTop (mkF m 95 #[oA a, oI bits, oI (1 : Int32), oI bs, oI (4 : Int32), oJ (own_sg x1), oS, oA b333, oI (2 : Int32), oJ (own_sg x1), oS, oU, oU] [(.int (2 : Int32))]))
  refine up ?_ fun t k => XS.ifYes X341.here hx rfl (pc0 := 95) (pc' := 102) rfl (hb hby d11_95) rfl ((if0 _ _).trans (feq (by decide : ¬ ((2 : Int32) = (0 : Int32)))).2) (by decide) (by decide) (XS.aloadN X341.here hx rfl (hb hby d11_102) rfl rfl k)
  show own_G (T341.setTop (mkF m 103 #[oA a, oI bits, oI (1 : Int32), oI bs, oI (4 : Int32), oJ (own_sg x1), oS, oA b333, oI (2 : Int32), oJ (own_sg x1), oS, oU, oU] [(.ref a)]))
  obtain ⟨T342, X342, e342, st342⟩ := getF X341 hx hZ hown (host := "") (Or.inl (hw _ (own_m 13 rfl))) Via.refl e341 Fw_c337 (g := (mkF m 103 #[oA a, oI bits, oI (1 : Int32), oI bs, oI (4 : Int32), oJ (own_sg x1), oS, oA b333, oI (2 : Int32), oJ (own_sg x1), oS, oU, oU] [(.ref a)])) rfl rfl (hb hby d11_103)
  refine up ?_ st342
  show own_G (T342.setTop (mkF m 106 #[oA a, oI bits, oI (1 : Int32), oI bs, oI (4 : Int32), oJ (own_sg x1), oS, oA b333, oI (2 : Int32), oJ (own_sg x1), oS, oU, oU] [(.ref r)]))
  refine up ?_ fun t k => XS.iload X342.here hx rfl (hb hby d11_106) rfl (XS.iconst X342.here hx rfl (hb hby d11_108) (XS.isub X342.here hx rfl (hb hby d11_109) rfl k))
  show own_G (T342.setTop (mkF m 110 #[oA a, oI bits, oI (1 : Int32), oI bs, oI (4 : Int32), oJ (own_sg x1), oS, oA b333, oI (2 : Int32), oJ (own_sg x1), oS, oU, oU] [(.int (1 : Int32)), (.ref r)]))
  obtain ⟨cl343, Ar343, qa343, Sa343, Na343, Ha343, Ga343⟩ := id V_c337
  have hin343 : ¬ ((1 : Int32) < 0 ∨ cl343.slots.size ≤ ((1 : Int32)).toNatClampNeg) := inb_of Sa343 ⟨by decide, by decide⟩
  refine up ?_ fun t k => X342.laload hx (j := (1 : Int32)) (v := (.long x1)) (by rw [e342]; exact Ar343.1) (State.isArrayOf_alike hZ.alike Ar343.2.1) Ar343.2.2 hin343 (Ha343.at hin343 rfl) (g := (mkF m 110 #[oA a, oI bits, oI (1 : Int32), oI bs, oI (4 : Int32), oJ (own_sg x1), oS, oA b333, oI (2 : Int32), oJ (own_sg x1), oS, oU, oU] [(.int (1 : Int32)), (.ref r)])) rfl rfl (hb hby d11_110) _ (XS.lstore X342.here hx rfl (hb hby d11_111) rfl (l' := #[oA a, oI bits, oI (1 : Int32), oI bs, oI (4 : Int32), oJ (own_sg x1), oS, oA b333, oI (2 : Int32), oJ (own_sg x1), oS, oJ x1, oS]) rfl (XS.aload X342.here hx rfl (hb hby d11_113) rfl rfl (XS.iload X342.here hx rfl (hb hby d11_115) rfl (XS.iloadN X342.here hx rfl (hb hby d11_117) rfl (XS.iadd X342.here hx rfl (hb hby d11_118) rfl (XS.lload X342.here hx rfl (hb hby d11_119) rfl (XS.iloadN X342.here hx rfl (hb hby d11_121) rfl (XS.lshl X342.here hx rfl (hb hby d11_122) rfl (XS.lload X342.here hx rfl (hb hby d11_123) rfl k)))))))))
  show own_G (T342.setTop (mkF m 125 #[oA a, oI bits, oI (1 : Int32), oI bs, oI (4 : Int32), oJ (own_sg x1), oS, oA b333, oI (2 : Int32), oJ (own_sg x1), oS, oJ x1, oS] [(.long x1), (.long ((own_sg x1) <<< (bs &&& 0x3f).toInt64)), (.int (3 : Int32)), (.ref b333)]))
  refine up ?_ fun t k => XS.iconst X342.here hx rfl (hb hby d11_125) (XS.lushr X342.here hx rfl (hb hby d11_126) rfl (XS.bipush X342.here hx rfl (hb hby d11_127) (XS.iloadN X342.here hx rfl (hb hby d11_129) rfl (XS.isub X342.here hx rfl (hb hby d11_130) rfl (XS.lushr X342.here hx rfl (hb hby d11_131) rfl (XS.lor X342.here hx rfl (hb hby d11_132) rfl k))))))
  show own_G (T342.setTop (mkF m 133 #[oA a, oI bits, oI (1 : Int32), oI bs, oI (4 : Int32), oJ (own_sg x1), oS, oA b333, oI (2 : Int32), oJ (own_sg x1), oS, oJ x1, oS] [(.long (((own_sg x1) <<< (bs &&& 0x3f).toInt64) ||| ((((x1.toUInt64 >>> ((1 : Int32) &&& 0x3f).toInt64.toUInt64).toInt64).toUInt64 >>> (((63 : Int32) - bs) &&& 0x3f).toInt64.toUInt64).toInt64))), (.int (3 : Int32)), (.ref b333)]))
  show own_G (T342.setTop (mkF m 133 #[oA a, oI bits, oI (1 : Int32), oI bs, oI (4 : Int32), oJ (own_sg x1), oS, oA b333, oI (2 : Int32), oJ (own_sg x1), oS, oJ x1, oS] [(.long (own_s2 (own_sg x1) x1 bs)), (.int (3 : Int32)), (.ref b333)]))
  obtain ⟨cl344, Ar344, qa344, Sa344, Na344, Ha344, Ga344⟩ := id V_b333
  have hin344 : ¬ ((3 : Int32) < 0 ∨ cl344.slots.size ≤ ((3 : Int32)).toNatClampNeg) := inb_of Sa344 ⟨by decide, by decide⟩
  obtain ⟨T344, h344, X344, e344, W344, st344⟩ := stJ X342 hx hZ e342 Ar344 (j := (3 : Int32)) hin344 (g := (mkF m 133 #[oA a, oI bits, oI (1 : Int32), oI bs, oI (4 : Int32), oJ (own_sg x1), oS, oA b333, oI (2 : Int32), oJ (own_sg x1), oS, oJ x1, oS] [(.long (own_s2 (own_sg x1) x1 bs)), (.int (3 : Int32)), (.ref b333)])) rfl rfl (hb hby d11_133)
  refine up ?_ st344
  have E_a_c345 := E_a_c337.wr W344
  have Fw_c345 := Fw_c337.other W344 (Or.inl ne334)
  have Fl_c345 := Fl_c337.other W344 (Or.inl ne334)
  have Fp_c345 := Fp_c337.other W344 (Or.inl ne334)
  have V_c345 := V_c337.other W344 ne335
  have V344 : Arv Z h344 b333 k333 .long (4 : Int32) [(.long (0 : Int64)), (.long (0 : Int64)), (.long (0 : Int64)), (.long (own_s2 (own_sg x1) x1 bs))] (.long (0 : Int64)) := Arv.set Ar344 qa344 Sa344 Na344 Ha344 Ga344 rfl W344 3 rfl (Nat.le_of_ble_eq_true rfl)
  have N344 := Fr.snoc X344 N0 ge336
  have kq346 := Nat.le_trans kq338 (Keep.of_wr W344).1
  have Zs347 : n0 ≤ h344.size := Nat.le_trans Zs339 (Keep.of_wr W344).1
  show own_G (T344.setTop (mkF m 134 #[oA a, oI bits, oI (1 : Int32), oI bs, oI (4 : Int32), oJ (own_sg x1), oS, oA b333, oI (2 : Int32), oJ (own_sg x1), oS, oJ x1, oS] []))
  refine up ?_ fun t k => XS.iinc X344.here hx rfl (hb hby d11_134) rfl (l' := #[oA a, oI bits, oI (1 : Int32), oI bs, oI (4 : Int32), oJ (own_sg x1), oS, oA b333, oI (1 : Int32), oJ (own_sg x1), oS, oJ x1, oS]) rfl (XS.goto X344.here hx rfl (pc0 := 137) (pc' := 65) rfl (hb hby d11_137) (by decide) (by decide) (XS.iload X344.here hx rfl (hb hby d11_65) rfl k))
  show own_G (T344.setTop (mkF m 67 #[oA a, oI bits, oI (1 : Int32), oI bs, oI (4 : Int32), oJ (own_sg x1), oS, oA b333, oI (1 : Int32), oJ (own_sg x1), oS, oJ x1, oS] [(.int (1 : Int32))]))
  refine up ?_ fun t k => XS.ifNo X344.here hx rfl (hb hby d11_67) rfl ((if0 _ _).trans (flt (by decide : ¬ ((1 : Int32) < (0 : Int32)))).1) (XS.iload X344.here hx rfl (hb hby d11_70) rfl (XS.aloadN X344.here hx rfl (hb hby d11_72) rfl rfl k))
  show own_G (T344.setTop (mkF m 73 #[oA a, oI bits, oI (1 : Int32), oI bs, oI (4 : Int32), oJ (own_sg x1), oS, oA b333, oI (1 : Int32), oJ (own_sg x1), oS, oJ x1, oS] [(.ref a), (.int (1 : Int32))]))
  obtain ⟨T348, X348, e348, st348⟩ := getF X344 hx hZ hown (host := "") (Or.inl (hw _ (own_m 20 rfl))) Via.refl e344 Fl_c345 (g := (mkF m 73 #[oA a, oI bits, oI (1 : Int32), oI bs, oI (4 : Int32), oJ (own_sg x1), oS, oA b333, oI (1 : Int32), oJ (own_sg x1), oS, oJ x1, oS] [(.ref a), (.int (1 : Int32))])) rfl rfl (hb hby d11_73)
  refine up ?_ st348
  show own_G (T348.setTop (mkF m 76 #[oA a, oI bits, oI (1 : Int32), oI bs, oI (4 : Int32), oJ (own_sg x1), oS, oA b333, oI (1 : Int32), oJ (own_sg x1), oS, oJ x1, oS] [(.int (2 : Int32)), (.int (1 : Int32))]))
  refine up ?_ fun t k => XS.icmpNo X348.here hx rfl (hb hby d11_76) rfl (tlt (by decide : ((1 : Int32) < (2 : Int32)))).2.1 (XS.aloadN X348.here hx rfl (hb hby d11_79) rfl rfl k)
  show own_G (T348.setTop (mkF m 80 #[oA a, oI bits, oI (1 : Int32), oI bs, oI (4 : Int32), oJ (own_sg x1), oS, oA b333, oI (1 : Int32), oJ (own_sg x1), oS, oJ x1, oS] [(.ref a)]))
  obtain ⟨T349, X349, e349, st349⟩ := getF X348 hx hZ hown (host := "") (Or.inl (hw _ (own_m 13 rfl))) Via.refl e348 Fw_c345 (g := (mkF m 80 #[oA a, oI bits, oI (1 : Int32), oI bs, oI (4 : Int32), oJ (own_sg x1), oS, oA b333, oI (1 : Int32), oJ (own_sg x1), oS, oJ x1, oS] [(.ref a)])) rfl rfl (hb hby d11_80)
  refine up ?_ st349
  show own_G (T349.setTop (mkF m 83 #[oA a, oI bits, oI (1 : Int32), oI bs, oI (4 : Int32), oJ (own_sg x1), oS, oA b333, oI (1 : Int32), oJ (own_sg x1), oS, oJ x1, oS] [(.ref r)]))
  refine up ?_ fun t k => XS.iload X349.here hx rfl (hb hby d11_83) rfl k
  show own_G (T349.setTop (mkF m 85 #[oA a, oI bits, oI (1 : Int32), oI bs, oI (4 : Int32), oJ (own_sg x1), oS, oA b333, oI (1 : Int32), oJ (own_sg x1), oS, oJ x1, oS] [(.int (1 : Int32)), (.ref r)]))
  obtain ⟨cl350, Ar350, qa350, Sa350, Na350, Ha350, Ga350⟩ := id V_c345
  have hin350 : ¬ ((1 : Int32) < 0 ∨ cl350.slots.size ≤ ((1 : Int32)).toNatClampNeg) := inb_of Sa350 ⟨by decide, by decide⟩
  refine up ?_ fun t k => X349.laload hx (j := (1 : Int32)) (v := (.long x1)) (by rw [e349]; exact Ar350.1) (State.isArrayOf_alike hZ.alike Ar350.2.1) Ar350.2.2 hin350 (Ha350.at hin350 rfl) (g := (mkF m 85 #[oA a, oI bits, oI (1 : Int32), oI bs, oI (4 : Int32), oJ (own_sg x1), oS, oA b333, oI (1 : Int32), oJ (own_sg x1), oS, oJ x1, oS] [(.int (1 : Int32)), (.ref r)])) rfl rfl (hb hby d11_85) _ (XS.goto X349.here hx rfl (pc0 := 86) (pc' := 91) rfl (hb hby d11_86) (by decide) (by decide) (XS.lstore X349.here hx rfl (hb hby d11_91) rfl (l' := #[oA a, oI bits, oI (1 : Int32), oI bs, oI (4 : Int32), oJ (own_sg x1), oS, oA b333, oI (1 : Int32), oJ x1, oS, oJ x1, oS]) rfl (XS.iload X349.here hx rfl (hb hby d11_93) rfl k)))
  show own_G (T349.setTop (mkF m 95 #[oA a, oI bits, oI (1 : Int32), oI bs, oI (4 : Int32), oJ (own_sg x1), oS, oA b333, oI (1 : Int32), oJ x1, oS, oJ x1, oS] [(.int (1 : Int32))]))
  refine up ?_ fun t k => XS.ifYes X349.here hx rfl (pc0 := 95) (pc' := 102) rfl (hb hby d11_95) rfl ((if0 _ _).trans (feq (by decide : ¬ ((1 : Int32) = (0 : Int32)))).2) (by decide) (by decide) (XS.aloadN X349.here hx rfl (hb hby d11_102) rfl rfl k)
  show own_G (T349.setTop (mkF m 103 #[oA a, oI bits, oI (1 : Int32), oI bs, oI (4 : Int32), oJ (own_sg x1), oS, oA b333, oI (1 : Int32), oJ x1, oS, oJ x1, oS] [(.ref a)]))
  obtain ⟨T351, X351, e351, st351⟩ := getF X349 hx hZ hown (host := "") (Or.inl (hw _ (own_m 13 rfl))) Via.refl e349 Fw_c345 (g := (mkF m 103 #[oA a, oI bits, oI (1 : Int32), oI bs, oI (4 : Int32), oJ (own_sg x1), oS, oA b333, oI (1 : Int32), oJ x1, oS, oJ x1, oS] [(.ref a)])) rfl rfl (hb hby d11_103)
  refine up ?_ st351
  show own_G (T351.setTop (mkF m 106 #[oA a, oI bits, oI (1 : Int32), oI bs, oI (4 : Int32), oJ (own_sg x1), oS, oA b333, oI (1 : Int32), oJ x1, oS, oJ x1, oS] [(.ref r)]))
  refine up ?_ fun t k => XS.iload X351.here hx rfl (hb hby d11_106) rfl (XS.iconst X351.here hx rfl (hb hby d11_108) (XS.isub X351.here hx rfl (hb hby d11_109) rfl k))
  show own_G (T351.setTop (mkF m 110 #[oA a, oI bits, oI (1 : Int32), oI bs, oI (4 : Int32), oJ (own_sg x1), oS, oA b333, oI (1 : Int32), oJ x1, oS, oJ x1, oS] [(.int (0 : Int32)), (.ref r)]))
  obtain ⟨cl352, Ar352, qa352, Sa352, Na352, Ha352, Ga352⟩ := id V_c345
  have hin352 : ¬ ((0 : Int32) < 0 ∨ cl352.slots.size ≤ ((0 : Int32)).toNatClampNeg) := inb_of Sa352 ⟨by decide, by decide⟩
  refine up ?_ fun t k => X351.laload hx (j := (0 : Int32)) (v := (.long x0)) (by rw [e351]; exact Ar352.1) (State.isArrayOf_alike hZ.alike Ar352.2.1) Ar352.2.2 hin352 (Ha352.at hin352 rfl) (g := (mkF m 110 #[oA a, oI bits, oI (1 : Int32), oI bs, oI (4 : Int32), oJ (own_sg x1), oS, oA b333, oI (1 : Int32), oJ x1, oS, oJ x1, oS] [(.int (0 : Int32)), (.ref r)])) rfl rfl (hb hby d11_110) _ (XS.lstore X351.here hx rfl (hb hby d11_111) rfl (l' := #[oA a, oI bits, oI (1 : Int32), oI bs, oI (4 : Int32), oJ (own_sg x1), oS, oA b333, oI (1 : Int32), oJ x1, oS, oJ x0, oS]) rfl (XS.aload X351.here hx rfl (hb hby d11_113) rfl rfl (XS.iload X351.here hx rfl (hb hby d11_115) rfl (XS.iloadN X351.here hx rfl (hb hby d11_117) rfl (XS.iadd X351.here hx rfl (hb hby d11_118) rfl (XS.lload X351.here hx rfl (hb hby d11_119) rfl (XS.iloadN X351.here hx rfl (hb hby d11_121) rfl (XS.lshl X351.here hx rfl (hb hby d11_122) rfl (XS.lload X351.here hx rfl (hb hby d11_123) rfl k)))))))))
  show own_G (T351.setTop (mkF m 125 #[oA a, oI bits, oI (1 : Int32), oI bs, oI (4 : Int32), oJ (own_sg x1), oS, oA b333, oI (1 : Int32), oJ x1, oS, oJ x0, oS] [(.long x0), (.long (x1 <<< (bs &&& 0x3f).toInt64)), (.int (2 : Int32)), (.ref b333)]))
  refine up ?_ fun t k => XS.iconst X351.here hx rfl (hb hby d11_125) (XS.lushr X351.here hx rfl (hb hby d11_126) rfl (XS.bipush X351.here hx rfl (hb hby d11_127) (XS.iloadN X351.here hx rfl (hb hby d11_129) rfl (XS.isub X351.here hx rfl (hb hby d11_130) rfl (XS.lushr X351.here hx rfl (hb hby d11_131) rfl (XS.lor X351.here hx rfl (hb hby d11_132) rfl k))))))
  show own_G (T351.setTop (mkF m 133 #[oA a, oI bits, oI (1 : Int32), oI bs, oI (4 : Int32), oJ (own_sg x1), oS, oA b333, oI (1 : Int32), oJ x1, oS, oJ x0, oS] [(.long ((x1 <<< (bs &&& 0x3f).toInt64) ||| ((((x0.toUInt64 >>> ((1 : Int32) &&& 0x3f).toInt64.toUInt64).toInt64).toUInt64 >>> (((63 : Int32) - bs) &&& 0x3f).toInt64.toUInt64).toInt64))), (.int (2 : Int32)), (.ref b333)]))
  show own_G (T351.setTop (mkF m 133 #[oA a, oI bits, oI (1 : Int32), oI bs, oI (4 : Int32), oJ (own_sg x1), oS, oA b333, oI (1 : Int32), oJ x1, oS, oJ x0, oS] [(.long (own_s2 x1 x0 bs)), (.int (2 : Int32)), (.ref b333)]))
  obtain ⟨cl353, Ar353, qa353, Sa353, Na353, Ha353, Ga353⟩ := id V344
  have hin353 : ¬ ((2 : Int32) < 0 ∨ cl353.slots.size ≤ ((2 : Int32)).toNatClampNeg) := inb_of Sa353 ⟨by decide, by decide⟩
  obtain ⟨T353, h353, X353, e353, W353, st353⟩ := stJ X351 hx hZ e351 Ar353 (j := (2 : Int32)) hin353 (g := (mkF m 133 #[oA a, oI bits, oI (1 : Int32), oI bs, oI (4 : Int32), oJ (own_sg x1), oS, oA b333, oI (1 : Int32), oJ x1, oS, oJ x0, oS] [(.long (own_s2 x1 x0 bs)), (.int (2 : Int32)), (.ref b333)])) rfl rfl (hb hby d11_133)
  refine up ?_ st353
  have E_a_c354 := E_a_c345.wr W353
  have Fw_c354 := Fw_c345.other W353 (Or.inl ne334)
  have Fl_c354 := Fl_c345.other W353 (Or.inl ne334)
  have Fp_c354 := Fp_c345.other W353 (Or.inl ne334)
  have V_c354 := V_c345.other W353 ne335
  have V353 : Arv Z h353 b333 k333 .long (4 : Int32) [(.long (0 : Int64)), (.long (0 : Int64)), (.long (own_s2 x1 x0 bs)), (.long (own_s2 (own_sg x1) x1 bs))] (.long (0 : Int64)) := Arv.set Ar353 qa353 Sa353 Na353 Ha353 Ga353 rfl W353 2 rfl (Nat.le_of_ble_eq_true rfl)
  have N353 := Fr.snoc X353 N344 ge336
  have kq355 := Nat.le_trans kq346 (Keep.of_wr W353).1
  have Zs356 : n0 ≤ h353.size := Nat.le_trans Zs347 (Keep.of_wr W353).1
  show own_G (T353.setTop (mkF m 134 #[oA a, oI bits, oI (1 : Int32), oI bs, oI (4 : Int32), oJ (own_sg x1), oS, oA b333, oI (1 : Int32), oJ x1, oS, oJ x0, oS] []))
  refine up ?_ fun t k => XS.iinc X353.here hx rfl (hb hby d11_134) rfl (l' := #[oA a, oI bits, oI (1 : Int32), oI bs, oI (4 : Int32), oJ (own_sg x1), oS, oA b333, oI (0 : Int32), oJ x1, oS, oJ x0, oS]) rfl (XS.goto X353.here hx rfl (pc0 := 137) (pc' := 65) rfl (hb hby d11_137) (by decide) (by decide) (XS.iload X353.here hx rfl (hb hby d11_65) rfl k))
  show own_G (T353.setTop (mkF m 67 #[oA a, oI bits, oI (1 : Int32), oI bs, oI (4 : Int32), oJ (own_sg x1), oS, oA b333, oI (0 : Int32), oJ x1, oS, oJ x0, oS] [(.int (0 : Int32))]))
  refine up ?_ fun t k => XS.ifNo X353.here hx rfl (hb hby d11_67) rfl ((if0 _ _).trans (flt (by decide : ¬ ((0 : Int32) < (0 : Int32)))).1) (XS.iload X353.here hx rfl (hb hby d11_70) rfl (XS.aloadN X353.here hx rfl (hb hby d11_72) rfl rfl k))
  show own_G (T353.setTop (mkF m 73 #[oA a, oI bits, oI (1 : Int32), oI bs, oI (4 : Int32), oJ (own_sg x1), oS, oA b333, oI (0 : Int32), oJ x1, oS, oJ x0, oS] [(.ref a), (.int (0 : Int32))]))
  obtain ⟨T357, X357, e357, st357⟩ := getF X353 hx hZ hown (host := "") (Or.inl (hw _ (own_m 20 rfl))) Via.refl e353 Fl_c354 (g := (mkF m 73 #[oA a, oI bits, oI (1 : Int32), oI bs, oI (4 : Int32), oJ (own_sg x1), oS, oA b333, oI (0 : Int32), oJ x1, oS, oJ x0, oS] [(.ref a), (.int (0 : Int32))])) rfl rfl (hb hby d11_73)
  refine up ?_ st357
  show own_G (T357.setTop (mkF m 76 #[oA a, oI bits, oI (1 : Int32), oI bs, oI (4 : Int32), oJ (own_sg x1), oS, oA b333, oI (0 : Int32), oJ x1, oS, oJ x0, oS] [(.int (2 : Int32)), (.int (0 : Int32))]))
  refine up ?_ fun t k => XS.icmpNo X357.here hx rfl (hb hby d11_76) rfl (tlt (by decide : ((0 : Int32) < (2 : Int32)))).2.1 (XS.aloadN X357.here hx rfl (hb hby d11_79) rfl rfl k)
  show own_G (T357.setTop (mkF m 80 #[oA a, oI bits, oI (1 : Int32), oI bs, oI (4 : Int32), oJ (own_sg x1), oS, oA b333, oI (0 : Int32), oJ x1, oS, oJ x0, oS] [(.ref a)]))
  obtain ⟨T358, X358, e358, st358⟩ := getF X357 hx hZ hown (host := "") (Or.inl (hw _ (own_m 13 rfl))) Via.refl e357 Fw_c354 (g := (mkF m 80 #[oA a, oI bits, oI (1 : Int32), oI bs, oI (4 : Int32), oJ (own_sg x1), oS, oA b333, oI (0 : Int32), oJ x1, oS, oJ x0, oS] [(.ref a)])) rfl rfl (hb hby d11_80)
  refine up ?_ st358
  show own_G (T358.setTop (mkF m 83 #[oA a, oI bits, oI (1 : Int32), oI bs, oI (4 : Int32), oJ (own_sg x1), oS, oA b333, oI (0 : Int32), oJ x1, oS, oJ x0, oS] [(.ref r)]))
  refine up ?_ fun t k => XS.iload X358.here hx rfl (hb hby d11_83) rfl k
  show own_G (T358.setTop (mkF m 85 #[oA a, oI bits, oI (1 : Int32), oI bs, oI (4 : Int32), oJ (own_sg x1), oS, oA b333, oI (0 : Int32), oJ x1, oS, oJ x0, oS] [(.int (0 : Int32)), (.ref r)]))
  obtain ⟨cl359, Ar359, qa359, Sa359, Na359, Ha359, Ga359⟩ := id V_c354
  have hin359 : ¬ ((0 : Int32) < 0 ∨ cl359.slots.size ≤ ((0 : Int32)).toNatClampNeg) := inb_of Sa359 ⟨by decide, by decide⟩
  refine up ?_ fun t k => X358.laload hx (j := (0 : Int32)) (v := (.long x0)) (by rw [e358]; exact Ar359.1) (State.isArrayOf_alike hZ.alike Ar359.2.1) Ar359.2.2 hin359 (Ha359.at hin359 rfl) (g := (mkF m 85 #[oA a, oI bits, oI (1 : Int32), oI bs, oI (4 : Int32), oJ (own_sg x1), oS, oA b333, oI (0 : Int32), oJ x1, oS, oJ x0, oS] [(.int (0 : Int32)), (.ref r)])) rfl rfl (hb hby d11_85) _ (XS.goto X358.here hx rfl (pc0 := 86) (pc' := 91) rfl (hb hby d11_86) (by decide) (by decide) (XS.lstore X358.here hx rfl (hb hby d11_91) rfl (l' := #[oA a, oI bits, oI (1 : Int32), oI bs, oI (4 : Int32), oJ (own_sg x1), oS, oA b333, oI (0 : Int32), oJ x0, oS, oJ x0, oS]) rfl (XS.iload X358.here hx rfl (hb hby d11_93) rfl k)))
  show own_G (T358.setTop (mkF m 95 #[oA a, oI bits, oI (1 : Int32), oI bs, oI (4 : Int32), oJ (own_sg x1), oS, oA b333, oI (0 : Int32), oJ x0, oS, oJ x0, oS] [(.int (0 : Int32))]))
  refine up ?_ fun t k => XS.ifNo X358.here hx rfl (hb hby d11_95) rfl ((if0 _ _).trans (teq (by decide : ((0 : Int32) = (0 : Int32)))).2) (XS.lconst X358.here hx rfl (hb hby d11_98) (XS.goto X358.here hx rfl (pc0 := 99) (pc' := 111) rfl (hb hby d11_99) (by decide) (by decide) (XS.lstore X358.here hx rfl (hb hby d11_111) rfl (l' := #[oA a, oI bits, oI (1 : Int32), oI bs, oI (4 : Int32), oJ (own_sg x1), oS, oA b333, oI (0 : Int32), oJ x0, oS, oJ (0 : Int64), oS]) rfl (XS.aload X358.here hx rfl (hb hby d11_113) rfl rfl (XS.iload X358.here hx rfl (hb hby d11_115) rfl (XS.iloadN X358.here hx rfl (hb hby d11_117) rfl (XS.iadd X358.here hx rfl (hb hby d11_118) rfl (XS.lload X358.here hx rfl (hb hby d11_119) rfl (XS.iloadN X358.here hx rfl (hb hby d11_121) rfl k)))))))))
  show own_G (T358.setTop (mkF m 122 #[oA a, oI bits, oI (1 : Int32), oI bs, oI (4 : Int32), oJ (own_sg x1), oS, oA b333, oI (0 : Int32), oJ x0, oS, oJ (0 : Int64), oS] [(.int bs), (.long x0), (.int (1 : Int32)), (.ref b333)]))
  refine up ?_ fun t k => XS.lshl X358.here hx rfl (hb hby d11_122) rfl (XS.lload X358.here hx rfl (hb hby d11_123) rfl (XS.iconst X358.here hx rfl (hb hby d11_125) (XS.lushr X358.here hx rfl (hb hby d11_126) rfl (XS.bipush X358.here hx rfl (hb hby d11_127) (XS.iloadN X358.here hx rfl (hb hby d11_129) rfl (XS.isub X358.here hx rfl (hb hby d11_130) rfl (XS.lushr X358.here hx rfl (hb hby d11_131) rfl (XS.lor X358.here hx rfl (hb hby d11_132) rfl k))))))))
  show own_G (T358.setTop (mkF m 133 #[oA a, oI bits, oI (1 : Int32), oI bs, oI (4 : Int32), oJ (own_sg x1), oS, oA b333, oI (0 : Int32), oJ x0, oS, oJ (0 : Int64), oS] [(.long ((x0 <<< (bs &&& 0x3f).toInt64) ||| (((((0 : Int64).toUInt64 >>> ((1 : Int32) &&& 0x3f).toInt64.toUInt64).toInt64).toUInt64 >>> (((63 : Int32) - bs) &&& 0x3f).toInt64.toUInt64).toInt64))), (.int (1 : Int32)), (.ref b333)]))
  show own_G (T358.setTop (mkF m 133 #[oA a, oI bits, oI (1 : Int32), oI bs, oI (4 : Int32), oJ (own_sg x1), oS, oA b333, oI (0 : Int32), oJ x0, oS, oJ (0 : Int64), oS] [(.long (own_s2 x0 (0 : Int64) bs)), (.int (1 : Int32)), (.ref b333)]))
  obtain ⟨cl360, Ar360, qa360, Sa360, Na360, Ha360, Ga360⟩ := id V353
  have hin360 : ¬ ((1 : Int32) < 0 ∨ cl360.slots.size ≤ ((1 : Int32)).toNatClampNeg) := inb_of Sa360 ⟨by decide, by decide⟩
  obtain ⟨T360, h360, X360, e360, W360, st360⟩ := stJ X358 hx hZ e358 Ar360 (j := (1 : Int32)) hin360 (g := (mkF m 133 #[oA a, oI bits, oI (1 : Int32), oI bs, oI (4 : Int32), oJ (own_sg x1), oS, oA b333, oI (0 : Int32), oJ x0, oS, oJ (0 : Int64), oS] [(.long (own_s2 x0 (0 : Int64) bs)), (.int (1 : Int32)), (.ref b333)])) rfl rfl (hb hby d11_133)
  refine up ?_ st360
  have E_a_c361 := E_a_c354.wr W360
  have Fw_c361 := Fw_c354.other W360 (Or.inl ne334)
  have Fl_c361 := Fl_c354.other W360 (Or.inl ne334)
  have Fp_c361 := Fp_c354.other W360 (Or.inl ne334)
  have V_c361 := V_c354.other W360 ne335
  have V360 : Arv Z h360 b333 k333 .long (4 : Int32) [(.long (0 : Int64)), (.long (own_s2 x0 (0 : Int64) bs)), (.long (own_s2 x1 x0 bs)), (.long (own_s2 (own_sg x1) x1 bs))] (.long (0 : Int64)) := Arv.set Ar360 qa360 Sa360 Na360 Ha360 Ga360 rfl W360 1 rfl (Nat.le_of_ble_eq_true rfl)
  have N360 := Fr.snoc X360 N353 ge336
  have kq362 := Nat.le_trans kq355 (Keep.of_wr W360).1
  have Zs363 : n0 ≤ h360.size := Nat.le_trans Zs356 (Keep.of_wr W360).1
  show own_G (T360.setTop (mkF m 134 #[oA a, oI bits, oI (1 : Int32), oI bs, oI (4 : Int32), oJ (own_sg x1), oS, oA b333, oI (0 : Int32), oJ x0, oS, oJ (0 : Int64), oS] []))
  refine up ?_ fun t k => XS.iinc X360.here hx rfl (hb hby d11_134) rfl (l' := #[oA a, oI bits, oI (1 : Int32), oI bs, oI (4 : Int32), oJ (own_sg x1), oS, oA b333, oI (-1 : Int32), oJ x0, oS, oJ (0 : Int64), oS]) rfl (XS.goto X360.here hx rfl (pc0 := 137) (pc' := 65) rfl (hb hby d11_137) (by decide) (by decide) (XS.iload X360.here hx rfl (hb hby d11_65) rfl k))
  show own_G (T360.setTop (mkF m 67 #[oA a, oI bits, oI (1 : Int32), oI bs, oI (4 : Int32), oJ (own_sg x1), oS, oA b333, oI (-1 : Int32), oJ x0, oS, oJ (0 : Int64), oS] [(.int (-1 : Int32))]))
  refine up ?_ fun t k => XS.ifYes X360.here hx rfl (pc0 := 67) (pc' := 140) rfl (hb hby d11_67) rfl ((if0 _ _).trans (tlt (by decide : ((-1 : Int32) < (0 : Int32)))).1) (by decide) (by decide) (XS.aload X360.here hx rfl (hb hby d11_140) rfl rfl (XS.iconst X360.here hx rfl (hb hby d11_142) (XS.iloadN X360.here hx rfl (hb hby d11_143) rfl (XS.lconst X360.here hx rfl (hb hby d11_144) k))))
  show own_G (T360.setTop (mkF m 145 #[oA a, oI bits, oI (1 : Int32), oI bs, oI (4 : Int32), oJ (own_sg x1), oS, oA b333, oI (-1 : Int32), oJ x0, oS, oJ (0 : Int64), oS] [(.long (0 : Int64)), (.int (1 : Int32)), (.int (0 : Int32)), (.ref b333)]))
  obtain ⟨_, _, ⟨T364, L364, k364, n364⟩, -, X364, ⟨Lc364, hQ364, l364, y364, z364⟩, st364⟩ := Jvm.LawKit.callS X360 hx (y := (⟨"java/util/Arrays", "fill", "([JIIJ)V"⟩ : MethodName)) hown (mvT hZ (hw _ (own_m 63 rfl))) (mvT hZ (hw _ (own_m 64 rfl))) (mvT hZ (hw _ (own_m 30 rfl))) (mvT hZ (hw _ (own_m 65 rfl))) (by decide) (backOf (W := 0) (rmf1 l Z a0 hw [] b333 k333 (0 : Int64) (own_s2 x0 (0 : Int64) bs) (own_s2 x1 x0 bs) (own_s2 (own_sg x1) x1 bs) h360 n0 Zs363 V360 ge336) hZ (hw _ (own_m 65 rfl)) (hw _ (own_m 30 rfl)) (by decide) (by decide)) (g := (mkF m 145 #[oA a, oI bits, oI (1 : Int32), oI bs, oI (4 : Int32), oJ (own_sg x1), oS, oA b333, oI (-1 : Int32), oJ x0, oS, oJ (0 : Int64), oS] [(.long (0 : Int64)), (.int (1 : Int32)), (.int (0 : Int32)), (.ref b333)])) rfl (by rw [hml]; rfl) (argsL := [(.ref b333), (.int (0 : Int32)), (.int (1 : Int32)), (.long (0 : Int64))]) (rest := []) (lenOf own_pd4 rfl) rfl (by show 2 * 0 + _ ≤ _; exact Nat.le_of_eq rfl) (hb hby d11_145) (fun _ _ => ⟨rfl, e360, (by decide : 1 + 0 ≤ _), (by decide : 4 + 0 ≤ _)⟩)
  dsimp only [Pt.U, Pt.locs, Pt.cells, Pt.slots] at X364 l364 y364 z364 st364 hQ364
  subst l364 y364 z364
  obtain ⟨rfl, Nq364, Kq364, Vq364⟩ := hQ364
  have N364 := Fr.app N360 Nq364
  have E_a_c365 := E_a_c361.keep Kq364
  have Fw_c365 := Fw_c361.keep Kq364 (ninS ne334 nin0)
  have Fl_c365 := Fl_c361.keep Kq364 (ninS ne334 nin0)
  have Fp_c365 := Fp_c361.keep Kq364 (ninS ne334 nin0)
  have V_c365 := V_c361.keep Kq364 (ninS ne335 nin0)
  have kq366 := Nat.le_trans kq362 Kq364.1
  have Zs367 : n0 ≤ T364.heap.size := Nat.le_trans Zs363 Kq364.1
  refine up ?_ (st364)
  show own_G (T364.setTop (mkF m 148 #[oA a, oI bits, oI (1 : Int32), oI bs, oI (4 : Int32), oJ (own_sg x1), oS, oA b333, oI (-1 : Int32), oJ x0, oS, oJ (0 : Int64), oS] []))
  refine up ?_ fun t k => XS.aloadN X364.here hx rfl (hb hby d11_148) rfl rfl (XS.aload X364.here hx rfl (hb hby d11_149) rfl rfl k)
  show own_G (T364.setTop (mkF m 151 #[oA a, oI bits, oI (1 : Int32), oI bs, oI (4 : Int32), oJ (own_sg x1), oS, oA b333, oI (-1 : Int32), oJ x0, oS, oJ (0 : Int64), oS] [(.ref b333), (.ref a)]))
  obtain ⟨T368, h368, X368, e368, W368, st368⟩ := putF X364 hx hZ hown (host := "") (Or.inl (hw _ (own_m 13 rfl))) Via.refl rfl Fw_c365 E_a_c365 (Or.inl (hw _ (own_m 14 rfl))) (hw _ (own_m 3 rfl)) (ty := (.array .long)) (by decide) rfl rfl (g := (mkF m 151 #[oA a, oI bits, oI (1 : Int32), oI bs, oI (4 : Int32), oJ (own_sg x1), oS, oA b333, oI (-1 : Int32), oJ x0, oS, oJ (0 : Int64), oS] [(.ref b333), (.ref a)])) rfl rfl (hb hby d11_151)
  refine up ?_ st368
  have E_a_c369 := E_a_c365.wr W368
  have Fl_c369 := Fl_c365.other W368 (Or.inr (slot_ne (Or.inl (hw _ (own_m 21 rfl))) (Or.inl (hw _ (own_m 14 rfl))) (by decide) (t := .int) (t' := (.array .long)) (by decide) (by decide)))
  have Fp_c369 := Fp_c365.other W368 (Or.inr (slot_ne (Or.inl (hw _ (own_m 23 rfl))) (Or.inl (hw _ (own_m 14 rfl))) (by decide) (t := .int) (t' := (.array .long)) (by decide) (by decide)))
  have Vq364_c369 := Vq364.other W368 (Ne.symm ne334)
  have F368 := Fw_c365.same W368
  have N368 := Fr.snoc X368 N364 g_a
  have kq370 := Nat.le_trans kq366 (Keep.of_wr W368).1
  have Zs371 : n0 ≤ h368.size := Nat.le_trans Zs367 (Keep.of_wr W368).1
  show own_G (T368.setTop (mkF m 154 #[oA a, oI bits, oI (1 : Int32), oI bs, oI (4 : Int32), oJ (own_sg x1), oS, oA b333, oI (-1 : Int32), oJ x0, oS, oJ (0 : Int64), oS] []))
  refine up ?_ fun t k => XS.aloadN X368.here hx rfl (hb hby d11_154) rfl rfl (XS.iload X368.here hx rfl (hb hby d11_155) rfl k)
  show own_G (T368.setTop (mkF m 157 #[oA a, oI bits, oI (1 : Int32), oI bs, oI (4 : Int32), oJ (own_sg x1), oS, oA b333, oI (-1 : Int32), oJ x0, oS, oJ (0 : Int64), oS] [(.int (4 : Int32)), (.ref a)]))
  obtain ⟨T372, h372, X372, e372, W372, st372⟩ := putF X368 hx hZ hown (host := "") (Or.inl (hw _ (own_m 20 rfl))) Via.refl e368 Fl_c369 E_a_c369 (Or.inl (hw _ (own_m 21 rfl))) (hw _ (own_m 3 rfl)) (ty := .int) (by decide) rfl rfl (g := (mkF m 157 #[oA a, oI bits, oI (1 : Int32), oI bs, oI (4 : Int32), oJ (own_sg x1), oS, oA b333, oI (-1 : Int32), oJ x0, oS, oJ (0 : Int64), oS] [(.int (4 : Int32)), (.ref a)])) rfl rfl (hb hby d11_157)
  refine up ?_ st372
  have E_a_c373 := E_a_c369.wr W372
  have F368_c373 := F368.other W372 (Or.inr (slot_ne (Or.inl (hw _ (own_m 14 rfl))) (Or.inl (hw _ (own_m 21 rfl))) (by decide) (t := (.array .long)) (t' := .int) (by decide) (by decide)))
  have Fp_c373 := Fp_c369.other W372 (Or.inr (slot_ne (Or.inl (hw _ (own_m 23 rfl))) (Or.inl (hw _ (own_m 21 rfl))) (by decide) (t := .int) (t' := .int) (by decide) (by decide)))
  have Vq364_c373 := Vq364_c369.other W372 (Ne.symm ne334)
  have F372 := Fl_c369.same W372
  have N372 := Fr.snoc X372 N368 g_a
  have kq374 := Nat.le_trans kq370 (Keep.of_wr W372).1
  have Zs375 : n0 ≤ h372.size := Nat.le_trans Zs371 (Keep.of_wr W372).1
  show own_G (T372.setTop (mkF m 160 #[oA a, oI bits, oI (1 : Int32), oI bs, oI (4 : Int32), oJ (own_sg x1), oS, oA b333, oI (-1 : Int32), oJ x0, oS, oJ (0 : Int64), oS] []))
  exact own_retV X372 hx hlk hret (hb hby d11_160) (by rw [e372]; exact ⟨rfl, N372, kq374, b333, k333, ge336, ⟨E_a_c373, F368_c373, F372, Fp_c373, Vq364_c373⟩⟩) (by decide) (by decide)
def own_Q_rmsC4 (Z : State) (a : Addr) (bits : Int32) (r : Addr) (kr : ClassId) (pw : Int32) (x0 : Int64) (x1 : Int64) (x2 : Int64) (x3 : Int64) (bs : Int32) (h0 : Heap) (n0 : Nat) (v : Option Value) (h : Heap) (L : List Loc) : Prop := v = none ∧ Fr n0 L ∧ h0.size ≤ h.size ∧ own_O Z h a r kr (4 : Int32) (4 : Int32) pw [(.long (0 : Int64)), (.long (own_s2 x0 (0 : Int64) bs)), (.long (own_s2 x1 x0 bs)), (.long (own_s2 (own_sg x1) x1 bs))]
theorem rmsC4 (l : Launch) (Z : State) (a0 : Array Value) (hw : own_W Z a0) (ws : List Jvm.Cond) (a : Addr) (bits : Int32) (r : Addr) (kr : ClassId) (pw : Int32) (x0 : Int64) (x1 : Int64) (x2 : Int64) (x3 : Int64) (bs : Int32) (h0 : Heap) (n0 : Nat) (Z0 : n0 ≤ h0.size) (O0 : own_O Z h0 a r kr (4 : Int32) (2 : Int32) pw [(.long x0), (.long x1), (.long x2), (.long x3)]) (g_a : n0 ≤ a) (g_r : n0 ≤ r) (hws : ((bits.toUInt32 >>> ((6 : Int32) &&& 31).toUInt32).toInt32) = (1 : Int32)) (hbs : (bits &&& (63 : Int32)) = bs) :
    own_M l Z (⟨"com/example/eventweir/eventweir/ExactSum", "shiftUp", "(I)V"⟩ : MethodName) prog_78_method_13_code 13 none ws ({ frames := 2, cells := 0, slots := 0, locals := 31 } : Room) #[(.ref a), (.int bits)] h0 (own_Q_rmsC4 Z a bits r kr pw x0 x1 x2 x3 bs h0 n0) := by
  refine own_body (plainFor_of_name own_pn0) ?_
  intro p e s m below meth c s₁ hx hZ hby hml hown hnm hlk hret X0 e0
  have N0 := Fr.nil n0
  obtain ⟨E_a, Fw, Fl, Fp, V⟩ := O0
  have ne_ar : a ≠ r := E_a.neArv V (hw _ (own_m 3 rfl))
  refine up (U' := s₁.setTop (mkF m 0 #[oA a, oI bits, oU, oU, oU, oU, oU, oU, oU, oU, oU, oU, oU] [])) ?_ (fun t k => castTop (own_ef_rmsA m a bits) k)
  refine up ?_ fun t k => XS.iloadN X0.here hx rfl (hb hby d11_0) rfl (XS.bipush X0.here hx rfl (hb hby d11_1) (XS.iushr X0.here hx rfl (hb hby d11_3) rfl (XS.istoreN X0.here hx rfl (hb hby d11_4) rfl (l' := #[oA a, oI bits, oI ((bits.toUInt32 >>> ((6 : Int32) &&& 31).toUInt32).toInt32), oU, oU, oU, oU, oU, oU, oU, oU, oU, oU]) rfl k)))
  show own_G (s₁.setTop (mkF m 5 #[oA a, oI bits, oI ((bits.toUInt32 >>> ((6 : Int32) &&& 31).toUInt32).toInt32), oU, oU, oU, oU, oU, oU, oU, oU, oU, oU] []))
  rw [hws]
  show own_G (s₁.setTop (mkF m 5 #[oA a, oI bits, oI (1 : Int32), oU, oU, oU, oU, oU, oU, oU, oU, oU, oU] []))
  refine up ?_ fun t k => XS.iloadN X0.here hx rfl (hb hby d11_5) rfl (XS.bipush X0.here hx rfl (hb hby d11_6) (XS.iand X0.here hx rfl (hb hby d11_8) rfl (XS.istoreN X0.here hx rfl (hb hby d11_9) rfl (l' := #[oA a, oI bits, oI (1 : Int32), oI (bits &&& (63 : Int32)), oU, oU, oU, oU, oU, oU, oU, oU, oU]) rfl k)))
  show own_G (s₁.setTop (mkF m 10 #[oA a, oI bits, oI (1 : Int32), oI (bits &&& (63 : Int32)), oU, oU, oU, oU, oU, oU, oU, oU, oU] []))
  rw [hbs]
  show own_G (s₁.setTop (mkF m 10 #[oA a, oI bits, oI (1 : Int32), oI bs, oU, oU, oU, oU, oU, oU, oU, oU, oU] []))
  refine up ?_ fun t k => XS.aloadN X0.here hx rfl (hb hby d11_10) rfl rfl k
  show own_G (s₁.setTop (mkF m 11 #[oA a, oI bits, oI (1 : Int32), oI bs, oU, oU, oU, oU, oU, oU, oU, oU, oU] [(.ref a)]))
  obtain ⟨T376, X376, e376, st376⟩ := getF X0 hx hZ hown (host := "") (Or.inl (hw _ (own_m 20 rfl))) Via.refl e0 Fl (g := (mkF m 11 #[oA a, oI bits, oI (1 : Int32), oI bs, oU, oU, oU, oU, oU, oU, oU, oU, oU] [(.ref a)])) rfl rfl (hb hby d11_11)
  refine up ?_ st376
  show own_G (T376.setTop (mkF m 14 #[oA a, oI bits, oI (1 : Int32), oI bs, oU, oU, oU, oU, oU, oU, oU, oU, oU] [(.int (2 : Int32))]))
  refine up ?_ fun t k => XS.iloadN X376.here hx rfl (hb hby d11_14) rfl (XS.iadd X376.here hx rfl (hb hby d11_15) rfl (XS.iconst X376.here hx rfl (hb hby d11_16) (XS.iadd X376.here hx rfl (hb hby d11_17) rfl (XS.istore X376.here hx rfl (hb hby d11_18) rfl (l' := #[oA a, oI bits, oI (1 : Int32), oI bs, oI (4 : Int32), oU, oU, oU, oU, oU, oU, oU, oU]) rfl (XS.aloadN X376.here hx rfl (hb hby d11_20) rfl rfl k)))))
  show own_G (T376.setTop (mkF m 21 #[oA a, oI bits, oI (1 : Int32), oI bs, oI (4 : Int32), oU, oU, oU, oU, oU, oU, oU, oU] [(.ref a)]))
  obtain ⟨T377, X377, e377, st377⟩ := getF X376 hx hZ hown (host := "") (Or.inl (hw _ (own_m 13 rfl))) Via.refl e376 Fw (g := (mkF m 21 #[oA a, oI bits, oI (1 : Int32), oI bs, oI (4 : Int32), oU, oU, oU, oU, oU, oU, oU, oU] [(.ref a)])) rfl rfl (hb hby d11_21)
  refine up ?_ st377
  show own_G (T377.setTop (mkF m 24 #[oA a, oI bits, oI (1 : Int32), oI bs, oI (4 : Int32), oU, oU, oU, oU, oU, oU, oU, oU] [(.ref r)]))
  refine up ?_ fun t k => XS.aloadN X377.here hx rfl (hb hby d11_24) rfl rfl k
  show own_G (T377.setTop (mkF m 25 #[oA a, oI bits, oI (1 : Int32), oI bs, oI (4 : Int32), oU, oU, oU, oU, oU, oU, oU, oU] [(.ref a), (.ref r)]))
  obtain ⟨T378, X378, e378, st378⟩ := getF X377 hx hZ hown (host := "") (Or.inl (hw _ (own_m 20 rfl))) Via.refl e377 Fl (g := (mkF m 25 #[oA a, oI bits, oI (1 : Int32), oI bs, oI (4 : Int32), oU, oU, oU, oU, oU, oU, oU, oU] [(.ref a), (.ref r)])) rfl rfl (hb hby d11_25)
  refine up ?_ st378
  show own_G (T378.setTop (mkF m 28 #[oA a, oI bits, oI (1 : Int32), oI bs, oI (4 : Int32), oU, oU, oU, oU, oU, oU, oU, oU] [(.int (2 : Int32)), (.ref r)]))
  refine up ?_ fun t k => XS.iconst X378.here hx rfl (hb hby d11_28) (XS.isub X378.here hx rfl (hb hby d11_29) rfl k)
  show own_G (T378.setTop (mkF m 30 #[oA a, oI bits, oI (1 : Int32), oI bs, oI (4 : Int32), oU, oU, oU, oU, oU, oU, oU, oU] [(.int (1 : Int32)), (.ref r)]))
  obtain ⟨cl379, Ar379, qa379, Sa379, Na379, Ha379, Ga379⟩ := id V
  have hin379 : ¬ ((1 : Int32) < 0 ∨ cl379.slots.size ≤ ((1 : Int32)).toNatClampNeg) := inb_of Sa379 ⟨by decide, by decide⟩
  refine up ?_ fun t k => X378.laload hx (j := (1 : Int32)) (v := (.long x1)) (by rw [e378]; exact Ar379.1) (State.isArrayOf_alike hZ.alike Ar379.2.1) Ar379.2.2 hin379 (Ha379.at hin379 rfl) (g := (mkF m 30 #[oA a, oI bits, oI (1 : Int32), oI bs, oI (4 : Int32), oU, oU, oU, oU, oU, oU, oU, oU] [(.int (1 : Int32)), (.ref r)])) rfl rfl (hb hby d11_30) _ (XS.bipush X378.here hx rfl (hb hby d11_31) (XS.lshr X378.here hx rfl (hb hby d11_33) rfl k))
  show own_G (T378.setTop (mkF m 34 #[oA a, oI bits, oI (1 : Int32), oI bs, oI (4 : Int32), oU, oU, oU, oU, oU, oU, oU, oU] [(.long (x1 >>> ((63 : Int32) &&& 0x3f).toInt64))]))
  show own_G (T378.setTop (mkF m 34 #[oA a, oI bits, oI (1 : Int32), oI bs, oI (4 : Int32), oU, oU, oU, oU, oU, oU, oU, oU] [(.long (own_sg x1))]))
  refine up ?_ fun t k => XS.lstore X378.here hx rfl (hb hby d11_34) rfl (l' := #[oA a, oI bits, oI (1 : Int32), oI bs, oI (4 : Int32), oJ (own_sg x1), oS, oU, oU, oU, oU, oU, oU]) rfl (XS.aloadN X378.here hx rfl (hb hby d11_36) rfl rfl k)
  show own_G (T378.setTop (mkF m 37 #[oA a, oI bits, oI (1 : Int32), oI bs, oI (4 : Int32), oJ (own_sg x1), oS, oU, oU, oU, oU, oU, oU] [(.ref a)]))
  obtain ⟨T380, X380, e380, st380⟩ := getF X378 hx hZ hown (host := "") (Or.inl (hw _ (own_m 13 rfl))) Via.refl e378 Fw (g := (mkF m 37 #[oA a, oI bits, oI (1 : Int32), oI bs, oI (4 : Int32), oJ (own_sg x1), oS, oU, oU, oU, oU, oU, oU] [(.ref a)])) rfl rfl (hb hby d11_37)
  refine up ?_ st380
  show own_G (T380.setTop (mkF m 40 #[oA a, oI bits, oI (1 : Int32), oI bs, oI (4 : Int32), oJ (own_sg x1), oS, oU, oU, oU, oU, oU, oU] [(.ref r)]))
  obtain ⟨cl381, Ar381, qa381, Sa381, Na381, Ha381, Ga381⟩ := id V
  refine up ?_ fun t k => X380.arraylength hx (by rw [e380]; exact Ar381.1) (State.isArrayOf_alike hZ.alike Ar381.2.1) (g := (mkF m 40 #[oA a, oI bits, oI (1 : Int32), oI bs, oI (4 : Int32), oJ (own_sg x1), oS, oU, oU, oU, oU, oU, oU] [(.ref r)])) rfl rfl (hb hby d11_40) _ k
  rw [len_of Sa381 Na381]
  show own_G (T380.setTop (mkF m 41 #[oA a, oI bits, oI (1 : Int32), oI bs, oI (4 : Int32), oJ (own_sg x1), oS, oU, oU, oU, oU, oU, oU] [(.int (4 : Int32))]))
  refine up ?_ fun t k => XS.iload X380.here hx rfl (hb hby d11_41) rfl k
  show own_G (T380.setTop (mkF m 43 #[oA a, oI bits, oI (1 : Int32), oI bs, oI (4 : Int32), oJ (own_sg x1), oS, oU, oU, oU, oU, oU, oU] [(.int (4 : Int32)), (.int (4 : Int32))]))
  refine up ?_ fun t k => XS.icmpYes X380.here hx rfl (pc0 := 43) (pc' := 53) rfl (hb hby d11_43) rfl (flt (by decide : ¬ ((4 : Int32) < (4 : Int32)))).2.1 (by decide) (by decide) (XS.aloadN X380.here hx rfl (hb hby d11_53) rfl rfl k)
  show own_G (T380.setTop (mkF m 54 #[oA a, oI bits, oI (1 : Int32), oI bs, oI (4 : Int32), oJ (own_sg x1), oS, oU, oU, oU, oU, oU, oU] [(.ref a)]))
  obtain ⟨T382, X382, e382, st382⟩ := getF X380 hx hZ hown (host := "") (Or.inl (hw _ (own_m 13 rfl))) Via.refl e380 Fw (g := (mkF m 54 #[oA a, oI bits, oI (1 : Int32), oI bs, oI (4 : Int32), oJ (own_sg x1), oS, oU, oU, oU, oU, oU, oU] [(.ref a)])) rfl rfl (hb hby d11_54)
  refine up ?_ st382
  show own_G (T382.setTop (mkF m 57 #[oA a, oI bits, oI (1 : Int32), oI bs, oI (4 : Int32), oJ (own_sg x1), oS, oU, oU, oU, oU, oU, oU] [(.ref r)]))
  refine up ?_ fun t k => XS.astore X382.here hx rfl (hb hby d11_57) rfl rfl (l' := #[oA a, oI bits, oI (1 : Int32), oI bs, oI (4 : Int32), oJ (own_sg x1), oS, oA r, oU, oU, oU, oU, oU]) rfl (XS.aloadN X382.here hx rfl (hb hby d11_59) rfl rfl k)
  show own_G (T382.setTop (mkF m 60 #[oA a, oI bits, oI (1 : Int32), oI bs, oI (4 : Int32), oJ (own_sg x1), oS, oA r, oU, oU, oU, oU, oU] [(.ref a)]))
  obtain ⟨T383, X383, e383, st383⟩ := getF X382 hx hZ hown (host := "") (Or.inl (hw _ (own_m 20 rfl))) Via.refl e382 Fl (g := (mkF m 60 #[oA a, oI bits, oI (1 : Int32), oI bs, oI (4 : Int32), oJ (own_sg x1), oS, oA r, oU, oU, oU, oU, oU] [(.ref a)])) rfl rfl (hb hby d11_60)
  refine up ?_ st383
  show own_G (T383.setTop (mkF m 63 #[oA a, oI bits, oI (1 : Int32), oI bs, oI (4 : Int32), oJ (own_sg x1), oS, oA r, oU, oU, oU, oU, oU] [(.int (2 : Int32))]))
  refine up ?_ fun t k => XS.istore X383.here hx rfl (hb hby d11_63) rfl (l' := #[oA a, oI bits, oI (1 : Int32), oI bs, oI (4 : Int32), oJ (own_sg x1), oS, oA r, oI (2 : Int32), oU, oU, oU, oU]) rfl (XS.iload X383.here hx rfl (hb hby d11_65) rfl k)
  show own_G (T383.setTop (mkF m 67 #[oA a, oI bits, oI (1 : Int32), oI bs, oI (4 : Int32), oJ (own_sg x1), oS, oA r, oI (2 : Int32), oU, oU, oU, oU] [(.int (2 : Int32))]))
  refine up ?_ fun t k => XS.ifNo X383.here hx rfl (hb hby d11_67) rfl ((if0 _ _).trans (flt (by decide : ¬ ((2 : Int32) < (0 : Int32)))).1) (XS.iload X383.here hx rfl (hb hby d11_70) rfl (XS.aloadN X383.here hx rfl (hb hby d11_72) rfl rfl k))
  show own_G (T383.setTop (mkF m 73 #[oA a, oI bits, oI (1 : Int32), oI bs, oI (4 : Int32), oJ (own_sg x1), oS, oA r, oI (2 : Int32), oU, oU, oU, oU] [(.ref a), (.int (2 : Int32))]))
  obtain ⟨T384, X384, e384, st384⟩ := getF X383 hx hZ hown (host := "") (Or.inl (hw _ (own_m 20 rfl))) Via.refl e383 Fl (g := (mkF m 73 #[oA a, oI bits, oI (1 : Int32), oI bs, oI (4 : Int32), oJ (own_sg x1), oS, oA r, oI (2 : Int32), oU, oU, oU, oU] [(.ref a), (.int (2 : Int32))])) rfl rfl (hb hby d11_73)
  refine up ?_ st384
  show own_G (T384.setTop (mkF m 76 #[oA a, oI bits, oI (1 : Int32), oI bs, oI (4 : Int32), oJ (own_sg x1), oS, oA r, oI (2 : Int32), oU, oU, oU, oU] [(.int (2 : Int32)), (.int (2 : Int32))]))
  refine up ?_ fun t k => XS.icmpYes X384.here hx rfl (pc0 := 76) (pc' := 89) rfl (hb hby d11_76) rfl (flt (by decide : ¬ ((2 : Int32) < (2 : Int32)))).2.1 (by decide) (by decide) (XS.lload X384.here hx rfl (hb hby d11_89) rfl (XS.lstore X384.here hx rfl (hb hby d11_91) rfl (l' := #[oA a, oI bits, oI (1 : Int32), oI bs, oI (4 : Int32), oJ (own_sg x1), oS, oA r, oI (2 : Int32), oJ (own_sg x1), oS, oU, oU]) rfl (XS.iload X384.here hx rfl (hb hby d11_93) rfl k)))
  show own_G (T384.setTop (mkF m 95 #[oA a, oI bits, oI (1 : Int32), oI bs, oI (4 : Int32), oJ (own_sg x1), oS, oA r, oI (2 : Int32), oJ (own_sg x1), oS, oU, oU] [(.int (2 : Int32))]))
  refine up ?_ fun t k => XS.ifYes X384.here hx rfl (pc0 := 95) (pc' := 102) rfl (hb hby d11_95) rfl ((if0 _ _).trans (feq (by decide : ¬ ((2 : Int32) = (0 : Int32)))).2) (by decide) (by decide) (XS.aloadN X384.here hx rfl (hb hby d11_102) rfl rfl k)
  show own_G (T384.setTop (mkF m 103 #[oA a, oI bits, oI (1 : Int32), oI bs, oI (4 : Int32), oJ (own_sg x1), oS, oA r, oI (2 : Int32), oJ (own_sg x1), oS, oU, oU] [(.ref a)]))
  obtain ⟨T385, X385, e385, st385⟩ := getF X384 hx hZ hown (host := "") (Or.inl (hw _ (own_m 13 rfl))) Via.refl e384 Fw (g := (mkF m 103 #[oA a, oI bits, oI (1 : Int32), oI bs, oI (4 : Int32), oJ (own_sg x1), oS, oA r, oI (2 : Int32), oJ (own_sg x1), oS, oU, oU] [(.ref a)])) rfl rfl (hb hby d11_103)
  refine up ?_ st385
  show own_G (T385.setTop (mkF m 106 #[oA a, oI bits, oI (1 : Int32), oI bs, oI (4 : Int32), oJ (own_sg x1), oS, oA r, oI (2 : Int32), oJ (own_sg x1), oS, oU, oU] [(.ref r)]))
  refine up ?_ fun t k => XS.iload X385.here hx rfl (hb hby d11_106) rfl (XS.iconst X385.here hx rfl (hb hby d11_108) (XS.isub X385.here hx rfl (hb hby d11_109) rfl k))
  show own_G (T385.setTop (mkF m 110 #[oA a, oI bits, oI (1 : Int32), oI bs, oI (4 : Int32), oJ (own_sg x1), oS, oA r, oI (2 : Int32), oJ (own_sg x1), oS, oU, oU] [(.int (1 : Int32)), (.ref r)]))
  obtain ⟨cl386, Ar386, qa386, Sa386, Na386, Ha386, Ga386⟩ := id V
  have hin386 : ¬ ((1 : Int32) < 0 ∨ cl386.slots.size ≤ ((1 : Int32)).toNatClampNeg) := inb_of Sa386 ⟨by decide, by decide⟩
  refine up ?_ fun t k => X385.laload hx (j := (1 : Int32)) (v := (.long x1)) (by rw [e385]; exact Ar386.1) (State.isArrayOf_alike hZ.alike Ar386.2.1) Ar386.2.2 hin386 (Ha386.at hin386 rfl) (g := (mkF m 110 #[oA a, oI bits, oI (1 : Int32), oI bs, oI (4 : Int32), oJ (own_sg x1), oS, oA r, oI (2 : Int32), oJ (own_sg x1), oS, oU, oU] [(.int (1 : Int32)), (.ref r)])) rfl rfl (hb hby d11_110) _ (XS.lstore X385.here hx rfl (hb hby d11_111) rfl (l' := #[oA a, oI bits, oI (1 : Int32), oI bs, oI (4 : Int32), oJ (own_sg x1), oS, oA r, oI (2 : Int32), oJ (own_sg x1), oS, oJ x1, oS]) rfl (XS.aload X385.here hx rfl (hb hby d11_113) rfl rfl (XS.iload X385.here hx rfl (hb hby d11_115) rfl (XS.iloadN X385.here hx rfl (hb hby d11_117) rfl (XS.iadd X385.here hx rfl (hb hby d11_118) rfl (XS.lload X385.here hx rfl (hb hby d11_119) rfl (XS.iloadN X385.here hx rfl (hb hby d11_121) rfl (XS.lshl X385.here hx rfl (hb hby d11_122) rfl (XS.lload X385.here hx rfl (hb hby d11_123) rfl k)))))))))
  show own_G (T385.setTop (mkF m 125 #[oA a, oI bits, oI (1 : Int32), oI bs, oI (4 : Int32), oJ (own_sg x1), oS, oA r, oI (2 : Int32), oJ (own_sg x1), oS, oJ x1, oS] [(.long x1), (.long ((own_sg x1) <<< (bs &&& 0x3f).toInt64)), (.int (3 : Int32)), (.ref r)]))
  refine up ?_ fun t k => XS.iconst X385.here hx rfl (hb hby d11_125) (XS.lushr X385.here hx rfl (hb hby d11_126) rfl (XS.bipush X385.here hx rfl (hb hby d11_127) (XS.iloadN X385.here hx rfl (hb hby d11_129) rfl (XS.isub X385.here hx rfl (hb hby d11_130) rfl (XS.lushr X385.here hx rfl (hb hby d11_131) rfl (XS.lor X385.here hx rfl (hb hby d11_132) rfl k))))))
  show own_G (T385.setTop (mkF m 133 #[oA a, oI bits, oI (1 : Int32), oI bs, oI (4 : Int32), oJ (own_sg x1), oS, oA r, oI (2 : Int32), oJ (own_sg x1), oS, oJ x1, oS] [(.long (((own_sg x1) <<< (bs &&& 0x3f).toInt64) ||| ((((x1.toUInt64 >>> ((1 : Int32) &&& 0x3f).toInt64.toUInt64).toInt64).toUInt64 >>> (((63 : Int32) - bs) &&& 0x3f).toInt64.toUInt64).toInt64))), (.int (3 : Int32)), (.ref r)]))
  show own_G (T385.setTop (mkF m 133 #[oA a, oI bits, oI (1 : Int32), oI bs, oI (4 : Int32), oJ (own_sg x1), oS, oA r, oI (2 : Int32), oJ (own_sg x1), oS, oJ x1, oS] [(.long (own_s2 (own_sg x1) x1 bs)), (.int (3 : Int32)), (.ref r)]))
  obtain ⟨cl387, Ar387, qa387, Sa387, Na387, Ha387, Ga387⟩ := id V
  have hin387 : ¬ ((3 : Int32) < 0 ∨ cl387.slots.size ≤ ((3 : Int32)).toNatClampNeg) := inb_of Sa387 ⟨by decide, by decide⟩
  obtain ⟨T387, h387, X387, e387, W387, st387⟩ := stJ X385 hx hZ e385 Ar387 (j := (3 : Int32)) hin387 (g := (mkF m 133 #[oA a, oI bits, oI (1 : Int32), oI bs, oI (4 : Int32), oJ (own_sg x1), oS, oA r, oI (2 : Int32), oJ (own_sg x1), oS, oJ x1, oS] [(.long (own_s2 (own_sg x1) x1 bs)), (.int (3 : Int32)), (.ref r)])) rfl rfl (hb hby d11_133)
  refine up ?_ st387
  have E_a_c388 := E_a.wr W387
  have Fw_c388 := Fw.other W387 (Or.inl ne_ar)
  have Fl_c388 := Fl.other W387 (Or.inl ne_ar)
  have Fp_c388 := Fp.other W387 (Or.inl ne_ar)
  have V387 : Arv Z h387 r kr .long (4 : Int32) [(.long x0), (.long x1), (.long x2), (.long (own_s2 (own_sg x1) x1 bs))] (.long (0 : Int64)) := Arv.set Ar387 qa387 Sa387 Na387 Ha387 Ga387 rfl W387 3 rfl (Nat.le_of_ble_eq_true rfl)
  have N387 := Fr.snoc X387 N0 g_r
  have kq389 := Nat.le_trans (Nat.le_refl h0.size) (Keep.of_wr W387).1
  have Zs390 : n0 ≤ h387.size := Nat.le_trans Z0 (Keep.of_wr W387).1
  show own_G (T387.setTop (mkF m 134 #[oA a, oI bits, oI (1 : Int32), oI bs, oI (4 : Int32), oJ (own_sg x1), oS, oA r, oI (2 : Int32), oJ (own_sg x1), oS, oJ x1, oS] []))
  refine up ?_ fun t k => XS.iinc X387.here hx rfl (hb hby d11_134) rfl (l' := #[oA a, oI bits, oI (1 : Int32), oI bs, oI (4 : Int32), oJ (own_sg x1), oS, oA r, oI (1 : Int32), oJ (own_sg x1), oS, oJ x1, oS]) rfl (XS.goto X387.here hx rfl (pc0 := 137) (pc' := 65) rfl (hb hby d11_137) (by decide) (by decide) (XS.iload X387.here hx rfl (hb hby d11_65) rfl k))
  show own_G (T387.setTop (mkF m 67 #[oA a, oI bits, oI (1 : Int32), oI bs, oI (4 : Int32), oJ (own_sg x1), oS, oA r, oI (1 : Int32), oJ (own_sg x1), oS, oJ x1, oS] [(.int (1 : Int32))]))
  refine up ?_ fun t k => XS.ifNo X387.here hx rfl (hb hby d11_67) rfl ((if0 _ _).trans (flt (by decide : ¬ ((1 : Int32) < (0 : Int32)))).1) (XS.iload X387.here hx rfl (hb hby d11_70) rfl (XS.aloadN X387.here hx rfl (hb hby d11_72) rfl rfl k))
  show own_G (T387.setTop (mkF m 73 #[oA a, oI bits, oI (1 : Int32), oI bs, oI (4 : Int32), oJ (own_sg x1), oS, oA r, oI (1 : Int32), oJ (own_sg x1), oS, oJ x1, oS] [(.ref a), (.int (1 : Int32))]))
  obtain ⟨T391, X391, e391, st391⟩ := getF X387 hx hZ hown (host := "") (Or.inl (hw _ (own_m 20 rfl))) Via.refl e387 Fl_c388 (g := (mkF m 73 #[oA a, oI bits, oI (1 : Int32), oI bs, oI (4 : Int32), oJ (own_sg x1), oS, oA r, oI (1 : Int32), oJ (own_sg x1), oS, oJ x1, oS] [(.ref a), (.int (1 : Int32))])) rfl rfl (hb hby d11_73)
  refine up ?_ st391
  show own_G (T391.setTop (mkF m 76 #[oA a, oI bits, oI (1 : Int32), oI bs, oI (4 : Int32), oJ (own_sg x1), oS, oA r, oI (1 : Int32), oJ (own_sg x1), oS, oJ x1, oS] [(.int (2 : Int32)), (.int (1 : Int32))]))
  refine up ?_ fun t k => XS.icmpNo X391.here hx rfl (hb hby d11_76) rfl (tlt (by decide : ((1 : Int32) < (2 : Int32)))).2.1 (XS.aloadN X391.here hx rfl (hb hby d11_79) rfl rfl k)
  show own_G (T391.setTop (mkF m 80 #[oA a, oI bits, oI (1 : Int32), oI bs, oI (4 : Int32), oJ (own_sg x1), oS, oA r, oI (1 : Int32), oJ (own_sg x1), oS, oJ x1, oS] [(.ref a)]))
  obtain ⟨T392, X392, e392, st392⟩ := getF X391 hx hZ hown (host := "") (Or.inl (hw _ (own_m 13 rfl))) Via.refl e391 Fw_c388 (g := (mkF m 80 #[oA a, oI bits, oI (1 : Int32), oI bs, oI (4 : Int32), oJ (own_sg x1), oS, oA r, oI (1 : Int32), oJ (own_sg x1), oS, oJ x1, oS] [(.ref a)])) rfl rfl (hb hby d11_80)
  refine up ?_ st392
  show own_G (T392.setTop (mkF m 83 #[oA a, oI bits, oI (1 : Int32), oI bs, oI (4 : Int32), oJ (own_sg x1), oS, oA r, oI (1 : Int32), oJ (own_sg x1), oS, oJ x1, oS] [(.ref r)]))
  refine up ?_ fun t k => XS.iload X392.here hx rfl (hb hby d11_83) rfl k
  show own_G (T392.setTop (mkF m 85 #[oA a, oI bits, oI (1 : Int32), oI bs, oI (4 : Int32), oJ (own_sg x1), oS, oA r, oI (1 : Int32), oJ (own_sg x1), oS, oJ x1, oS] [(.int (1 : Int32)), (.ref r)]))
  obtain ⟨cl393, Ar393, qa393, Sa393, Na393, Ha393, Ga393⟩ := id V387
  have hin393 : ¬ ((1 : Int32) < 0 ∨ cl393.slots.size ≤ ((1 : Int32)).toNatClampNeg) := inb_of Sa393 ⟨by decide, by decide⟩
  refine up ?_ fun t k => X392.laload hx (j := (1 : Int32)) (v := (.long x1)) (by rw [e392]; exact Ar393.1) (State.isArrayOf_alike hZ.alike Ar393.2.1) Ar393.2.2 hin393 (Ha393.at hin393 rfl) (g := (mkF m 85 #[oA a, oI bits, oI (1 : Int32), oI bs, oI (4 : Int32), oJ (own_sg x1), oS, oA r, oI (1 : Int32), oJ (own_sg x1), oS, oJ x1, oS] [(.int (1 : Int32)), (.ref r)])) rfl rfl (hb hby d11_85) _ (XS.goto X392.here hx rfl (pc0 := 86) (pc' := 91) rfl (hb hby d11_86) (by decide) (by decide) (XS.lstore X392.here hx rfl (hb hby d11_91) rfl (l' := #[oA a, oI bits, oI (1 : Int32), oI bs, oI (4 : Int32), oJ (own_sg x1), oS, oA r, oI (1 : Int32), oJ x1, oS, oJ x1, oS]) rfl (XS.iload X392.here hx rfl (hb hby d11_93) rfl k)))
  show own_G (T392.setTop (mkF m 95 #[oA a, oI bits, oI (1 : Int32), oI bs, oI (4 : Int32), oJ (own_sg x1), oS, oA r, oI (1 : Int32), oJ x1, oS, oJ x1, oS] [(.int (1 : Int32))]))
  refine up ?_ fun t k => XS.ifYes X392.here hx rfl (pc0 := 95) (pc' := 102) rfl (hb hby d11_95) rfl ((if0 _ _).trans (feq (by decide : ¬ ((1 : Int32) = (0 : Int32)))).2) (by decide) (by decide) (XS.aloadN X392.here hx rfl (hb hby d11_102) rfl rfl k)
  show own_G (T392.setTop (mkF m 103 #[oA a, oI bits, oI (1 : Int32), oI bs, oI (4 : Int32), oJ (own_sg x1), oS, oA r, oI (1 : Int32), oJ x1, oS, oJ x1, oS] [(.ref a)]))
  obtain ⟨T394, X394, e394, st394⟩ := getF X392 hx hZ hown (host := "") (Or.inl (hw _ (own_m 13 rfl))) Via.refl e392 Fw_c388 (g := (mkF m 103 #[oA a, oI bits, oI (1 : Int32), oI bs, oI (4 : Int32), oJ (own_sg x1), oS, oA r, oI (1 : Int32), oJ x1, oS, oJ x1, oS] [(.ref a)])) rfl rfl (hb hby d11_103)
  refine up ?_ st394
  show own_G (T394.setTop (mkF m 106 #[oA a, oI bits, oI (1 : Int32), oI bs, oI (4 : Int32), oJ (own_sg x1), oS, oA r, oI (1 : Int32), oJ x1, oS, oJ x1, oS] [(.ref r)]))
  refine up ?_ fun t k => XS.iload X394.here hx rfl (hb hby d11_106) rfl (XS.iconst X394.here hx rfl (hb hby d11_108) (XS.isub X394.here hx rfl (hb hby d11_109) rfl k))
  show own_G (T394.setTop (mkF m 110 #[oA a, oI bits, oI (1 : Int32), oI bs, oI (4 : Int32), oJ (own_sg x1), oS, oA r, oI (1 : Int32), oJ x1, oS, oJ x1, oS] [(.int (0 : Int32)), (.ref r)]))
  obtain ⟨cl395, Ar395, qa395, Sa395, Na395, Ha395, Ga395⟩ := id V387
  have hin395 : ¬ ((0 : Int32) < 0 ∨ cl395.slots.size ≤ ((0 : Int32)).toNatClampNeg) := inb_of Sa395 ⟨by decide, by decide⟩
  refine up ?_ fun t k => X394.laload hx (j := (0 : Int32)) (v := (.long x0)) (by rw [e394]; exact Ar395.1) (State.isArrayOf_alike hZ.alike Ar395.2.1) Ar395.2.2 hin395 (Ha395.at hin395 rfl) (g := (mkF m 110 #[oA a, oI bits, oI (1 : Int32), oI bs, oI (4 : Int32), oJ (own_sg x1), oS, oA r, oI (1 : Int32), oJ x1, oS, oJ x1, oS] [(.int (0 : Int32)), (.ref r)])) rfl rfl (hb hby d11_110) _ (XS.lstore X394.here hx rfl (hb hby d11_111) rfl (l' := #[oA a, oI bits, oI (1 : Int32), oI bs, oI (4 : Int32), oJ (own_sg x1), oS, oA r, oI (1 : Int32), oJ x1, oS, oJ x0, oS]) rfl (XS.aload X394.here hx rfl (hb hby d11_113) rfl rfl (XS.iload X394.here hx rfl (hb hby d11_115) rfl (XS.iloadN X394.here hx rfl (hb hby d11_117) rfl (XS.iadd X394.here hx rfl (hb hby d11_118) rfl (XS.lload X394.here hx rfl (hb hby d11_119) rfl (XS.iloadN X394.here hx rfl (hb hby d11_121) rfl (XS.lshl X394.here hx rfl (hb hby d11_122) rfl (XS.lload X394.here hx rfl (hb hby d11_123) rfl k)))))))))
  show own_G (T394.setTop (mkF m 125 #[oA a, oI bits, oI (1 : Int32), oI bs, oI (4 : Int32), oJ (own_sg x1), oS, oA r, oI (1 : Int32), oJ x1, oS, oJ x0, oS] [(.long x0), (.long (x1 <<< (bs &&& 0x3f).toInt64)), (.int (2 : Int32)), (.ref r)]))
  refine up ?_ fun t k => XS.iconst X394.here hx rfl (hb hby d11_125) (XS.lushr X394.here hx rfl (hb hby d11_126) rfl (XS.bipush X394.here hx rfl (hb hby d11_127) (XS.iloadN X394.here hx rfl (hb hby d11_129) rfl (XS.isub X394.here hx rfl (hb hby d11_130) rfl (XS.lushr X394.here hx rfl (hb hby d11_131) rfl (XS.lor X394.here hx rfl (hb hby d11_132) rfl k))))))
  show own_G (T394.setTop (mkF m 133 #[oA a, oI bits, oI (1 : Int32), oI bs, oI (4 : Int32), oJ (own_sg x1), oS, oA r, oI (1 : Int32), oJ x1, oS, oJ x0, oS] [(.long ((x1 <<< (bs &&& 0x3f).toInt64) ||| ((((x0.toUInt64 >>> ((1 : Int32) &&& 0x3f).toInt64.toUInt64).toInt64).toUInt64 >>> (((63 : Int32) - bs) &&& 0x3f).toInt64.toUInt64).toInt64))), (.int (2 : Int32)), (.ref r)]))
  show own_G (T394.setTop (mkF m 133 #[oA a, oI bits, oI (1 : Int32), oI bs, oI (4 : Int32), oJ (own_sg x1), oS, oA r, oI (1 : Int32), oJ x1, oS, oJ x0, oS] [(.long (own_s2 x1 x0 bs)), (.int (2 : Int32)), (.ref r)]))
  obtain ⟨cl396, Ar396, qa396, Sa396, Na396, Ha396, Ga396⟩ := id V387
  have hin396 : ¬ ((2 : Int32) < 0 ∨ cl396.slots.size ≤ ((2 : Int32)).toNatClampNeg) := inb_of Sa396 ⟨by decide, by decide⟩
  obtain ⟨T396, h396, X396, e396, W396, st396⟩ := stJ X394 hx hZ e394 Ar396 (j := (2 : Int32)) hin396 (g := (mkF m 133 #[oA a, oI bits, oI (1 : Int32), oI bs, oI (4 : Int32), oJ (own_sg x1), oS, oA r, oI (1 : Int32), oJ x1, oS, oJ x0, oS] [(.long (own_s2 x1 x0 bs)), (.int (2 : Int32)), (.ref r)])) rfl rfl (hb hby d11_133)
  refine up ?_ st396
  have E_a_c397 := E_a_c388.wr W396
  have Fw_c397 := Fw_c388.other W396 (Or.inl ne_ar)
  have Fl_c397 := Fl_c388.other W396 (Or.inl ne_ar)
  have Fp_c397 := Fp_c388.other W396 (Or.inl ne_ar)
  have V396 : Arv Z h396 r kr .long (4 : Int32) [(.long x0), (.long x1), (.long (own_s2 x1 x0 bs)), (.long (own_s2 (own_sg x1) x1 bs))] (.long (0 : Int64)) := Arv.set Ar396 qa396 Sa396 Na396 Ha396 Ga396 rfl W396 2 rfl (Nat.le_of_ble_eq_true rfl)
  have N396 := Fr.snoc X396 N387 g_r
  have kq398 := Nat.le_trans kq389 (Keep.of_wr W396).1
  have Zs399 : n0 ≤ h396.size := Nat.le_trans Zs390 (Keep.of_wr W396).1
  show own_G (T396.setTop (mkF m 134 #[oA a, oI bits, oI (1 : Int32), oI bs, oI (4 : Int32), oJ (own_sg x1), oS, oA r, oI (1 : Int32), oJ x1, oS, oJ x0, oS] []))
  refine up ?_ fun t k => XS.iinc X396.here hx rfl (hb hby d11_134) rfl (l' := #[oA a, oI bits, oI (1 : Int32), oI bs, oI (4 : Int32), oJ (own_sg x1), oS, oA r, oI (0 : Int32), oJ x1, oS, oJ x0, oS]) rfl (XS.goto X396.here hx rfl (pc0 := 137) (pc' := 65) rfl (hb hby d11_137) (by decide) (by decide) (XS.iload X396.here hx rfl (hb hby d11_65) rfl k))
  show own_G (T396.setTop (mkF m 67 #[oA a, oI bits, oI (1 : Int32), oI bs, oI (4 : Int32), oJ (own_sg x1), oS, oA r, oI (0 : Int32), oJ x1, oS, oJ x0, oS] [(.int (0 : Int32))]))
  refine up ?_ fun t k => XS.ifNo X396.here hx rfl (hb hby d11_67) rfl ((if0 _ _).trans (flt (by decide : ¬ ((0 : Int32) < (0 : Int32)))).1) (XS.iload X396.here hx rfl (hb hby d11_70) rfl (XS.aloadN X396.here hx rfl (hb hby d11_72) rfl rfl k))
  show own_G (T396.setTop (mkF m 73 #[oA a, oI bits, oI (1 : Int32), oI bs, oI (4 : Int32), oJ (own_sg x1), oS, oA r, oI (0 : Int32), oJ x1, oS, oJ x0, oS] [(.ref a), (.int (0 : Int32))]))
  obtain ⟨T400, X400, e400, st400⟩ := getF X396 hx hZ hown (host := "") (Or.inl (hw _ (own_m 20 rfl))) Via.refl e396 Fl_c397 (g := (mkF m 73 #[oA a, oI bits, oI (1 : Int32), oI bs, oI (4 : Int32), oJ (own_sg x1), oS, oA r, oI (0 : Int32), oJ x1, oS, oJ x0, oS] [(.ref a), (.int (0 : Int32))])) rfl rfl (hb hby d11_73)
  refine up ?_ st400
  show own_G (T400.setTop (mkF m 76 #[oA a, oI bits, oI (1 : Int32), oI bs, oI (4 : Int32), oJ (own_sg x1), oS, oA r, oI (0 : Int32), oJ x1, oS, oJ x0, oS] [(.int (2 : Int32)), (.int (0 : Int32))]))
  refine up ?_ fun t k => XS.icmpNo X400.here hx rfl (hb hby d11_76) rfl (tlt (by decide : ((0 : Int32) < (2 : Int32)))).2.1 (XS.aloadN X400.here hx rfl (hb hby d11_79) rfl rfl k)
  show own_G (T400.setTop (mkF m 80 #[oA a, oI bits, oI (1 : Int32), oI bs, oI (4 : Int32), oJ (own_sg x1), oS, oA r, oI (0 : Int32), oJ x1, oS, oJ x0, oS] [(.ref a)]))
  obtain ⟨T401, X401, e401, st401⟩ := getF X400 hx hZ hown (host := "") (Or.inl (hw _ (own_m 13 rfl))) Via.refl e400 Fw_c397 (g := (mkF m 80 #[oA a, oI bits, oI (1 : Int32), oI bs, oI (4 : Int32), oJ (own_sg x1), oS, oA r, oI (0 : Int32), oJ x1, oS, oJ x0, oS] [(.ref a)])) rfl rfl (hb hby d11_80)
  refine up ?_ st401
  show own_G (T401.setTop (mkF m 83 #[oA a, oI bits, oI (1 : Int32), oI bs, oI (4 : Int32), oJ (own_sg x1), oS, oA r, oI (0 : Int32), oJ x1, oS, oJ x0, oS] [(.ref r)]))
  refine up ?_ fun t k => XS.iload X401.here hx rfl (hb hby d11_83) rfl k
  show own_G (T401.setTop (mkF m 85 #[oA a, oI bits, oI (1 : Int32), oI bs, oI (4 : Int32), oJ (own_sg x1), oS, oA r, oI (0 : Int32), oJ x1, oS, oJ x0, oS] [(.int (0 : Int32)), (.ref r)]))
  obtain ⟨cl402, Ar402, qa402, Sa402, Na402, Ha402, Ga402⟩ := id V396
  have hin402 : ¬ ((0 : Int32) < 0 ∨ cl402.slots.size ≤ ((0 : Int32)).toNatClampNeg) := inb_of Sa402 ⟨by decide, by decide⟩
  refine up ?_ fun t k => X401.laload hx (j := (0 : Int32)) (v := (.long x0)) (by rw [e401]; exact Ar402.1) (State.isArrayOf_alike hZ.alike Ar402.2.1) Ar402.2.2 hin402 (Ha402.at hin402 rfl) (g := (mkF m 85 #[oA a, oI bits, oI (1 : Int32), oI bs, oI (4 : Int32), oJ (own_sg x1), oS, oA r, oI (0 : Int32), oJ x1, oS, oJ x0, oS] [(.int (0 : Int32)), (.ref r)])) rfl rfl (hb hby d11_85) _ (XS.goto X401.here hx rfl (pc0 := 86) (pc' := 91) rfl (hb hby d11_86) (by decide) (by decide) (XS.lstore X401.here hx rfl (hb hby d11_91) rfl (l' := #[oA a, oI bits, oI (1 : Int32), oI bs, oI (4 : Int32), oJ (own_sg x1), oS, oA r, oI (0 : Int32), oJ x0, oS, oJ x0, oS]) rfl (XS.iload X401.here hx rfl (hb hby d11_93) rfl k)))
  show own_G (T401.setTop (mkF m 95 #[oA a, oI bits, oI (1 : Int32), oI bs, oI (4 : Int32), oJ (own_sg x1), oS, oA r, oI (0 : Int32), oJ x0, oS, oJ x0, oS] [(.int (0 : Int32))]))
  refine up ?_ fun t k => XS.ifNo X401.here hx rfl (hb hby d11_95) rfl ((if0 _ _).trans (teq (by decide : ((0 : Int32) = (0 : Int32)))).2) (XS.lconst X401.here hx rfl (hb hby d11_98) (XS.goto X401.here hx rfl (pc0 := 99) (pc' := 111) rfl (hb hby d11_99) (by decide) (by decide) (XS.lstore X401.here hx rfl (hb hby d11_111) rfl (l' := #[oA a, oI bits, oI (1 : Int32), oI bs, oI (4 : Int32), oJ (own_sg x1), oS, oA r, oI (0 : Int32), oJ x0, oS, oJ (0 : Int64), oS]) rfl (XS.aload X401.here hx rfl (hb hby d11_113) rfl rfl (XS.iload X401.here hx rfl (hb hby d11_115) rfl (XS.iloadN X401.here hx rfl (hb hby d11_117) rfl (XS.iadd X401.here hx rfl (hb hby d11_118) rfl (XS.lload X401.here hx rfl (hb hby d11_119) rfl (XS.iloadN X401.here hx rfl (hb hby d11_121) rfl k)))))))))
  show own_G (T401.setTop (mkF m 122 #[oA a, oI bits, oI (1 : Int32), oI bs, oI (4 : Int32), oJ (own_sg x1), oS, oA r, oI (0 : Int32), oJ x0, oS, oJ (0 : Int64), oS] [(.int bs), (.long x0), (.int (1 : Int32)), (.ref r)]))
  refine up ?_ fun t k => XS.lshl X401.here hx rfl (hb hby d11_122) rfl (XS.lload X401.here hx rfl (hb hby d11_123) rfl (XS.iconst X401.here hx rfl (hb hby d11_125) (XS.lushr X401.here hx rfl (hb hby d11_126) rfl (XS.bipush X401.here hx rfl (hb hby d11_127) (XS.iloadN X401.here hx rfl (hb hby d11_129) rfl (XS.isub X401.here hx rfl (hb hby d11_130) rfl (XS.lushr X401.here hx rfl (hb hby d11_131) rfl (XS.lor X401.here hx rfl (hb hby d11_132) rfl k))))))))
  show own_G (T401.setTop (mkF m 133 #[oA a, oI bits, oI (1 : Int32), oI bs, oI (4 : Int32), oJ (own_sg x1), oS, oA r, oI (0 : Int32), oJ x0, oS, oJ (0 : Int64), oS] [(.long ((x0 <<< (bs &&& 0x3f).toInt64) ||| (((((0 : Int64).toUInt64 >>> ((1 : Int32) &&& 0x3f).toInt64.toUInt64).toInt64).toUInt64 >>> (((63 : Int32) - bs) &&& 0x3f).toInt64.toUInt64).toInt64))), (.int (1 : Int32)), (.ref r)]))
  show own_G (T401.setTop (mkF m 133 #[oA a, oI bits, oI (1 : Int32), oI bs, oI (4 : Int32), oJ (own_sg x1), oS, oA r, oI (0 : Int32), oJ x0, oS, oJ (0 : Int64), oS] [(.long (own_s2 x0 (0 : Int64) bs)), (.int (1 : Int32)), (.ref r)]))
  obtain ⟨cl403, Ar403, qa403, Sa403, Na403, Ha403, Ga403⟩ := id V396
  have hin403 : ¬ ((1 : Int32) < 0 ∨ cl403.slots.size ≤ ((1 : Int32)).toNatClampNeg) := inb_of Sa403 ⟨by decide, by decide⟩
  obtain ⟨T403, h403, X403, e403, W403, st403⟩ := stJ X401 hx hZ e401 Ar403 (j := (1 : Int32)) hin403 (g := (mkF m 133 #[oA a, oI bits, oI (1 : Int32), oI bs, oI (4 : Int32), oJ (own_sg x1), oS, oA r, oI (0 : Int32), oJ x0, oS, oJ (0 : Int64), oS] [(.long (own_s2 x0 (0 : Int64) bs)), (.int (1 : Int32)), (.ref r)])) rfl rfl (hb hby d11_133)
  refine up ?_ st403
  have E_a_c404 := E_a_c397.wr W403
  have Fw_c404 := Fw_c397.other W403 (Or.inl ne_ar)
  have Fl_c404 := Fl_c397.other W403 (Or.inl ne_ar)
  have Fp_c404 := Fp_c397.other W403 (Or.inl ne_ar)
  have V403 : Arv Z h403 r kr .long (4 : Int32) [(.long x0), (.long (own_s2 x0 (0 : Int64) bs)), (.long (own_s2 x1 x0 bs)), (.long (own_s2 (own_sg x1) x1 bs))] (.long (0 : Int64)) := Arv.set Ar403 qa403 Sa403 Na403 Ha403 Ga403 rfl W403 1 rfl (Nat.le_of_ble_eq_true rfl)
  have N403 := Fr.snoc X403 N396 g_r
  have kq405 := Nat.le_trans kq398 (Keep.of_wr W403).1
  have Zs406 : n0 ≤ h403.size := Nat.le_trans Zs399 (Keep.of_wr W403).1
  show own_G (T403.setTop (mkF m 134 #[oA a, oI bits, oI (1 : Int32), oI bs, oI (4 : Int32), oJ (own_sg x1), oS, oA r, oI (0 : Int32), oJ x0, oS, oJ (0 : Int64), oS] []))
  refine up ?_ fun t k => XS.iinc X403.here hx rfl (hb hby d11_134) rfl (l' := #[oA a, oI bits, oI (1 : Int32), oI bs, oI (4 : Int32), oJ (own_sg x1), oS, oA r, oI (-1 : Int32), oJ x0, oS, oJ (0 : Int64), oS]) rfl (XS.goto X403.here hx rfl (pc0 := 137) (pc' := 65) rfl (hb hby d11_137) (by decide) (by decide) (XS.iload X403.here hx rfl (hb hby d11_65) rfl k))
  show own_G (T403.setTop (mkF m 67 #[oA a, oI bits, oI (1 : Int32), oI bs, oI (4 : Int32), oJ (own_sg x1), oS, oA r, oI (-1 : Int32), oJ x0, oS, oJ (0 : Int64), oS] [(.int (-1 : Int32))]))
  refine up ?_ fun t k => XS.ifYes X403.here hx rfl (pc0 := 67) (pc' := 140) rfl (hb hby d11_67) rfl ((if0 _ _).trans (tlt (by decide : ((-1 : Int32) < (0 : Int32)))).1) (by decide) (by decide) (XS.aload X403.here hx rfl (hb hby d11_140) rfl rfl (XS.iconst X403.here hx rfl (hb hby d11_142) (XS.iloadN X403.here hx rfl (hb hby d11_143) rfl (XS.lconst X403.here hx rfl (hb hby d11_144) k))))
  show own_G (T403.setTop (mkF m 145 #[oA a, oI bits, oI (1 : Int32), oI bs, oI (4 : Int32), oJ (own_sg x1), oS, oA r, oI (-1 : Int32), oJ x0, oS, oJ (0 : Int64), oS] [(.long (0 : Int64)), (.int (1 : Int32)), (.int (0 : Int32)), (.ref r)]))
  obtain ⟨_, _, ⟨T407, L407, k407, n407⟩, -, X407, ⟨Lc407, hQ407, l407, y407, z407⟩, st407⟩ := Jvm.LawKit.callS X403 hx (y := (⟨"java/util/Arrays", "fill", "([JIIJ)V"⟩ : MethodName)) hown (mvT hZ (hw _ (own_m 63 rfl))) (mvT hZ (hw _ (own_m 64 rfl))) (mvT hZ (hw _ (own_m 30 rfl))) (mvT hZ (hw _ (own_m 65 rfl))) (by decide) (backOf (W := 0) (rmf1 l Z a0 hw [] r kr x0 (own_s2 x0 (0 : Int64) bs) (own_s2 x1 x0 bs) (own_s2 (own_sg x1) x1 bs) h403 n0 Zs406 V403 g_r) hZ (hw _ (own_m 65 rfl)) (hw _ (own_m 30 rfl)) (by decide) (by decide)) (g := (mkF m 145 #[oA a, oI bits, oI (1 : Int32), oI bs, oI (4 : Int32), oJ (own_sg x1), oS, oA r, oI (-1 : Int32), oJ x0, oS, oJ (0 : Int64), oS] [(.long (0 : Int64)), (.int (1 : Int32)), (.int (0 : Int32)), (.ref r)])) rfl (by rw [hml]; rfl) (argsL := [(.ref r), (.int (0 : Int32)), (.int (1 : Int32)), (.long (0 : Int64))]) (rest := []) (lenOf own_pd4 rfl) rfl (by show 2 * 0 + _ ≤ _; exact Nat.le_of_eq rfl) (hb hby d11_145) (fun _ _ => ⟨rfl, e403, (by decide : 0 + 0 ≤ _), (by decide : 0 + 0 ≤ _)⟩)
  dsimp only [Pt.U, Pt.locs, Pt.cells, Pt.slots] at X407 l407 y407 z407 st407 hQ407
  subst l407 y407 z407
  obtain ⟨rfl, Nq407, Kq407, Vq407⟩ := hQ407
  have N407 := Fr.app N403 Nq407
  have E_a_c408 := E_a_c404.keep Kq407
  have Fw_c408 := Fw_c404.keep Kq407 (ninS ne_ar nin0)
  have Fl_c408 := Fl_c404.keep Kq407 (ninS ne_ar nin0)
  have Fp_c408 := Fp_c404.keep Kq407 (ninS ne_ar nin0)
  have kq409 := Nat.le_trans kq405 Kq407.1
  have Zs410 : n0 ≤ T407.heap.size := Nat.le_trans Zs406 Kq407.1
  refine up ?_ (st407)
  show own_G (T407.setTop (mkF m 148 #[oA a, oI bits, oI (1 : Int32), oI bs, oI (4 : Int32), oJ (own_sg x1), oS, oA r, oI (-1 : Int32), oJ x0, oS, oJ (0 : Int64), oS] []))
  refine up ?_ fun t k => XS.aloadN X407.here hx rfl (hb hby d11_148) rfl rfl (XS.aload X407.here hx rfl (hb hby d11_149) rfl rfl k)
  show own_G (T407.setTop (mkF m 151 #[oA a, oI bits, oI (1 : Int32), oI bs, oI (4 : Int32), oJ (own_sg x1), oS, oA r, oI (-1 : Int32), oJ x0, oS, oJ (0 : Int64), oS] [(.ref r), (.ref a)]))
  obtain ⟨T411, h411, X411, e411, W411, st411⟩ := putF X407 hx hZ hown (host := "") (Or.inl (hw _ (own_m 13 rfl))) Via.refl rfl Fw_c408 E_a_c408 (Or.inl (hw _ (own_m 14 rfl))) (hw _ (own_m 3 rfl)) (ty := (.array .long)) (by decide) rfl rfl (g := (mkF m 151 #[oA a, oI bits, oI (1 : Int32), oI bs, oI (4 : Int32), oJ (own_sg x1), oS, oA r, oI (-1 : Int32), oJ x0, oS, oJ (0 : Int64), oS] [(.ref r), (.ref a)])) rfl rfl (hb hby d11_151)
  refine up ?_ st411
  have E_a_c412 := E_a_c408.wr W411
  have Fl_c412 := Fl_c408.other W411 (Or.inr (slot_ne (Or.inl (hw _ (own_m 21 rfl))) (Or.inl (hw _ (own_m 14 rfl))) (by decide) (t := .int) (t' := (.array .long)) (by decide) (by decide)))
  have Fp_c412 := Fp_c408.other W411 (Or.inr (slot_ne (Or.inl (hw _ (own_m 23 rfl))) (Or.inl (hw _ (own_m 14 rfl))) (by decide) (t := .int) (t' := (.array .long)) (by decide) (by decide)))
  have Vq407_c412 := Vq407.other W411 (Ne.symm ne_ar)
  have F411 := Fw_c408.same W411
  have N411 := Fr.snoc X411 N407 g_a
  have kq413 := Nat.le_trans kq409 (Keep.of_wr W411).1
  have Zs414 : n0 ≤ h411.size := Nat.le_trans Zs410 (Keep.of_wr W411).1
  show own_G (T411.setTop (mkF m 154 #[oA a, oI bits, oI (1 : Int32), oI bs, oI (4 : Int32), oJ (own_sg x1), oS, oA r, oI (-1 : Int32), oJ x0, oS, oJ (0 : Int64), oS] []))
  refine up ?_ fun t k => XS.aloadN X411.here hx rfl (hb hby d11_154) rfl rfl (XS.iload X411.here hx rfl (hb hby d11_155) rfl k)
  show own_G (T411.setTop (mkF m 157 #[oA a, oI bits, oI (1 : Int32), oI bs, oI (4 : Int32), oJ (own_sg x1), oS, oA r, oI (-1 : Int32), oJ x0, oS, oJ (0 : Int64), oS] [(.int (4 : Int32)), (.ref a)]))
  obtain ⟨T415, h415, X415, e415, W415, st415⟩ := putF X411 hx hZ hown (host := "") (Or.inl (hw _ (own_m 20 rfl))) Via.refl e411 Fl_c412 E_a_c412 (Or.inl (hw _ (own_m 21 rfl))) (hw _ (own_m 3 rfl)) (ty := .int) (by decide) rfl rfl (g := (mkF m 157 #[oA a, oI bits, oI (1 : Int32), oI bs, oI (4 : Int32), oJ (own_sg x1), oS, oA r, oI (-1 : Int32), oJ x0, oS, oJ (0 : Int64), oS] [(.int (4 : Int32)), (.ref a)])) rfl rfl (hb hby d11_157)
  refine up ?_ st415
  have E_a_c416 := E_a_c412.wr W415
  have F411_c416 := F411.other W415 (Or.inr (slot_ne (Or.inl (hw _ (own_m 14 rfl))) (Or.inl (hw _ (own_m 21 rfl))) (by decide) (t := (.array .long)) (t' := .int) (by decide) (by decide)))
  have Fp_c416 := Fp_c412.other W415 (Or.inr (slot_ne (Or.inl (hw _ (own_m 23 rfl))) (Or.inl (hw _ (own_m 21 rfl))) (by decide) (t := .int) (t' := .int) (by decide) (by decide)))
  have Vq407_c416 := Vq407_c412.other W415 (Ne.symm ne_ar)
  have F415 := Fl_c412.same W415
  have N415 := Fr.snoc X415 N411 g_a
  have kq417 := Nat.le_trans kq413 (Keep.of_wr W415).1
  have Zs418 : n0 ≤ h415.size := Nat.le_trans Zs414 (Keep.of_wr W415).1
  show own_G (T415.setTop (mkF m 160 #[oA a, oI bits, oI (1 : Int32), oI bs, oI (4 : Int32), oJ (own_sg x1), oS, oA r, oI (-1 : Int32), oJ x0, oS, oJ (0 : Int64), oS] []))
  exact own_retV X415 hx hlk hret (hb hby d11_160) (by rw [e415]; exact ⟨rfl, N415, kq417, ⟨E_a_c416, F411_c416, F415, Fp_c416, Vq407_c416⟩⟩) (by decide) (by decide)
theorem d14_0 : decode prog_78_method_12_code 0 = .ok (.aload_n 0, 1) := by decide +kernel
theorem d14_1 : decode prog_78_method_12_code 1 = .ok (.getfield 16, 3) := by decide +kernel
theorem d14_4 : decode prog_78_method_12_code 4 = .ok (.ifCond .le 29, 3) := by decide +kernel
theorem d14_7 : decode prog_78_method_12_code 7 = .ok (.aload_n 0, 1) := by decide +kernel
theorem d14_8 : decode prog_78_method_12_code 8 = .ok (.aload_n 0, 1) := by decide +kernel
theorem d14_9 : decode prog_78_method_12_code 9 = .ok (.getfield 16, 3) := by decide +kernel
theorem d14_12 : decode prog_78_method_12_code 12 = .ok (.iconst 1, 1) := by decide +kernel
theorem d14_13 : decode prog_78_method_12_code 13 = .ok (.isub, 1) := by decide +kernel
theorem d14_14 : decode prog_78_method_12_code 14 = .ok (.invokevirtual 37, 3) := by decide +kernel
theorem d14_17 : decode prog_78_method_12_code 17 = .ok (.ifCond .eq 16, 3) := by decide +kernel
theorem d14_20 : decode prog_78_method_12_code 20 = .ok (.aload_n 0, 1) := by decide +kernel
theorem d14_21 : decode prog_78_method_12_code 21 = .ok (.dup, 1) := by decide +kernel
theorem d14_22 : decode prog_78_method_12_code 22 = .ok (.getfield 16, 3) := by decide +kernel
theorem d14_25 : decode prog_78_method_12_code 25 = .ok (.iconst 1, 1) := by decide +kernel
theorem d14_26 : decode prog_78_method_12_code 26 = .ok (.isub, 1) := by decide +kernel
theorem d14_27 : decode prog_78_method_12_code 27 = .ok (.putfield 16, 3) := by decide +kernel
theorem d14_30 : decode prog_78_method_12_code 30 = .ok (.goto (-30), 3) := by decide +kernel
theorem d14_33 : decode prog_78_method_12_code 33 = .ok (.iconst 0, 1) := by decide +kernel
theorem d14_34 : decode prog_78_method_12_code 34 = .ok (.istore_n 1, 1) := by decide +kernel
theorem d14_35 : decode prog_78_method_12_code 35 = .ok (.iload_n 1, 1) := by decide +kernel
theorem d14_36 : decode prog_78_method_12_code 36 = .ok (.aload_n 0, 1) := by decide +kernel
theorem d14_37 : decode prog_78_method_12_code 37 = .ok (.getfield 16, 3) := by decide +kernel
theorem d14_40 : decode prog_78_method_12_code 40 = .ok (.if_icmp .ge 20, 3) := by decide +kernel
theorem d14_43 : decode prog_78_method_12_code 43 = .ok (.aload_n 0, 1) := by decide +kernel
theorem d14_44 : decode prog_78_method_12_code 44 = .ok (.getfield 13, 3) := by decide +kernel
theorem d14_47 : decode prog_78_method_12_code 47 = .ok (.iload_n 1, 1) := by decide +kernel
theorem d14_48 : decode prog_78_method_12_code 48 = .ok (.laload, 1) := by decide +kernel
theorem d14_49 : decode prog_78_method_12_code 49 = .ok (.lconst 0, 1) := by decide +kernel
theorem d14_50 : decode prog_78_method_12_code 50 = .ok (.lcmp, 1) := by decide +kernel
theorem d14_51 : decode prog_78_method_12_code 51 = .ok (.ifCond .ne 9, 3) := by decide +kernel
theorem d14_54 : decode prog_78_method_12_code 54 = .ok (.iinc 1 1, 3) := by decide +kernel
theorem d14_57 : decode prog_78_method_12_code 57 = .ok (.goto (-22), 3) := by decide +kernel
theorem d14_60 : decode prog_78_method_12_code 60 = .ok (.iload_n 1, 1) := by decide +kernel
theorem d14_61 : decode prog_78_method_12_code 61 = .ok (.ifCond .le 45, 3) := by decide +kernel
theorem d14_64 : decode prog_78_method_12_code 64 = .ok (.aload_n 0, 1) := by decide +kernel
theorem d14_65 : decode prog_78_method_12_code 65 = .ok (.getfield 13, 3) := by decide +kernel
theorem d14_68 : decode prog_78_method_12_code 68 = .ok (.iload_n 1, 1) := by decide +kernel
theorem d14_69 : decode prog_78_method_12_code 69 = .ok (.aload_n 0, 1) := by decide +kernel
theorem d14_70 : decode prog_78_method_12_code 70 = .ok (.getfield 13, 3) := by decide +kernel
theorem d14_73 : decode prog_78_method_12_code 73 = .ok (.iconst 0, 1) := by decide +kernel
theorem d14_74 : decode prog_78_method_12_code 74 = .ok (.aload_n 0, 1) := by decide +kernel
theorem d14_75 : decode prog_78_method_12_code 75 = .ok (.getfield 16, 3) := by decide +kernel
theorem d14_78 : decode prog_78_method_12_code 78 = .ok (.iload_n 1, 1) := by decide +kernel
theorem d14_79 : decode prog_78_method_12_code 79 = .ok (.isub, 1) := by decide +kernel
theorem d14_80 : decode prog_78_method_12_code 80 = .ok (.invokestatic 104, 3) := by decide +kernel
theorem d14_83 : decode prog_78_method_12_code 83 = .ok (.aload_n 0, 1) := by decide +kernel
theorem d14_84 : decode prog_78_method_12_code 84 = .ok (.dup, 1) := by decide +kernel
theorem d14_85 : decode prog_78_method_12_code 85 = .ok (.getfield 16, 3) := by decide +kernel
theorem d14_88 : decode prog_78_method_12_code 88 = .ok (.iload_n 1, 1) := by decide +kernel
theorem d14_89 : decode prog_78_method_12_code 89 = .ok (.isub, 1) := by decide +kernel
theorem d14_90 : decode prog_78_method_12_code 90 = .ok (.putfield 16, 3) := by decide +kernel
theorem d14_93 : decode prog_78_method_12_code 93 = .ok (.aload_n 0, 1) := by decide +kernel
theorem d14_94 : decode prog_78_method_12_code 94 = .ok (.dup, 1) := by decide +kernel
theorem d14_95 : decode prog_78_method_12_code 95 = .ok (.getfield 20, 3) := by decide +kernel
theorem d14_98 : decode prog_78_method_12_code 98 = .ok (.bipush 64, 2) := by decide +kernel
theorem d14_100 : decode prog_78_method_12_code 100 = .ok (.iload_n 1, 1) := by decide +kernel
theorem d14_101 : decode prog_78_method_12_code 101 = .ok (.imul, 1) := by decide +kernel
theorem d14_102 : decode prog_78_method_12_code 102 = .ok (.iadd, 1) := by decide +kernel
theorem d14_103 : decode prog_78_method_12_code 103 = .ok (.putfield 20, 3) := by decide +kernel
theorem d14_106 : decode prog_78_method_12_code 106 = .ok (.aload_n 0, 1) := by decide +kernel
theorem d14_107 : decode prog_78_method_12_code 107 = .ok (.getfield 13, 3) := by decide +kernel
theorem d14_110 : decode prog_78_method_12_code 110 = .ok (.arraylength, 1) := by decide +kernel
theorem d14_111 : decode prog_78_method_12_code 111 = .ok (.iconst 2, 1) := by decide +kernel
theorem d14_112 : decode prog_78_method_12_code 112 = .ok (.aload_n 0, 1) := by decide +kernel
theorem d14_113 : decode prog_78_method_12_code 113 = .ok (.getfield 16, 3) := by decide +kernel
theorem d14_116 : decode prog_78_method_12_code 116 = .ok (.imul, 1) := by decide +kernel
theorem d14_117 : decode prog_78_method_12_code 117 = .ok (.bipush 8, 2) := by decide +kernel
theorem d14_119 : decode prog_78_method_12_code 119 = .ok (.iadd, 1) := by decide +kernel
theorem d14_120 : decode prog_78_method_12_code 120 = .ok (.if_icmp .le 20, 3) := by decide +kernel
theorem d14_140 : decode prog_78_method_12_code 140 = .ok (.aload_n 0, 1) := by decide +kernel
theorem d14_141 : decode prog_78_method_12_code 141 = .ok (.getfield 16, 3) := by decide +kernel
theorem d14_144 : decode prog_78_method_12_code 144 = .ok (.ifCond .le 13, 3) := by decide +kernel
theorem d14_147 : decode prog_78_method_12_code 147 = .ok (.aload_n 0, 1) := by decide +kernel
theorem d14_148 : decode prog_78_method_12_code 148 = .ok (.aload_n 0, 1) := by decide +kernel
theorem d14_149 : decode prog_78_method_12_code 149 = .ok (.getfield 16, 3) := by decide +kernel
theorem d14_152 : decode prog_78_method_12_code 152 = .ok (.iconst 1, 1) := by decide +kernel
theorem d14_153 : decode prog_78_method_12_code 153 = .ok (.iadd, 1) := by decide +kernel
theorem d14_154 : decode prog_78_method_12_code 154 = .ok (.invokevirtual 30, 3) := by decide +kernel
theorem d14_157 : decode prog_78_method_12_code 157 = .ok (.return_, 1) := by decide +kernel
theorem own_ef_rmn3z (m : MethodId) (x0 : Addr) : entryFrame m #[(.ref x0)] 2 = mkF m 0 #[oA x0, .unset] [] := by first | (simp [entryFrame, mkF, argsToLocals, Value.category]; done) | rfl
def own_Q_rmn3z (Z : State) (a : Addr) (r : Addr) (kr : ClassId) (zc : Int32) (pw : Int32) (tl : List Value) (x0 : Int64) (x1 : Int64) (x2 : Int64) (h0 : Heap) (n0 : Nat) (v : Option Value) (h : Heap) (L : List Loc) : Prop := v = none ∧ Fr n0 L ∧ h0.size ≤ h.size ∧ own_O Z h a r kr zc (0 : Int32) pw ((.long x0) :: (.long x1) :: (.long x2) :: tl)
theorem rmn3z (l : Launch) (Z : State) (a0 : Array Value) (hw : own_W Z a0) (ws : List Jvm.Cond) (a : Addr) (r : Addr) (kr : ClassId) (zc : Int32) (pw : Int32) (tl : List Value) (x0 : Int64) (x1 : Int64) (x2 : Int64) (h0 : Heap) (n0 : Nat) (Z0 : n0 ≤ h0.size) (O0 : own_O Z h0 a r kr zc (3 : Int32) pw ((.long x0) :: (.long x1) :: (.long x2) :: tl)) (g_a : n0 ≤ a) (g_r : n0 ≤ r) (hc : own_cap zc tl) (h2 : x2 = own_sg x1) (h1 : x1 = own_sg x0) (hz : x0 = (0 : Int64)) :
    own_M l Z (⟨"com/example/eventweir/eventweir/ExactSum", "normalize", "()V"⟩ : MethodName) prog_78_method_12_code 2 none ws ({ frames := 1, cells := 0, slots := 0, locals := 13 } : Room) #[(.ref a)] h0 (own_Q_rmn3z Z a r kr zc pw tl x0 x1 x2 h0 n0) := by
  refine own_body (plainFor_of_name own_pn0) ?_
  intro p e s m below meth c s₁ hx hZ hby hml hown hnm hlk hret X0 e0
  have N0 := Fr.nil n0
  obtain ⟨E_a, Fw, Fl, Fp, V⟩ := O0
  have ne_ar : a ≠ r := E_a.neArv V (hw _ (own_m 3 rfl))
  refine up (U' := s₁.setTop (mkF m 0 #[oA a, oU] [])) ?_ (fun t k => castTop (own_ef_rmn3z m a) k)
  refine up ?_ fun t k => XS.aloadN X0.here hx rfl (hb hby d14_0) rfl rfl k
  show own_G (s₁.setTop (mkF m 1 #[oA a, oU] [(.ref a)]))
  obtain ⟨T419, X419, e419, st419⟩ := getF X0 hx hZ hown (host := "") (Or.inl (hw _ (own_m 20 rfl))) Via.refl e0 Fl (g := (mkF m 1 #[oA a, oU] [(.ref a)])) rfl rfl (hb hby d14_1)
  refine up ?_ st419
  show own_G (T419.setTop (mkF m 4 #[oA a, oU] [(.int (3 : Int32))]))
  refine up ?_ fun t k => XS.ifNo X419.here hx rfl (hb hby d14_4) rfl ((if0 _ _).trans (tlt (by decide : ((0 : Int32) < (3 : Int32)))).2.2.2) (XS.aloadN X419.here hx rfl (hb hby d14_7) rfl rfl (XS.aloadN X419.here hx rfl (hb hby d14_8) rfl rfl k))
  show own_G (T419.setTop (mkF m 9 #[oA a, oU] [(.ref a), (.ref a)]))
  obtain ⟨T420, X420, e420, st420⟩ := getF X419 hx hZ hown (host := "") (Or.inl (hw _ (own_m 20 rfl))) Via.refl e419 Fl (g := (mkF m 9 #[oA a, oU] [(.ref a), (.ref a)])) rfl rfl (hb hby d14_9)
  refine up ?_ st420
  show own_G (T420.setTop (mkF m 12 #[oA a, oU] [(.int (3 : Int32)), (.ref a)]))
  refine up ?_ fun t k => XS.iconst X420.here hx rfl (hb hby d14_12) (XS.isub X420.here hx rfl (hb hby d14_13) rfl k)
  show own_G (T420.setTop (mkF m 14 #[oA a, oU] [(.int (2 : Int32)), (.ref a)]))
  obtain ⟨cq421, q421, q421'⟩ := E_a.cell
  obtain ⟨_, _, ⟨T421, L421, k421, n421⟩, -, X421, ⟨Lc421, hQ421, l421, y421, z421⟩, st421⟩ := X420.privateBack hx (y := (⟨"com/example/eventweir/eventweir/ExactSum", "repeatsSign", "(I)Z"⟩ : MethodName)) hown (mvT hZ (hw _ (own_m 49 rfl))) (mvT hZ (hw _ (own_m 50 rfl))) (own_sel (by decide) (mvT hZ (hw _ (own_m 50 rfl))) (mvP hZ (hw _ (own_m 51 rfl))) (mvT hZ (hw _ (own_m 3 rfl)))) (Cond.privateMethod_at (mvP hZ (hw _ (own_m 51 rfl)) (args := #[]))) (mvT hZ (hw _ (own_m 52 rfl))) (by decide) (backOf (W := 0) (rmrs2 l Z a0 hw [] a r kr zc pw tl x0 x1 x2 (3 : Int32) h0 n0 Z0 ⟨E_a, Fw, Fl, Fp, V⟩ g_a g_r hc ) hZ (hw _ (own_m 52 rfl)) (hw _ (own_m 4 rfl)) (by decide) (by decide)) (g := (mkF m 14 #[oA a, oU] [(.int (2 : Int32)), (.ref a)])) rfl (by rw [hml]; rfl) (Steps.refl _) (a := a) (by rw [e420]; exact q421) q421' (argsL := [(.int (2 : Int32))]) (rest := []) (lenOf own_pd5 rfl) rfl (by show 2 * 0 + _ ≤ _; exact Nat.le_of_eq rfl) (hb hby d14_14) (fun _ _ => ⟨rfl, e420, (by decide : 0 + 0 ≤ _), (by decide : 0 + 0 ≤ _)⟩)
  dsimp only [Pt.U, Pt.locs, Pt.cells, Pt.slots] at X421 l421 y421 z421 st421 hQ421
  subst l421 y421 z421
  obtain ⟨rfl, Nq421, e421⟩ := hQ421
  have N421 := Fr.app N0 Nq421
  refine up ?_ (fun t k => st421.trans k)
  show own_G (T421.setTop (mkF m 17 #[oA a, oU] [(.int (if x2 = own_sg x1 then (1 : Int32) else (0 : Int32)))]))
  refine up ?_ fun t k => XS.ifNo X421.here hx rfl (hb hby d14_17) rfl ((if0 _ _).trans (feq ((by rw [if_pos h2]; decide) : ¬ ((if x2 = own_sg x1 then (1 : Int32) else (0 : Int32)) = (0 : Int32)))).1) (XS.aloadN X421.here hx rfl (hb hby d14_20) rfl rfl (XS.dup X421.here hx rfl (hb hby d14_21) rfl rfl k))
  show own_G (T421.setTop (mkF m 22 #[oA a, oU] [(.ref a), (.ref a)]))
  obtain ⟨T422, X422, e422, st422⟩ := getF X421 hx hZ hown (host := "") (Or.inl (hw _ (own_m 20 rfl))) Via.refl e421 Fl (g := (mkF m 22 #[oA a, oU] [(.ref a), (.ref a)])) rfl rfl (hb hby d14_22)
  refine up ?_ st422
  show own_G (T422.setTop (mkF m 25 #[oA a, oU] [(.int (3 : Int32)), (.ref a)]))
  refine up ?_ fun t k => XS.iconst X422.here hx rfl (hb hby d14_25) (XS.isub X422.here hx rfl (hb hby d14_26) rfl k)
  show own_G (T422.setTop (mkF m 27 #[oA a, oU] [(.int (2 : Int32)), (.ref a)]))
  obtain ⟨T423, h423, X423, e423, W423, st423⟩ := putF X422 hx hZ hown (host := "") (Or.inl (hw _ (own_m 20 rfl))) Via.refl e422 Fl E_a (Or.inl (hw _ (own_m 21 rfl))) (hw _ (own_m 3 rfl)) (ty := .int) (by decide) rfl rfl (g := (mkF m 27 #[oA a, oU] [(.int (2 : Int32)), (.ref a)])) rfl rfl (hb hby d14_27)
  refine up ?_ st423
  have E_a_c424 := E_a.wr W423
  have Fw_c424 := Fw.other W423 (Or.inr (slot_ne (Or.inl (hw _ (own_m 14 rfl))) (Or.inl (hw _ (own_m 21 rfl))) (by decide) (t := (.array .long)) (t' := .int) (by decide) (by decide)))
  have Fp_c424 := Fp.other W423 (Or.inr (slot_ne (Or.inl (hw _ (own_m 23 rfl))) (Or.inl (hw _ (own_m 21 rfl))) (by decide) (t := .int) (t' := .int) (by decide) (by decide)))
  have V_c424 := V.other W423 (Ne.symm ne_ar)
  have F423 := Fl.same W423
  have N423 := Fr.snoc X423 N421 g_a
  have kq425 := Nat.le_trans (Nat.le_refl h0.size) (Keep.of_wr W423).1
  have Zs426 : n0 ≤ h423.size := Nat.le_trans Z0 (Keep.of_wr W423).1
  show own_G (T423.setTop (mkF m 30 #[oA a, oU] []))
  refine up ?_ fun t k => XS.goto X423.here hx rfl (pc0 := 30) (pc' := 0) rfl (hb hby d14_30) (by decide) (by decide) (XS.aloadN X423.here hx rfl (hb hby d14_0) rfl rfl k)
  show own_G (T423.setTop (mkF m 1 #[oA a, oU] [(.ref a)]))
  obtain ⟨T427, X427, e427, st427⟩ := getF X423 hx hZ hown (host := "") (Or.inl (hw _ (own_m 20 rfl))) Via.refl e423 F423 (g := (mkF m 1 #[oA a, oU] [(.ref a)])) rfl rfl (hb hby d14_1)
  refine up ?_ st427
  show own_G (T427.setTop (mkF m 4 #[oA a, oU] [(.int (2 : Int32))]))
  refine up ?_ fun t k => XS.ifNo X427.here hx rfl (hb hby d14_4) rfl ((if0 _ _).trans (tlt (by decide : ((0 : Int32) < (2 : Int32)))).2.2.2) (XS.aloadN X427.here hx rfl (hb hby d14_7) rfl rfl (XS.aloadN X427.here hx rfl (hb hby d14_8) rfl rfl k))
  show own_G (T427.setTop (mkF m 9 #[oA a, oU] [(.ref a), (.ref a)]))
  obtain ⟨T428, X428, e428, st428⟩ := getF X427 hx hZ hown (host := "") (Or.inl (hw _ (own_m 20 rfl))) Via.refl e427 F423 (g := (mkF m 9 #[oA a, oU] [(.ref a), (.ref a)])) rfl rfl (hb hby d14_9)
  refine up ?_ st428
  show own_G (T428.setTop (mkF m 12 #[oA a, oU] [(.int (2 : Int32)), (.ref a)]))
  refine up ?_ fun t k => XS.iconst X428.here hx rfl (hb hby d14_12) (XS.isub X428.here hx rfl (hb hby d14_13) rfl k)
  show own_G (T428.setTop (mkF m 14 #[oA a, oU] [(.int (1 : Int32)), (.ref a)]))
  obtain ⟨cq429, q429, q429'⟩ := E_a_c424.cell
  obtain ⟨_, _, ⟨T429, L429, k429, n429⟩, -, X429, ⟨Lc429, hQ429, l429, y429, z429⟩, st429⟩ := X428.privateBack hx (y := (⟨"com/example/eventweir/eventweir/ExactSum", "repeatsSign", "(I)Z"⟩ : MethodName)) hown (mvT hZ (hw _ (own_m 49 rfl))) (mvT hZ (hw _ (own_m 50 rfl))) (own_sel (by decide) (mvT hZ (hw _ (own_m 50 rfl))) (mvP hZ (hw _ (own_m 51 rfl))) (mvT hZ (hw _ (own_m 3 rfl)))) (Cond.privateMethod_at (mvP hZ (hw _ (own_m 51 rfl)) (args := #[]))) (mvT hZ (hw _ (own_m 52 rfl))) (by decide) (backOf (W := 0) (rmrs1 l Z a0 hw [] a r kr zc pw tl x0 x1 x2 (2 : Int32) h423 n0 Zs426 ⟨E_a_c424, Fw_c424, F423, Fp_c424, V_c424⟩ g_a g_r hc ) hZ (hw _ (own_m 52 rfl)) (hw _ (own_m 4 rfl)) (by decide) (by decide)) (g := (mkF m 14 #[oA a, oU] [(.int (1 : Int32)), (.ref a)])) rfl (by rw [hml]; rfl) (Steps.refl _) (a := a) (by rw [e428]; exact q429) q429' (argsL := [(.int (1 : Int32))]) (rest := []) (lenOf own_pd5 rfl) rfl (by show 2 * 0 + _ ≤ _; exact Nat.le_of_eq rfl) (hb hby d14_14) (fun _ _ => ⟨rfl, e428, (by decide : 0 + 0 ≤ _), (by decide : 0 + 0 ≤ _)⟩)
  dsimp only [Pt.U, Pt.locs, Pt.cells, Pt.slots] at X429 l429 y429 z429 st429 hQ429
  subst l429 y429 z429
  obtain ⟨rfl, Nq429, e429⟩ := hQ429
  have N429 := Fr.app N423 Nq429
  refine up ?_ (fun t k => st429.trans k)
  show own_G (T429.setTop (mkF m 17 #[oA a, oU] [(.int (if x1 = own_sg x0 then (1 : Int32) else (0 : Int32)))]))
  refine up ?_ fun t k => XS.ifNo X429.here hx rfl (hb hby d14_17) rfl ((if0 _ _).trans (feq ((by rw [if_pos h1]; decide) : ¬ ((if x1 = own_sg x0 then (1 : Int32) else (0 : Int32)) = (0 : Int32)))).1) (XS.aloadN X429.here hx rfl (hb hby d14_20) rfl rfl (XS.dup X429.here hx rfl (hb hby d14_21) rfl rfl k))
  show own_G (T429.setTop (mkF m 22 #[oA a, oU] [(.ref a), (.ref a)]))
  obtain ⟨T430, X430, e430, st430⟩ := getF X429 hx hZ hown (host := "") (Or.inl (hw _ (own_m 20 rfl))) Via.refl e429 F423 (g := (mkF m 22 #[oA a, oU] [(.ref a), (.ref a)])) rfl rfl (hb hby d14_22)
  refine up ?_ st430
  show own_G (T430.setTop (mkF m 25 #[oA a, oU] [(.int (2 : Int32)), (.ref a)]))
  refine up ?_ fun t k => XS.iconst X430.here hx rfl (hb hby d14_25) (XS.isub X430.here hx rfl (hb hby d14_26) rfl k)
  show own_G (T430.setTop (mkF m 27 #[oA a, oU] [(.int (1 : Int32)), (.ref a)]))
  obtain ⟨T431, h431, X431, e431, W431, st431⟩ := putF X430 hx hZ hown (host := "") (Or.inl (hw _ (own_m 20 rfl))) Via.refl e430 F423 E_a_c424 (Or.inl (hw _ (own_m 21 rfl))) (hw _ (own_m 3 rfl)) (ty := .int) (by decide) rfl rfl (g := (mkF m 27 #[oA a, oU] [(.int (1 : Int32)), (.ref a)])) rfl rfl (hb hby d14_27)
  refine up ?_ st431
  have E_a_c432 := E_a_c424.wr W431
  have Fw_c432 := Fw_c424.other W431 (Or.inr (slot_ne (Or.inl (hw _ (own_m 14 rfl))) (Or.inl (hw _ (own_m 21 rfl))) (by decide) (t := (.array .long)) (t' := .int) (by decide) (by decide)))
  have Fp_c432 := Fp_c424.other W431 (Or.inr (slot_ne (Or.inl (hw _ (own_m 23 rfl))) (Or.inl (hw _ (own_m 21 rfl))) (by decide) (t := .int) (t' := .int) (by decide) (by decide)))
  have V_c432 := V_c424.other W431 (Ne.symm ne_ar)
  have F431 := F423.same W431
  have N431 := Fr.snoc X431 N429 g_a
  have kq433 := Nat.le_trans kq425 (Keep.of_wr W431).1
  have Zs434 : n0 ≤ h431.size := Nat.le_trans Zs426 (Keep.of_wr W431).1
  show own_G (T431.setTop (mkF m 30 #[oA a, oU] []))
  refine up ?_ fun t k => XS.goto X431.here hx rfl (pc0 := 30) (pc' := 0) rfl (hb hby d14_30) (by decide) (by decide) (XS.aloadN X431.here hx rfl (hb hby d14_0) rfl rfl k)
  show own_G (T431.setTop (mkF m 1 #[oA a, oU] [(.ref a)]))
  obtain ⟨T435, X435, e435, st435⟩ := getF X431 hx hZ hown (host := "") (Or.inl (hw _ (own_m 20 rfl))) Via.refl e431 F431 (g := (mkF m 1 #[oA a, oU] [(.ref a)])) rfl rfl (hb hby d14_1)
  refine up ?_ st435
  show own_G (T435.setTop (mkF m 4 #[oA a, oU] [(.int (1 : Int32))]))
  refine up ?_ fun t k => XS.ifNo X435.here hx rfl (hb hby d14_4) rfl ((if0 _ _).trans (tlt (by decide : ((0 : Int32) < (1 : Int32)))).2.2.2) (XS.aloadN X435.here hx rfl (hb hby d14_7) rfl rfl (XS.aloadN X435.here hx rfl (hb hby d14_8) rfl rfl k))
  show own_G (T435.setTop (mkF m 9 #[oA a, oU] [(.ref a), (.ref a)]))
  obtain ⟨T436, X436, e436, st436⟩ := getF X435 hx hZ hown (host := "") (Or.inl (hw _ (own_m 20 rfl))) Via.refl e435 F431 (g := (mkF m 9 #[oA a, oU] [(.ref a), (.ref a)])) rfl rfl (hb hby d14_9)
  refine up ?_ st436
  show own_G (T436.setTop (mkF m 12 #[oA a, oU] [(.int (1 : Int32)), (.ref a)]))
  refine up ?_ fun t k => XS.iconst X436.here hx rfl (hb hby d14_12) (XS.isub X436.here hx rfl (hb hby d14_13) rfl k)
  show own_G (T436.setTop (mkF m 14 #[oA a, oU] [(.int (0 : Int32)), (.ref a)]))
  obtain ⟨cq437, q437, q437'⟩ := E_a_c432.cell
  obtain ⟨_, _, ⟨T437, L437, k437, n437⟩, -, X437, ⟨Lc437, hQ437, l437, y437, z437⟩, st437⟩ := X436.privateBack hx (y := (⟨"com/example/eventweir/eventweir/ExactSum", "repeatsSign", "(I)Z"⟩ : MethodName)) hown (mvT hZ (hw _ (own_m 49 rfl))) (mvT hZ (hw _ (own_m 50 rfl))) (own_sel (by decide) (mvT hZ (hw _ (own_m 50 rfl))) (mvP hZ (hw _ (own_m 51 rfl))) (mvT hZ (hw _ (own_m 3 rfl)))) (Cond.privateMethod_at (mvP hZ (hw _ (own_m 51 rfl)) (args := #[]))) (mvT hZ (hw _ (own_m 52 rfl))) (by decide) (backOf (W := 0) (rmrs0 l Z a0 hw [] a r kr zc pw tl x0 x1 x2 (1 : Int32) h431 n0 Zs434 ⟨E_a_c432, Fw_c432, F431, Fp_c432, V_c432⟩ g_a g_r hc ) hZ (hw _ (own_m 52 rfl)) (hw _ (own_m 4 rfl)) (by decide) (by decide)) (g := (mkF m 14 #[oA a, oU] [(.int (0 : Int32)), (.ref a)])) rfl (by rw [hml]; rfl) (Steps.refl _) (a := a) (by rw [e436]; exact q437) q437' (argsL := [(.int (0 : Int32))]) (rest := []) (lenOf own_pd5 rfl) rfl (by show 2 * 0 + _ ≤ _; exact Nat.le_of_eq rfl) (hb hby d14_14) (fun _ _ => ⟨rfl, e436, (by decide : 0 + 0 ≤ _), (by decide : 0 + 0 ≤ _)⟩)
  dsimp only [Pt.U, Pt.locs, Pt.cells, Pt.slots] at X437 l437 y437 z437 st437 hQ437
  subst l437 y437 z437
  obtain ⟨rfl, Nq437, e437⟩ := hQ437
  have N437 := Fr.app N431 Nq437
  refine up ?_ (fun t k => st437.trans k)
  show own_G (T437.setTop (mkF m 17 #[oA a, oU] [(.int (if x0 = (0 : Int64) then (1 : Int32) else (0 : Int32)))]))
  refine up ?_ fun t k => XS.ifNo X437.here hx rfl (hb hby d14_17) rfl ((if0 _ _).trans (feq ((by rw [if_pos hz]; decide) : ¬ ((if x0 = (0 : Int64) then (1 : Int32) else (0 : Int32)) = (0 : Int32)))).1) (XS.aloadN X437.here hx rfl (hb hby d14_20) rfl rfl (XS.dup X437.here hx rfl (hb hby d14_21) rfl rfl k))
  show own_G (T437.setTop (mkF m 22 #[oA a, oU] [(.ref a), (.ref a)]))
  obtain ⟨T438, X438, e438, st438⟩ := getF X437 hx hZ hown (host := "") (Or.inl (hw _ (own_m 20 rfl))) Via.refl e437 F431 (g := (mkF m 22 #[oA a, oU] [(.ref a), (.ref a)])) rfl rfl (hb hby d14_22)
  refine up ?_ st438
  show own_G (T438.setTop (mkF m 25 #[oA a, oU] [(.int (1 : Int32)), (.ref a)]))
  refine up ?_ fun t k => XS.iconst X438.here hx rfl (hb hby d14_25) (XS.isub X438.here hx rfl (hb hby d14_26) rfl k)
  show own_G (T438.setTop (mkF m 27 #[oA a, oU] [(.int (0 : Int32)), (.ref a)]))
  obtain ⟨T439, h439, X439, e439, W439, st439⟩ := putF X438 hx hZ hown (host := "") (Or.inl (hw _ (own_m 20 rfl))) Via.refl e438 F431 E_a_c432 (Or.inl (hw _ (own_m 21 rfl))) (hw _ (own_m 3 rfl)) (ty := .int) (by decide) rfl rfl (g := (mkF m 27 #[oA a, oU] [(.int (0 : Int32)), (.ref a)])) rfl rfl (hb hby d14_27)
  refine up ?_ st439
  have E_a_c440 := E_a_c432.wr W439
  have Fw_c440 := Fw_c432.other W439 (Or.inr (slot_ne (Or.inl (hw _ (own_m 14 rfl))) (Or.inl (hw _ (own_m 21 rfl))) (by decide) (t := (.array .long)) (t' := .int) (by decide) (by decide)))
  have Fp_c440 := Fp_c432.other W439 (Or.inr (slot_ne (Or.inl (hw _ (own_m 23 rfl))) (Or.inl (hw _ (own_m 21 rfl))) (by decide) (t := .int) (t' := .int) (by decide) (by decide)))
  have V_c440 := V_c432.other W439 (Ne.symm ne_ar)
  have F439 := F431.same W439
  have N439 := Fr.snoc X439 N437 g_a
  have kq441 := Nat.le_trans kq433 (Keep.of_wr W439).1
  have Zs442 : n0 ≤ h439.size := Nat.le_trans Zs434 (Keep.of_wr W439).1
  show own_G (T439.setTop (mkF m 30 #[oA a, oU] []))
  refine up ?_ fun t k => XS.goto X439.here hx rfl (pc0 := 30) (pc' := 0) rfl (hb hby d14_30) (by decide) (by decide) (XS.aloadN X439.here hx rfl (hb hby d14_0) rfl rfl k)
  show own_G (T439.setTop (mkF m 1 #[oA a, oU] [(.ref a)]))
  obtain ⟨T443, X443, e443, st443⟩ := getF X439 hx hZ hown (host := "") (Or.inl (hw _ (own_m 20 rfl))) Via.refl e439 F439 (g := (mkF m 1 #[oA a, oU] [(.ref a)])) rfl rfl (hb hby d14_1)
  refine up ?_ st443
  show own_G (T443.setTop (mkF m 4 #[oA a, oU] [(.int (0 : Int32))]))
  refine up ?_ fun t k => XS.ifYes X443.here hx rfl (pc0 := 4) (pc' := 33) rfl (hb hby d14_4) rfl ((if0 _ _).trans (flt (by decide : ¬ ((0 : Int32) < (0 : Int32)))).2.2.2) (by decide) (by decide) (XS.iconst X443.here hx rfl (hb hby d14_33) (XS.istoreN X443.here hx rfl (hb hby d14_34) rfl (l' := #[oA a, oI (0 : Int32)]) rfl (XS.iloadN X443.here hx rfl (hb hby d14_35) rfl (XS.aloadN X443.here hx rfl (hb hby d14_36) rfl rfl k))))
  show own_G (T443.setTop (mkF m 37 #[oA a, oI (0 : Int32)] [(.ref a), (.int (0 : Int32))]))
  obtain ⟨T444, X444, e444, st444⟩ := getF X443 hx hZ hown (host := "") (Or.inl (hw _ (own_m 20 rfl))) Via.refl e443 F439 (g := (mkF m 37 #[oA a, oI (0 : Int32)] [(.ref a), (.int (0 : Int32))])) rfl rfl (hb hby d14_37)
  refine up ?_ st444
  show own_G (T444.setTop (mkF m 40 #[oA a, oI (0 : Int32)] [(.int (0 : Int32)), (.int (0 : Int32))]))
  refine up ?_ fun t k => XS.icmpYes X444.here hx rfl (pc0 := 40) (pc' := 60) rfl (hb hby d14_40) rfl (flt (by decide : ¬ ((0 : Int32) < (0 : Int32)))).2.1 (by decide) (by decide) (XS.iloadN X444.here hx rfl (hb hby d14_60) rfl k)
  show own_G (T444.setTop (mkF m 61 #[oA a, oI (0 : Int32)] [(.int (0 : Int32))]))
  refine up ?_ fun t k => XS.ifYes X444.here hx rfl (pc0 := 61) (pc' := 106) rfl (hb hby d14_61) rfl ((if0 _ _).trans (flt (by decide : ¬ ((0 : Int32) < (0 : Int32)))).2.2.2) (by decide) (by decide) (XS.aloadN X444.here hx rfl (hb hby d14_106) rfl rfl k)
  show own_G (T444.setTop (mkF m 107 #[oA a, oI (0 : Int32)] [(.ref a)]))
  obtain ⟨T445, X445, e445, st445⟩ := getF X444 hx hZ hown (host := "") (Or.inl (hw _ (own_m 13 rfl))) Via.refl e444 Fw_c440 (g := (mkF m 107 #[oA a, oI (0 : Int32)] [(.ref a)])) rfl rfl (hb hby d14_107)
  refine up ?_ st445
  show own_G (T445.setTop (mkF m 110 #[oA a, oI (0 : Int32)] [(.ref r)]))
  obtain ⟨cl446, Ar446, qa446, Sa446, Na446, Ha446, Ga446⟩ := id V_c440
  refine up ?_ fun t k => X445.arraylength hx (by rw [e445]; exact Ar446.1) (State.isArrayOf_alike hZ.alike Ar446.2.1) (g := (mkF m 110 #[oA a, oI (0 : Int32)] [(.ref r)])) rfl rfl (hb hby d14_110) _ k
  rw [len_of Sa446 Na446]
  show own_G (T445.setTop (mkF m 111 #[oA a, oI (0 : Int32)] [(.int zc)]))
  refine up ?_ fun t k => XS.iconst X445.here hx rfl (hb hby d14_111) (XS.aloadN X445.here hx rfl (hb hby d14_112) rfl rfl k)
  show own_G (T445.setTop (mkF m 113 #[oA a, oI (0 : Int32)] [(.ref a), (.int (2 : Int32)), (.int zc)]))
  obtain ⟨T447, X447, e447, st447⟩ := getF X445 hx hZ hown (host := "") (Or.inl (hw _ (own_m 20 rfl))) Via.refl e445 F439 (g := (mkF m 113 #[oA a, oI (0 : Int32)] [(.ref a), (.int (2 : Int32)), (.int zc)])) rfl rfl (hb hby d14_113)
  refine up ?_ st447
  show own_G (T447.setTop (mkF m 116 #[oA a, oI (0 : Int32)] [(.int (0 : Int32)), (.int (2 : Int32)), (.int zc)]))
  refine up ?_ fun t k => XS.imul X447.here hx rfl (hb hby d14_116) rfl (XS.bipush X447.here hx rfl (hb hby d14_117) (XS.iadd X447.here hx rfl (hb hby d14_119) rfl k))
  show own_G (T447.setTop (mkF m 120 #[oA a, oI (0 : Int32)] [(.int (8 : Int32)), (.int zc)]))
  refine up ?_ fun t k => XS.icmpYes X447.here hx rfl (pc0 := 120) (pc' := 140) rfl (hb hby d14_120) rfl (flt (fun q => own_big hc (Or.inl q) : ¬ ((8 : Int32) < zc))).2.2.2 (by decide) (by decide) (XS.aloadN X447.here hx rfl (hb hby d14_140) rfl rfl k)
  show own_G (T447.setTop (mkF m 141 #[oA a, oI (0 : Int32)] [(.ref a)]))
  obtain ⟨T448, X448, e448, st448⟩ := getF X447 hx hZ hown (host := "") (Or.inl (hw _ (own_m 20 rfl))) Via.refl e447 F439 (g := (mkF m 141 #[oA a, oI (0 : Int32)] [(.ref a)])) rfl rfl (hb hby d14_141)
  refine up ?_ st448
  show own_G (T448.setTop (mkF m 144 #[oA a, oI (0 : Int32)] [(.int (0 : Int32))]))
  refine up ?_ fun t k => XS.ifYes X448.here hx rfl (pc0 := 144) (pc' := 157) rfl (hb hby d14_144) rfl ((if0 _ _).trans (flt (by decide : ¬ ((0 : Int32) < (0 : Int32)))).2.2.2) (by decide) (by decide) k
  show own_G (T448.setTop (mkF m 157 #[oA a, oI (0 : Int32)] []))
  exact own_retV X448 hx hlk hret (hb hby d14_157) (by rw [e448]; exact ⟨rfl, N439, kq441, ⟨E_a_c440, Fw_c440, F439, Fp_c440, V_c440⟩⟩) (by decide) (by decide)
def own_Q_rmn3a (Z : State) (a : Addr) (r : Addr) (kr : ClassId) (zc : Int32) (pw : Int32) (tl : List Value) (x0 : Int64) (x1 : Int64) (x2 : Int64) (h0 : Heap) (n0 : Nat) (v : Option Value) (h : Heap) (L : List Loc) : Prop := v = none ∧ Fr n0 L ∧ h0.size ≤ h.size ∧ own_O Z h a r kr zc (2 : Int32) pw ((.long x0) :: (.long (own_sg x0)) :: (.long x2) :: tl)
theorem rmn3a (l : Launch) (Z : State) (a0 : Array Value) (hw : own_W Z a0) (ws : List Jvm.Cond) (a : Addr) (r : Addr) (kr : ClassId) (zc : Int32) (pw : Int32) (tl : List Value) (x0 : Int64) (x1 : Int64) (x2 : Int64) (h0 : Heap) (n0 : Nat) (Z0 : n0 ≤ h0.size) (O0 : own_O Z h0 a r kr zc (3 : Int32) pw ((.long x0) :: (.long x1) :: (.long x2) :: tl)) (g_a : n0 ≤ a) (g_r : n0 ≤ r) (hc : own_cap zc tl) (h2 : x2 = own_sg x1) (h1 : x1 = own_sg x0) (hz : ¬ (x0 = (0 : Int64))) :
    own_M l Z (⟨"com/example/eventweir/eventweir/ExactSum", "normalize", "()V"⟩ : MethodName) prog_78_method_12_code 2 none ws ({ frames := 1, cells := 0, slots := 0, locals := 16 } : Room) #[(.ref a)] h0 (own_Q_rmn3a Z a r kr zc pw tl x0 x1 x2 h0 n0) := by
  refine own_body (plainFor_of_name own_pn0) ?_
  intro p e s m below meth c s₁ hx hZ hby hml hown hnm hlk hret X0 e0
  have N0 := Fr.nil n0
  obtain ⟨E_a, Fw, Fl, Fp, V⟩ := O0
  have ne_ar : a ≠ r := E_a.neArv V (hw _ (own_m 3 rfl))
  refine up (U' := s₁.setTop (mkF m 0 #[oA a, oU] [])) ?_ (fun t k => castTop (own_ef_rmn3z m a) k)
  refine up ?_ fun t k => XS.aloadN X0.here hx rfl (hb hby d14_0) rfl rfl k
  show own_G (s₁.setTop (mkF m 1 #[oA a, oU] [(.ref a)]))
  obtain ⟨T449, X449, e449, st449⟩ := getF X0 hx hZ hown (host := "") (Or.inl (hw _ (own_m 20 rfl))) Via.refl e0 Fl (g := (mkF m 1 #[oA a, oU] [(.ref a)])) rfl rfl (hb hby d14_1)
  refine up ?_ st449
  show own_G (T449.setTop (mkF m 4 #[oA a, oU] [(.int (3 : Int32))]))
  refine up ?_ fun t k => XS.ifNo X449.here hx rfl (hb hby d14_4) rfl ((if0 _ _).trans (tlt (by decide : ((0 : Int32) < (3 : Int32)))).2.2.2) (XS.aloadN X449.here hx rfl (hb hby d14_7) rfl rfl (XS.aloadN X449.here hx rfl (hb hby d14_8) rfl rfl k))
  show own_G (T449.setTop (mkF m 9 #[oA a, oU] [(.ref a), (.ref a)]))
  obtain ⟨T450, X450, e450, st450⟩ := getF X449 hx hZ hown (host := "") (Or.inl (hw _ (own_m 20 rfl))) Via.refl e449 Fl (g := (mkF m 9 #[oA a, oU] [(.ref a), (.ref a)])) rfl rfl (hb hby d14_9)
  refine up ?_ st450
  show own_G (T450.setTop (mkF m 12 #[oA a, oU] [(.int (3 : Int32)), (.ref a)]))
  refine up ?_ fun t k => XS.iconst X450.here hx rfl (hb hby d14_12) (XS.isub X450.here hx rfl (hb hby d14_13) rfl k)
  show own_G (T450.setTop (mkF m 14 #[oA a, oU] [(.int (2 : Int32)), (.ref a)]))
  obtain ⟨cq451, q451, q451'⟩ := E_a.cell
  obtain ⟨_, _, ⟨T451, L451, k451, n451⟩, -, X451, ⟨Lc451, hQ451, l451, y451, z451⟩, st451⟩ := X450.privateBack hx (y := (⟨"com/example/eventweir/eventweir/ExactSum", "repeatsSign", "(I)Z"⟩ : MethodName)) hown (mvT hZ (hw _ (own_m 49 rfl))) (mvT hZ (hw _ (own_m 50 rfl))) (own_sel (by decide) (mvT hZ (hw _ (own_m 50 rfl))) (mvP hZ (hw _ (own_m 51 rfl))) (mvT hZ (hw _ (own_m 3 rfl)))) (Cond.privateMethod_at (mvP hZ (hw _ (own_m 51 rfl)) (args := #[]))) (mvT hZ (hw _ (own_m 52 rfl))) (by decide) (backOf (W := 0) (rmrs2 l Z a0 hw [] a r kr zc pw tl x0 x1 x2 (3 : Int32) h0 n0 Z0 ⟨E_a, Fw, Fl, Fp, V⟩ g_a g_r hc ) hZ (hw _ (own_m 52 rfl)) (hw _ (own_m 4 rfl)) (by decide) (by decide)) (g := (mkF m 14 #[oA a, oU] [(.int (2 : Int32)), (.ref a)])) rfl (by rw [hml]; rfl) (Steps.refl _) (a := a) (by rw [e450]; exact q451) q451' (argsL := [(.int (2 : Int32))]) (rest := []) (lenOf own_pd5 rfl) rfl (by show 2 * 0 + _ ≤ _; exact Nat.le_of_eq rfl) (hb hby d14_14) (fun _ _ => ⟨rfl, e450, (by decide : 0 + 0 ≤ _), (by decide : 0 + 0 ≤ _)⟩)
  dsimp only [Pt.U, Pt.locs, Pt.cells, Pt.slots] at X451 l451 y451 z451 st451 hQ451
  subst l451 y451 z451
  obtain ⟨rfl, Nq451, e451⟩ := hQ451
  have N451 := Fr.app N0 Nq451
  refine up ?_ (fun t k => st451.trans k)
  show own_G (T451.setTop (mkF m 17 #[oA a, oU] [(.int (if x2 = own_sg x1 then (1 : Int32) else (0 : Int32)))]))
  refine up ?_ fun t k => XS.ifNo X451.here hx rfl (hb hby d14_17) rfl ((if0 _ _).trans (feq ((by rw [if_pos h2]; decide) : ¬ ((if x2 = own_sg x1 then (1 : Int32) else (0 : Int32)) = (0 : Int32)))).1) (XS.aloadN X451.here hx rfl (hb hby d14_20) rfl rfl (XS.dup X451.here hx rfl (hb hby d14_21) rfl rfl k))
  show own_G (T451.setTop (mkF m 22 #[oA a, oU] [(.ref a), (.ref a)]))
  obtain ⟨T452, X452, e452, st452⟩ := getF X451 hx hZ hown (host := "") (Or.inl (hw _ (own_m 20 rfl))) Via.refl e451 Fl (g := (mkF m 22 #[oA a, oU] [(.ref a), (.ref a)])) rfl rfl (hb hby d14_22)
  refine up ?_ st452
  show own_G (T452.setTop (mkF m 25 #[oA a, oU] [(.int (3 : Int32)), (.ref a)]))
  refine up ?_ fun t k => XS.iconst X452.here hx rfl (hb hby d14_25) (XS.isub X452.here hx rfl (hb hby d14_26) rfl k)
  show own_G (T452.setTop (mkF m 27 #[oA a, oU] [(.int (2 : Int32)), (.ref a)]))
  obtain ⟨T453, h453, X453, e453, W453, st453⟩ := putF X452 hx hZ hown (host := "") (Or.inl (hw _ (own_m 20 rfl))) Via.refl e452 Fl E_a (Or.inl (hw _ (own_m 21 rfl))) (hw _ (own_m 3 rfl)) (ty := .int) (by decide) rfl rfl (g := (mkF m 27 #[oA a, oU] [(.int (2 : Int32)), (.ref a)])) rfl rfl (hb hby d14_27)
  refine up ?_ st453
  have E_a_c454 := E_a.wr W453
  have Fw_c454 := Fw.other W453 (Or.inr (slot_ne (Or.inl (hw _ (own_m 14 rfl))) (Or.inl (hw _ (own_m 21 rfl))) (by decide) (t := (.array .long)) (t' := .int) (by decide) (by decide)))
  have Fp_c454 := Fp.other W453 (Or.inr (slot_ne (Or.inl (hw _ (own_m 23 rfl))) (Or.inl (hw _ (own_m 21 rfl))) (by decide) (t := .int) (t' := .int) (by decide) (by decide)))
  have V_c454 := V.other W453 (Ne.symm ne_ar)
  have F453 := Fl.same W453
  have N453 := Fr.snoc X453 N451 g_a
  have kq455 := Nat.le_trans (Nat.le_refl h0.size) (Keep.of_wr W453).1
  have Zs456 : n0 ≤ h453.size := Nat.le_trans Z0 (Keep.of_wr W453).1
  show own_G (T453.setTop (mkF m 30 #[oA a, oU] []))
  refine up ?_ fun t k => XS.goto X453.here hx rfl (pc0 := 30) (pc' := 0) rfl (hb hby d14_30) (by decide) (by decide) (XS.aloadN X453.here hx rfl (hb hby d14_0) rfl rfl k)
  show own_G (T453.setTop (mkF m 1 #[oA a, oU] [(.ref a)]))
  obtain ⟨T457, X457, e457, st457⟩ := getF X453 hx hZ hown (host := "") (Or.inl (hw _ (own_m 20 rfl))) Via.refl e453 F453 (g := (mkF m 1 #[oA a, oU] [(.ref a)])) rfl rfl (hb hby d14_1)
  refine up ?_ st457
  show own_G (T457.setTop (mkF m 4 #[oA a, oU] [(.int (2 : Int32))]))
  refine up ?_ fun t k => XS.ifNo X457.here hx rfl (hb hby d14_4) rfl ((if0 _ _).trans (tlt (by decide : ((0 : Int32) < (2 : Int32)))).2.2.2) (XS.aloadN X457.here hx rfl (hb hby d14_7) rfl rfl (XS.aloadN X457.here hx rfl (hb hby d14_8) rfl rfl k))
  show own_G (T457.setTop (mkF m 9 #[oA a, oU] [(.ref a), (.ref a)]))
  obtain ⟨T458, X458, e458, st458⟩ := getF X457 hx hZ hown (host := "") (Or.inl (hw _ (own_m 20 rfl))) Via.refl e457 F453 (g := (mkF m 9 #[oA a, oU] [(.ref a), (.ref a)])) rfl rfl (hb hby d14_9)
  refine up ?_ st458
  show own_G (T458.setTop (mkF m 12 #[oA a, oU] [(.int (2 : Int32)), (.ref a)]))
  refine up ?_ fun t k => XS.iconst X458.here hx rfl (hb hby d14_12) (XS.isub X458.here hx rfl (hb hby d14_13) rfl k)
  show own_G (T458.setTop (mkF m 14 #[oA a, oU] [(.int (1 : Int32)), (.ref a)]))
  obtain ⟨cq459, q459, q459'⟩ := E_a_c454.cell
  obtain ⟨_, _, ⟨T459, L459, k459, n459⟩, -, X459, ⟨Lc459, hQ459, l459, y459, z459⟩, st459⟩ := X458.privateBack hx (y := (⟨"com/example/eventweir/eventweir/ExactSum", "repeatsSign", "(I)Z"⟩ : MethodName)) hown (mvT hZ (hw _ (own_m 49 rfl))) (mvT hZ (hw _ (own_m 50 rfl))) (own_sel (by decide) (mvT hZ (hw _ (own_m 50 rfl))) (mvP hZ (hw _ (own_m 51 rfl))) (mvT hZ (hw _ (own_m 3 rfl)))) (Cond.privateMethod_at (mvP hZ (hw _ (own_m 51 rfl)) (args := #[]))) (mvT hZ (hw _ (own_m 52 rfl))) (by decide) (backOf (W := 0) (rmrs1 l Z a0 hw [] a r kr zc pw tl x0 x1 x2 (2 : Int32) h453 n0 Zs456 ⟨E_a_c454, Fw_c454, F453, Fp_c454, V_c454⟩ g_a g_r hc ) hZ (hw _ (own_m 52 rfl)) (hw _ (own_m 4 rfl)) (by decide) (by decide)) (g := (mkF m 14 #[oA a, oU] [(.int (1 : Int32)), (.ref a)])) rfl (by rw [hml]; rfl) (Steps.refl _) (a := a) (by rw [e458]; exact q459) q459' (argsL := [(.int (1 : Int32))]) (rest := []) (lenOf own_pd5 rfl) rfl (by show 2 * 0 + _ ≤ _; exact Nat.le_of_eq rfl) (hb hby d14_14) (fun _ _ => ⟨rfl, e458, (by decide : 0 + 0 ≤ _), (by decide : 0 + 0 ≤ _)⟩)
  dsimp only [Pt.U, Pt.locs, Pt.cells, Pt.slots] at X459 l459 y459 z459 st459 hQ459
  subst l459 y459 z459
  obtain ⟨rfl, Nq459, e459⟩ := hQ459
  have N459 := Fr.app N453 Nq459
  refine up ?_ (fun t k => st459.trans k)
  show own_G (T459.setTop (mkF m 17 #[oA a, oU] [(.int (if x1 = own_sg x0 then (1 : Int32) else (0 : Int32)))]))
  refine up ?_ fun t k => XS.ifNo X459.here hx rfl (hb hby d14_17) rfl ((if0 _ _).trans (feq ((by rw [if_pos h1]; decide) : ¬ ((if x1 = own_sg x0 then (1 : Int32) else (0 : Int32)) = (0 : Int32)))).1) (XS.aloadN X459.here hx rfl (hb hby d14_20) rfl rfl (XS.dup X459.here hx rfl (hb hby d14_21) rfl rfl k))
  show own_G (T459.setTop (mkF m 22 #[oA a, oU] [(.ref a), (.ref a)]))
  obtain ⟨T460, X460, e460, st460⟩ := getF X459 hx hZ hown (host := "") (Or.inl (hw _ (own_m 20 rfl))) Via.refl e459 F453 (g := (mkF m 22 #[oA a, oU] [(.ref a), (.ref a)])) rfl rfl (hb hby d14_22)
  refine up ?_ st460
  show own_G (T460.setTop (mkF m 25 #[oA a, oU] [(.int (2 : Int32)), (.ref a)]))
  refine up ?_ fun t k => XS.iconst X460.here hx rfl (hb hby d14_25) (XS.isub X460.here hx rfl (hb hby d14_26) rfl k)
  show own_G (T460.setTop (mkF m 27 #[oA a, oU] [(.int (1 : Int32)), (.ref a)]))
  obtain ⟨T461, h461, X461, e461, W461, st461⟩ := putF X460 hx hZ hown (host := "") (Or.inl (hw _ (own_m 20 rfl))) Via.refl e460 F453 E_a_c454 (Or.inl (hw _ (own_m 21 rfl))) (hw _ (own_m 3 rfl)) (ty := .int) (by decide) rfl rfl (g := (mkF m 27 #[oA a, oU] [(.int (1 : Int32)), (.ref a)])) rfl rfl (hb hby d14_27)
  refine up ?_ st461
  have E_a_c462 := E_a_c454.wr W461
  have Fw_c462 := Fw_c454.other W461 (Or.inr (slot_ne (Or.inl (hw _ (own_m 14 rfl))) (Or.inl (hw _ (own_m 21 rfl))) (by decide) (t := (.array .long)) (t' := .int) (by decide) (by decide)))
  have Fp_c462 := Fp_c454.other W461 (Or.inr (slot_ne (Or.inl (hw _ (own_m 23 rfl))) (Or.inl (hw _ (own_m 21 rfl))) (by decide) (t := .int) (t' := .int) (by decide) (by decide)))
  have V_c462 := V_c454.other W461 (Ne.symm ne_ar)
  have F461 := F453.same W461
  have N461 := Fr.snoc X461 N459 g_a
  have kq463 := Nat.le_trans kq455 (Keep.of_wr W461).1
  have Zs464 : n0 ≤ h461.size := Nat.le_trans Zs456 (Keep.of_wr W461).1
  show own_G (T461.setTop (mkF m 30 #[oA a, oU] []))
  refine up ?_ fun t k => XS.goto X461.here hx rfl (pc0 := 30) (pc' := 0) rfl (hb hby d14_30) (by decide) (by decide) (XS.aloadN X461.here hx rfl (hb hby d14_0) rfl rfl k)
  show own_G (T461.setTop (mkF m 1 #[oA a, oU] [(.ref a)]))
  obtain ⟨T465, X465, e465, st465⟩ := getF X461 hx hZ hown (host := "") (Or.inl (hw _ (own_m 20 rfl))) Via.refl e461 F461 (g := (mkF m 1 #[oA a, oU] [(.ref a)])) rfl rfl (hb hby d14_1)
  refine up ?_ st465
  show own_G (T465.setTop (mkF m 4 #[oA a, oU] [(.int (1 : Int32))]))
  refine up ?_ fun t k => XS.ifNo X465.here hx rfl (hb hby d14_4) rfl ((if0 _ _).trans (tlt (by decide : ((0 : Int32) < (1 : Int32)))).2.2.2) (XS.aloadN X465.here hx rfl (hb hby d14_7) rfl rfl (XS.aloadN X465.here hx rfl (hb hby d14_8) rfl rfl k))
  show own_G (T465.setTop (mkF m 9 #[oA a, oU] [(.ref a), (.ref a)]))
  obtain ⟨T466, X466, e466, st466⟩ := getF X465 hx hZ hown (host := "") (Or.inl (hw _ (own_m 20 rfl))) Via.refl e465 F461 (g := (mkF m 9 #[oA a, oU] [(.ref a), (.ref a)])) rfl rfl (hb hby d14_9)
  refine up ?_ st466
  show own_G (T466.setTop (mkF m 12 #[oA a, oU] [(.int (1 : Int32)), (.ref a)]))
  refine up ?_ fun t k => XS.iconst X466.here hx rfl (hb hby d14_12) (XS.isub X466.here hx rfl (hb hby d14_13) rfl k)
  show own_G (T466.setTop (mkF m 14 #[oA a, oU] [(.int (0 : Int32)), (.ref a)]))
  obtain ⟨cq467, q467, q467'⟩ := E_a_c462.cell
  obtain ⟨_, _, ⟨T467, L467, k467, n467⟩, -, X467, ⟨Lc467, hQ467, l467, y467, z467⟩, st467⟩ := X466.privateBack hx (y := (⟨"com/example/eventweir/eventweir/ExactSum", "repeatsSign", "(I)Z"⟩ : MethodName)) hown (mvT hZ (hw _ (own_m 49 rfl))) (mvT hZ (hw _ (own_m 50 rfl))) (own_sel (by decide) (mvT hZ (hw _ (own_m 50 rfl))) (mvP hZ (hw _ (own_m 51 rfl))) (mvT hZ (hw _ (own_m 3 rfl)))) (Cond.privateMethod_at (mvP hZ (hw _ (own_m 51 rfl)) (args := #[]))) (mvT hZ (hw _ (own_m 52 rfl))) (by decide) (backOf (W := 0) (rmrs0 l Z a0 hw [] a r kr zc pw tl x0 x1 x2 (1 : Int32) h461 n0 Zs464 ⟨E_a_c462, Fw_c462, F461, Fp_c462, V_c462⟩ g_a g_r hc ) hZ (hw _ (own_m 52 rfl)) (hw _ (own_m 4 rfl)) (by decide) (by decide)) (g := (mkF m 14 #[oA a, oU] [(.int (0 : Int32)), (.ref a)])) rfl (by rw [hml]; rfl) (Steps.refl _) (a := a) (by rw [e466]; exact q467) q467' (argsL := [(.int (0 : Int32))]) (rest := []) (lenOf own_pd5 rfl) rfl (by show 2 * 0 + _ ≤ _; exact Nat.le_of_eq rfl) (hb hby d14_14) (fun _ _ => ⟨rfl, e466, (by decide : 0 + 0 ≤ _), (by decide : 0 + 0 ≤ _)⟩)
  dsimp only [Pt.U, Pt.locs, Pt.cells, Pt.slots] at X467 l467 y467 z467 st467 hQ467
  subst l467 y467 z467
  obtain ⟨rfl, Nq467, e467⟩ := hQ467
  have N467 := Fr.app N461 Nq467
  refine up ?_ (fun t k => st467.trans k)
  show own_G (T467.setTop (mkF m 17 #[oA a, oU] [(.int (if x0 = (0 : Int64) then (1 : Int32) else (0 : Int32)))]))
  refine up ?_ fun t k => XS.ifYes X467.here hx rfl (pc0 := 17) (pc' := 33) rfl (hb hby d14_17) rfl ((if0 _ _).trans (teq ((by rw [if_neg hz]) : ((if x0 = (0 : Int64) then (1 : Int32) else (0 : Int32)) = (0 : Int32)))).1) (by decide) (by decide) (XS.iconst X467.here hx rfl (hb hby d14_33) (XS.istoreN X467.here hx rfl (hb hby d14_34) rfl (l' := #[oA a, oI (0 : Int32)]) rfl (XS.iloadN X467.here hx rfl (hb hby d14_35) rfl (XS.aloadN X467.here hx rfl (hb hby d14_36) rfl rfl k))))
  show own_G (T467.setTop (mkF m 37 #[oA a, oI (0 : Int32)] [(.ref a), (.int (0 : Int32))]))
  obtain ⟨T468, X468, e468, st468⟩ := getF X467 hx hZ hown (host := "") (Or.inl (hw _ (own_m 20 rfl))) Via.refl e467 F461 (g := (mkF m 37 #[oA a, oI (0 : Int32)] [(.ref a), (.int (0 : Int32))])) rfl rfl (hb hby d14_37)
  refine up ?_ st468
  show own_G (T468.setTop (mkF m 40 #[oA a, oI (0 : Int32)] [(.int (1 : Int32)), (.int (0 : Int32))]))
  refine up ?_ fun t k => XS.icmpNo X468.here hx rfl (hb hby d14_40) rfl (tlt (by decide : ((0 : Int32) < (1 : Int32)))).2.1 (XS.aloadN X468.here hx rfl (hb hby d14_43) rfl rfl k)
  show own_G (T468.setTop (mkF m 44 #[oA a, oI (0 : Int32)] [(.ref a)]))
  obtain ⟨T469, X469, e469, st469⟩ := getF X468 hx hZ hown (host := "") (Or.inl (hw _ (own_m 13 rfl))) Via.refl e468 Fw_c462 (g := (mkF m 44 #[oA a, oI (0 : Int32)] [(.ref a)])) rfl rfl (hb hby d14_44)
  refine up ?_ st469
  show own_G (T469.setTop (mkF m 47 #[oA a, oI (0 : Int32)] [(.ref r)]))
  refine up ?_ fun t k => XS.iloadN X469.here hx rfl (hb hby d14_47) rfl k
  show own_G (T469.setTop (mkF m 48 #[oA a, oI (0 : Int32)] [(.int (0 : Int32)), (.ref r)]))
  obtain ⟨cl470, Ar470, qa470, Sa470, Na470, Ha470, Ga470⟩ := id V_c462
  have hin470 : ¬ ((0 : Int32) < 0 ∨ cl470.slots.size ≤ ((0 : Int32)).toNatClampNeg) := inb_of Sa470 ⟨by decide, own_i0 hc⟩
  refine up ?_ fun t k => X469.laload hx (j := (0 : Int32)) (v := (.long x0)) (by rw [e469]; exact Ar470.1) (State.isArrayOf_alike hZ.alike Ar470.2.1) Ar470.2.2 hin470 (Ha470.at hin470 rfl) (g := (mkF m 48 #[oA a, oI (0 : Int32)] [(.int (0 : Int32)), (.ref r)])) rfl rfl (hb hby d14_48) _ (XS.lconst X469.here hx rfl (hb hby d14_49) (XS.lcmp X469.here hx rfl (hb hby d14_50) rfl k))
  show own_G (T469.setTop (mkF m 51 #[oA a, oI (0 : Int32)] [(.int (lcmpW x0 (0 : Int64)))]))
  refine up ?_ fun t k => XS.ifYes X469.here hx rfl (pc0 := 51) (pc' := 60) rfl (hb hby d14_51) rfl ((if0 _ _).trans (feq (fun q => (hz : ¬ (x0 = (0 : Int64))) ((lw_eq _ _).mp q))).2) (by decide) (by decide) (XS.iloadN X469.here hx rfl (hb hby d14_60) rfl k)
  show own_G (T469.setTop (mkF m 61 #[oA a, oI (0 : Int32)] [(.int (0 : Int32))]))
  refine up ?_ fun t k => XS.ifYes X469.here hx rfl (pc0 := 61) (pc' := 106) rfl (hb hby d14_61) rfl ((if0 _ _).trans (flt (by decide : ¬ ((0 : Int32) < (0 : Int32)))).2.2.2) (by decide) (by decide) (XS.aloadN X469.here hx rfl (hb hby d14_106) rfl rfl k)
  show own_G (T469.setTop (mkF m 107 #[oA a, oI (0 : Int32)] [(.ref a)]))
  obtain ⟨T471, X471, e471, st471⟩ := getF X469 hx hZ hown (host := "") (Or.inl (hw _ (own_m 13 rfl))) Via.refl e469 Fw_c462 (g := (mkF m 107 #[oA a, oI (0 : Int32)] [(.ref a)])) rfl rfl (hb hby d14_107)
  refine up ?_ st471
  show own_G (T471.setTop (mkF m 110 #[oA a, oI (0 : Int32)] [(.ref r)]))
  obtain ⟨cl472, Ar472, qa472, Sa472, Na472, Ha472, Ga472⟩ := id V_c462
  refine up ?_ fun t k => X471.arraylength hx (by rw [e471]; exact Ar472.1) (State.isArrayOf_alike hZ.alike Ar472.2.1) (g := (mkF m 110 #[oA a, oI (0 : Int32)] [(.ref r)])) rfl rfl (hb hby d14_110) _ k
  rw [len_of Sa472 Na472]
  show own_G (T471.setTop (mkF m 111 #[oA a, oI (0 : Int32)] [(.int zc)]))
  refine up ?_ fun t k => XS.iconst X471.here hx rfl (hb hby d14_111) (XS.aloadN X471.here hx rfl (hb hby d14_112) rfl rfl k)
  show own_G (T471.setTop (mkF m 113 #[oA a, oI (0 : Int32)] [(.ref a), (.int (2 : Int32)), (.int zc)]))
  obtain ⟨T473, X473, e473, st473⟩ := getF X471 hx hZ hown (host := "") (Or.inl (hw _ (own_m 20 rfl))) Via.refl e471 F461 (g := (mkF m 113 #[oA a, oI (0 : Int32)] [(.ref a), (.int (2 : Int32)), (.int zc)])) rfl rfl (hb hby d14_113)
  refine up ?_ st473
  show own_G (T473.setTop (mkF m 116 #[oA a, oI (0 : Int32)] [(.int (1 : Int32)), (.int (2 : Int32)), (.int zc)]))
  refine up ?_ fun t k => XS.imul X473.here hx rfl (hb hby d14_116) rfl (XS.bipush X473.here hx rfl (hb hby d14_117) (XS.iadd X473.here hx rfl (hb hby d14_119) rfl k))
  show own_G (T473.setTop (mkF m 120 #[oA a, oI (0 : Int32)] [(.int (10 : Int32)), (.int zc)]))
  refine up ?_ fun t k => XS.icmpYes X473.here hx rfl (pc0 := 120) (pc' := 140) rfl (hb hby d14_120) rfl (flt (fun q => own_big hc (Or.inr (Or.inl q)) : ¬ ((10 : Int32) < zc))).2.2.2 (by decide) (by decide) (XS.aloadN X473.here hx rfl (hb hby d14_140) rfl rfl k)
  show own_G (T473.setTop (mkF m 141 #[oA a, oI (0 : Int32)] [(.ref a)]))
  obtain ⟨T474, X474, e474, st474⟩ := getF X473 hx hZ hown (host := "") (Or.inl (hw _ (own_m 20 rfl))) Via.refl e473 F461 (g := (mkF m 141 #[oA a, oI (0 : Int32)] [(.ref a)])) rfl rfl (hb hby d14_141)
  refine up ?_ st474
  show own_G (T474.setTop (mkF m 144 #[oA a, oI (0 : Int32)] [(.int (1 : Int32))]))
  refine up ?_ fun t k => XS.ifNo X474.here hx rfl (hb hby d14_144) rfl ((if0 _ _).trans (tlt (by decide : ((0 : Int32) < (1 : Int32)))).2.2.2) (XS.aloadN X474.here hx rfl (hb hby d14_147) rfl rfl (XS.aloadN X474.here hx rfl (hb hby d14_148) rfl rfl k))
  show own_G (T474.setTop (mkF m 149 #[oA a, oI (0 : Int32)] [(.ref a), (.ref a)]))
  obtain ⟨T475, X475, e475, st475⟩ := getF X474 hx hZ hown (host := "") (Or.inl (hw _ (own_m 20 rfl))) Via.refl e474 F461 (g := (mkF m 149 #[oA a, oI (0 : Int32)] [(.ref a), (.ref a)])) rfl rfl (hb hby d14_149)
  refine up ?_ st475
  show own_G (T475.setTop (mkF m 152 #[oA a, oI (0 : Int32)] [(.int (1 : Int32)), (.ref a)]))
  refine up ?_ fun t k => XS.iconst X475.here hx rfl (hb hby d14_152) (XS.iadd X475.here hx rfl (hb hby d14_153) rfl k)
  show own_G (T475.setTop (mkF m 154 #[oA a, oI (0 : Int32)] [(.int (2 : Int32)), (.ref a)]))
  obtain ⟨cq476, q476, q476'⟩ := E_a_c462.cell
  obtain ⟨_, _, ⟨T476, L476, k476, n476⟩, -, X476, ⟨Lc476, hQ476, l476, y476, z476⟩, st476⟩ := X475.privateBack hx (y := (⟨"com/example/eventweir/eventweir/ExactSum", "widen", "(I)V"⟩ : MethodName)) hown (mvT hZ (hw _ (own_m 24 rfl))) (mvT hZ (hw _ (own_m 25 rfl))) (own_sel (by decide) (mvT hZ (hw _ (own_m 25 rfl))) (mvP hZ (hw _ (own_m 26 rfl))) (mvT hZ (hw _ (own_m 3 rfl)))) (Cond.privateMethod_at (mvP hZ (hw _ (own_m 26 rfl)) (args := #[]))) (mvT hZ (hw _ (own_m 27 rfl))) (by decide) (backOf (W := 0) (rmw12 l Z a0 hw [] a r kr zc pw tl x0 x1 x2 h461 n0 Zs464 ⟨E_a_c462, Fw_c462, F461, Fp_c462, V_c462⟩ g_a g_r hc ) hZ (hw _ (own_m 27 rfl)) (hw _ (own_m 4 rfl)) (by decide) (by decide)) (g := (mkF m 154 #[oA a, oI (0 : Int32)] [(.int (2 : Int32)), (.ref a)])) rfl (by rw [hml]; rfl) (Steps.refl _) (a := a) (by rw [e475]; exact q476) q476' (argsL := [(.int (2 : Int32))]) (rest := []) (lenOf own_pd6 rfl) rfl (by show 2 * 0 + _ ≤ _; exact Nat.le_of_eq rfl) (hb hby d14_154) (fun _ _ => ⟨rfl, e475, (by decide : 0 + 0 ≤ _), (by decide : 0 + 0 ≤ _)⟩)
  dsimp only [Pt.U, Pt.locs, Pt.cells, Pt.slots] at X476 l476 y476 z476 st476 hQ476
  subst l476 y476 z476
  obtain ⟨rfl, Nq476, hsq476, Eq476, Fwq476, Flq476, Fpq476, Vq476⟩ := hQ476
  have N476 := Fr.app N467 Nq476
  have kq477 := Nat.le_trans kq463 hsq476
  have Zs478 : n0 ≤ T476.heap.size := Nat.le_trans Zs464 hsq476
  refine up ?_ (fun t k => st476.trans k)
  show own_G (T476.setTop (mkF m 157 #[oA a, oI (0 : Int32)] []))
  exact own_retV X476 hx hlk hret (hb hby d14_157) ⟨rfl, N476, kq477, ⟨Eq476, Fwq476, Flq476, Fpq476, Vq476⟩⟩ (by decide) (by decide)
def own_Q_rmn3b (Z : State) (a : Addr) (r : Addr) (kr : ClassId) (zc : Int32) (pw : Int32) (tl : List Value) (x0 : Int64) (x1 : Int64) (x2 : Int64) (h0 : Heap) (n0 : Nat) (v : Option Value) (h : Heap) (L : List Loc) : Prop := v = none ∧ Fr n0 L ∧ h0.size ≤ h.size ∧ own_O Z h a r kr zc (2 : Int32) (pw + (64 : Int32)) ((.long x1) :: (.long (own_sg x1)) :: (.long x2) :: tl)
theorem rmn3b (l : Launch) (Z : State) (a0 : Array Value) (hw : own_W Z a0) (ws : List Jvm.Cond) (a : Addr) (r : Addr) (kr : ClassId) (zc : Int32) (pw : Int32) (tl : List Value) (x0 : Int64) (x1 : Int64) (x2 : Int64) (h0 : Heap) (n0 : Nat) (Z0 : n0 ≤ h0.size) (O0 : own_O Z h0 a r kr zc (3 : Int32) pw ((.long x0) :: (.long x1) :: (.long x2) :: tl)) (g_a : n0 ≤ a) (g_r : n0 ≤ r) (hc : own_cap zc tl) (h2 : x2 = own_sg x1) (h1 : ¬ (x1 = own_sg x0)) (hz : x0 = (0 : Int64)) (hx1 : ¬ (x1 = (0 : Int64))) :
    own_M l Z (⟨"com/example/eventweir/eventweir/ExactSum", "normalize", "()V"⟩ : MethodName) prog_78_method_12_code 2 none ws ({ frames := 1, cells := 0, slots := 0, locals := 18 } : Room) #[(.ref a)] h0 (own_Q_rmn3b Z a r kr zc pw tl x0 x1 x2 h0 n0) := by
  refine own_body (plainFor_of_name own_pn0) ?_
  intro p e s m below meth c s₁ hx hZ hby hml hown hnm hlk hret X0 e0
  have N0 := Fr.nil n0
  obtain ⟨E_a, Fw, Fl, Fp, V⟩ := O0
  have ne_ar : a ≠ r := E_a.neArv V (hw _ (own_m 3 rfl))
  refine up (U' := s₁.setTop (mkF m 0 #[oA a, oU] [])) ?_ (fun t k => castTop (own_ef_rmn3z m a) k)
  refine up ?_ fun t k => XS.aloadN X0.here hx rfl (hb hby d14_0) rfl rfl k
  show own_G (s₁.setTop (mkF m 1 #[oA a, oU] [(.ref a)]))
  obtain ⟨T479, X479, e479, st479⟩ := getF X0 hx hZ hown (host := "") (Or.inl (hw _ (own_m 20 rfl))) Via.refl e0 Fl (g := (mkF m 1 #[oA a, oU] [(.ref a)])) rfl rfl (hb hby d14_1)
  refine up ?_ st479
  show own_G (T479.setTop (mkF m 4 #[oA a, oU] [(.int (3 : Int32))]))
  refine up ?_ fun t k => XS.ifNo X479.here hx rfl (hb hby d14_4) rfl ((if0 _ _).trans (tlt (by decide : ((0 : Int32) < (3 : Int32)))).2.2.2) (XS.aloadN X479.here hx rfl (hb hby d14_7) rfl rfl (XS.aloadN X479.here hx rfl (hb hby d14_8) rfl rfl k))
  show own_G (T479.setTop (mkF m 9 #[oA a, oU] [(.ref a), (.ref a)]))
  obtain ⟨T480, X480, e480, st480⟩ := getF X479 hx hZ hown (host := "") (Or.inl (hw _ (own_m 20 rfl))) Via.refl e479 Fl (g := (mkF m 9 #[oA a, oU] [(.ref a), (.ref a)])) rfl rfl (hb hby d14_9)
  refine up ?_ st480
  show own_G (T480.setTop (mkF m 12 #[oA a, oU] [(.int (3 : Int32)), (.ref a)]))
  refine up ?_ fun t k => XS.iconst X480.here hx rfl (hb hby d14_12) (XS.isub X480.here hx rfl (hb hby d14_13) rfl k)
  show own_G (T480.setTop (mkF m 14 #[oA a, oU] [(.int (2 : Int32)), (.ref a)]))
  obtain ⟨cq481, q481, q481'⟩ := E_a.cell
  obtain ⟨_, _, ⟨T481, L481, k481, n481⟩, -, X481, ⟨Lc481, hQ481, l481, y481, z481⟩, st481⟩ := X480.privateBack hx (y := (⟨"com/example/eventweir/eventweir/ExactSum", "repeatsSign", "(I)Z"⟩ : MethodName)) hown (mvT hZ (hw _ (own_m 49 rfl))) (mvT hZ (hw _ (own_m 50 rfl))) (own_sel (by decide) (mvT hZ (hw _ (own_m 50 rfl))) (mvP hZ (hw _ (own_m 51 rfl))) (mvT hZ (hw _ (own_m 3 rfl)))) (Cond.privateMethod_at (mvP hZ (hw _ (own_m 51 rfl)) (args := #[]))) (mvT hZ (hw _ (own_m 52 rfl))) (by decide) (backOf (W := 0) (rmrs2 l Z a0 hw [] a r kr zc pw tl x0 x1 x2 (3 : Int32) h0 n0 Z0 ⟨E_a, Fw, Fl, Fp, V⟩ g_a g_r hc ) hZ (hw _ (own_m 52 rfl)) (hw _ (own_m 4 rfl)) (by decide) (by decide)) (g := (mkF m 14 #[oA a, oU] [(.int (2 : Int32)), (.ref a)])) rfl (by rw [hml]; rfl) (Steps.refl _) (a := a) (by rw [e480]; exact q481) q481' (argsL := [(.int (2 : Int32))]) (rest := []) (lenOf own_pd5 rfl) rfl (by show 2 * 0 + _ ≤ _; exact Nat.le_of_eq rfl) (hb hby d14_14) (fun _ _ => ⟨rfl, e480, (by decide : 0 + 0 ≤ _), (by decide : 0 + 0 ≤ _)⟩)
  dsimp only [Pt.U, Pt.locs, Pt.cells, Pt.slots] at X481 l481 y481 z481 st481 hQ481
  subst l481 y481 z481
  obtain ⟨rfl, Nq481, e481⟩ := hQ481
  have N481 := Fr.app N0 Nq481
  refine up ?_ (fun t k => st481.trans k)
  show own_G (T481.setTop (mkF m 17 #[oA a, oU] [(.int (if x2 = own_sg x1 then (1 : Int32) else (0 : Int32)))]))
  refine up ?_ fun t k => XS.ifNo X481.here hx rfl (hb hby d14_17) rfl ((if0 _ _).trans (feq ((by rw [if_pos h2]; decide) : ¬ ((if x2 = own_sg x1 then (1 : Int32) else (0 : Int32)) = (0 : Int32)))).1) (XS.aloadN X481.here hx rfl (hb hby d14_20) rfl rfl (XS.dup X481.here hx rfl (hb hby d14_21) rfl rfl k))
  show own_G (T481.setTop (mkF m 22 #[oA a, oU] [(.ref a), (.ref a)]))
  obtain ⟨T482, X482, e482, st482⟩ := getF X481 hx hZ hown (host := "") (Or.inl (hw _ (own_m 20 rfl))) Via.refl e481 Fl (g := (mkF m 22 #[oA a, oU] [(.ref a), (.ref a)])) rfl rfl (hb hby d14_22)
  refine up ?_ st482
  show own_G (T482.setTop (mkF m 25 #[oA a, oU] [(.int (3 : Int32)), (.ref a)]))
  refine up ?_ fun t k => XS.iconst X482.here hx rfl (hb hby d14_25) (XS.isub X482.here hx rfl (hb hby d14_26) rfl k)
  show own_G (T482.setTop (mkF m 27 #[oA a, oU] [(.int (2 : Int32)), (.ref a)]))
  obtain ⟨T483, h483, X483, e483, W483, st483⟩ := putF X482 hx hZ hown (host := "") (Or.inl (hw _ (own_m 20 rfl))) Via.refl e482 Fl E_a (Or.inl (hw _ (own_m 21 rfl))) (hw _ (own_m 3 rfl)) (ty := .int) (by decide) rfl rfl (g := (mkF m 27 #[oA a, oU] [(.int (2 : Int32)), (.ref a)])) rfl rfl (hb hby d14_27)
  refine up ?_ st483
  have E_a_c484 := E_a.wr W483
  have Fw_c484 := Fw.other W483 (Or.inr (slot_ne (Or.inl (hw _ (own_m 14 rfl))) (Or.inl (hw _ (own_m 21 rfl))) (by decide) (t := (.array .long)) (t' := .int) (by decide) (by decide)))
  have Fp_c484 := Fp.other W483 (Or.inr (slot_ne (Or.inl (hw _ (own_m 23 rfl))) (Or.inl (hw _ (own_m 21 rfl))) (by decide) (t := .int) (t' := .int) (by decide) (by decide)))
  have V_c484 := V.other W483 (Ne.symm ne_ar)
  have F483 := Fl.same W483
  have N483 := Fr.snoc X483 N481 g_a
  have kq485 := Nat.le_trans (Nat.le_refl h0.size) (Keep.of_wr W483).1
  have Zs486 : n0 ≤ h483.size := Nat.le_trans Z0 (Keep.of_wr W483).1
  show own_G (T483.setTop (mkF m 30 #[oA a, oU] []))
  refine up ?_ fun t k => XS.goto X483.here hx rfl (pc0 := 30) (pc' := 0) rfl (hb hby d14_30) (by decide) (by decide) (XS.aloadN X483.here hx rfl (hb hby d14_0) rfl rfl k)
  show own_G (T483.setTop (mkF m 1 #[oA a, oU] [(.ref a)]))
  obtain ⟨T487, X487, e487, st487⟩ := getF X483 hx hZ hown (host := "") (Or.inl (hw _ (own_m 20 rfl))) Via.refl e483 F483 (g := (mkF m 1 #[oA a, oU] [(.ref a)])) rfl rfl (hb hby d14_1)
  refine up ?_ st487
  show own_G (T487.setTop (mkF m 4 #[oA a, oU] [(.int (2 : Int32))]))
  refine up ?_ fun t k => XS.ifNo X487.here hx rfl (hb hby d14_4) rfl ((if0 _ _).trans (tlt (by decide : ((0 : Int32) < (2 : Int32)))).2.2.2) (XS.aloadN X487.here hx rfl (hb hby d14_7) rfl rfl (XS.aloadN X487.here hx rfl (hb hby d14_8) rfl rfl k))
  show own_G (T487.setTop (mkF m 9 #[oA a, oU] [(.ref a), (.ref a)]))
  obtain ⟨T488, X488, e488, st488⟩ := getF X487 hx hZ hown (host := "") (Or.inl (hw _ (own_m 20 rfl))) Via.refl e487 F483 (g := (mkF m 9 #[oA a, oU] [(.ref a), (.ref a)])) rfl rfl (hb hby d14_9)
  refine up ?_ st488
  show own_G (T488.setTop (mkF m 12 #[oA a, oU] [(.int (2 : Int32)), (.ref a)]))
  refine up ?_ fun t k => XS.iconst X488.here hx rfl (hb hby d14_12) (XS.isub X488.here hx rfl (hb hby d14_13) rfl k)
  show own_G (T488.setTop (mkF m 14 #[oA a, oU] [(.int (1 : Int32)), (.ref a)]))
  obtain ⟨cq489, q489, q489'⟩ := E_a_c484.cell
  obtain ⟨_, _, ⟨T489, L489, k489, n489⟩, -, X489, ⟨Lc489, hQ489, l489, y489, z489⟩, st489⟩ := X488.privateBack hx (y := (⟨"com/example/eventweir/eventweir/ExactSum", "repeatsSign", "(I)Z"⟩ : MethodName)) hown (mvT hZ (hw _ (own_m 49 rfl))) (mvT hZ (hw _ (own_m 50 rfl))) (own_sel (by decide) (mvT hZ (hw _ (own_m 50 rfl))) (mvP hZ (hw _ (own_m 51 rfl))) (mvT hZ (hw _ (own_m 3 rfl)))) (Cond.privateMethod_at (mvP hZ (hw _ (own_m 51 rfl)) (args := #[]))) (mvT hZ (hw _ (own_m 52 rfl))) (by decide) (backOf (W := 0) (rmrs1 l Z a0 hw [] a r kr zc pw tl x0 x1 x2 (2 : Int32) h483 n0 Zs486 ⟨E_a_c484, Fw_c484, F483, Fp_c484, V_c484⟩ g_a g_r hc ) hZ (hw _ (own_m 52 rfl)) (hw _ (own_m 4 rfl)) (by decide) (by decide)) (g := (mkF m 14 #[oA a, oU] [(.int (1 : Int32)), (.ref a)])) rfl (by rw [hml]; rfl) (Steps.refl _) (a := a) (by rw [e488]; exact q489) q489' (argsL := [(.int (1 : Int32))]) (rest := []) (lenOf own_pd5 rfl) rfl (by show 2 * 0 + _ ≤ _; exact Nat.le_of_eq rfl) (hb hby d14_14) (fun _ _ => ⟨rfl, e488, (by decide : 0 + 0 ≤ _), (by decide : 0 + 0 ≤ _)⟩)
  dsimp only [Pt.U, Pt.locs, Pt.cells, Pt.slots] at X489 l489 y489 z489 st489 hQ489
  subst l489 y489 z489
  obtain ⟨rfl, Nq489, e489⟩ := hQ489
  have N489 := Fr.app N483 Nq489
  refine up ?_ (fun t k => st489.trans k)
  show own_G (T489.setTop (mkF m 17 #[oA a, oU] [(.int (if x1 = own_sg x0 then (1 : Int32) else (0 : Int32)))]))
  refine up ?_ fun t k => XS.ifYes X489.here hx rfl (pc0 := 17) (pc' := 33) rfl (hb hby d14_17) rfl ((if0 _ _).trans (teq ((by rw [if_neg h1]) : ((if x1 = own_sg x0 then (1 : Int32) else (0 : Int32)) = (0 : Int32)))).1) (by decide) (by decide) (XS.iconst X489.here hx rfl (hb hby d14_33) (XS.istoreN X489.here hx rfl (hb hby d14_34) rfl (l' := #[oA a, oI (0 : Int32)]) rfl (XS.iloadN X489.here hx rfl (hb hby d14_35) rfl (XS.aloadN X489.here hx rfl (hb hby d14_36) rfl rfl k))))
  show own_G (T489.setTop (mkF m 37 #[oA a, oI (0 : Int32)] [(.ref a), (.int (0 : Int32))]))
  obtain ⟨T490, X490, e490, st490⟩ := getF X489 hx hZ hown (host := "") (Or.inl (hw _ (own_m 20 rfl))) Via.refl e489 F483 (g := (mkF m 37 #[oA a, oI (0 : Int32)] [(.ref a), (.int (0 : Int32))])) rfl rfl (hb hby d14_37)
  refine up ?_ st490
  show own_G (T490.setTop (mkF m 40 #[oA a, oI (0 : Int32)] [(.int (2 : Int32)), (.int (0 : Int32))]))
  refine up ?_ fun t k => XS.icmpNo X490.here hx rfl (hb hby d14_40) rfl (tlt (by decide : ((0 : Int32) < (2 : Int32)))).2.1 (XS.aloadN X490.here hx rfl (hb hby d14_43) rfl rfl k)
  show own_G (T490.setTop (mkF m 44 #[oA a, oI (0 : Int32)] [(.ref a)]))
  obtain ⟨T491, X491, e491, st491⟩ := getF X490 hx hZ hown (host := "") (Or.inl (hw _ (own_m 13 rfl))) Via.refl e490 Fw_c484 (g := (mkF m 44 #[oA a, oI (0 : Int32)] [(.ref a)])) rfl rfl (hb hby d14_44)
  refine up ?_ st491
  show own_G (T491.setTop (mkF m 47 #[oA a, oI (0 : Int32)] [(.ref r)]))
  refine up ?_ fun t k => XS.iloadN X491.here hx rfl (hb hby d14_47) rfl k
  show own_G (T491.setTop (mkF m 48 #[oA a, oI (0 : Int32)] [(.int (0 : Int32)), (.ref r)]))
  obtain ⟨cl492, Ar492, qa492, Sa492, Na492, Ha492, Ga492⟩ := id V_c484
  have hin492 : ¬ ((0 : Int32) < 0 ∨ cl492.slots.size ≤ ((0 : Int32)).toNatClampNeg) := inb_of Sa492 ⟨by decide, own_i0 hc⟩
  refine up ?_ fun t k => X491.laload hx (j := (0 : Int32)) (v := (.long x0)) (by rw [e491]; exact Ar492.1) (State.isArrayOf_alike hZ.alike Ar492.2.1) Ar492.2.2 hin492 (Ha492.at hin492 rfl) (g := (mkF m 48 #[oA a, oI (0 : Int32)] [(.int (0 : Int32)), (.ref r)])) rfl rfl (hb hby d14_48) _ (XS.lconst X491.here hx rfl (hb hby d14_49) (XS.lcmp X491.here hx rfl (hb hby d14_50) rfl k))
  show own_G (T491.setTop (mkF m 51 #[oA a, oI (0 : Int32)] [(.int (lcmpW x0 (0 : Int64)))]))
  refine up ?_ fun t k => XS.ifNo X491.here hx rfl (hb hby d14_51) rfl ((if0 _ _).trans (teq ((lw_eq _ _).mpr (hz : (x0 = (0 : Int64))))).2) (XS.iinc X491.here hx rfl (hb hby d14_54) rfl (l' := #[oA a, oI (1 : Int32)]) rfl (XS.goto X491.here hx rfl (pc0 := 57) (pc' := 35) rfl (hb hby d14_57) (by decide) (by decide) (XS.iloadN X491.here hx rfl (hb hby d14_35) rfl (XS.aloadN X491.here hx rfl (hb hby d14_36) rfl rfl k))))
  show own_G (T491.setTop (mkF m 37 #[oA a, oI (1 : Int32)] [(.ref a), (.int (1 : Int32))]))
  obtain ⟨T493, X493, e493, st493⟩ := getF X491 hx hZ hown (host := "") (Or.inl (hw _ (own_m 20 rfl))) Via.refl e491 F483 (g := (mkF m 37 #[oA a, oI (1 : Int32)] [(.ref a), (.int (1 : Int32))])) rfl rfl (hb hby d14_37)
  refine up ?_ st493
  show own_G (T493.setTop (mkF m 40 #[oA a, oI (1 : Int32)] [(.int (2 : Int32)), (.int (1 : Int32))]))
  refine up ?_ fun t k => XS.icmpNo X493.here hx rfl (hb hby d14_40) rfl (tlt (by decide : ((1 : Int32) < (2 : Int32)))).2.1 (XS.aloadN X493.here hx rfl (hb hby d14_43) rfl rfl k)
  show own_G (T493.setTop (mkF m 44 #[oA a, oI (1 : Int32)] [(.ref a)]))
  obtain ⟨T494, X494, e494, st494⟩ := getF X493 hx hZ hown (host := "") (Or.inl (hw _ (own_m 13 rfl))) Via.refl e493 Fw_c484 (g := (mkF m 44 #[oA a, oI (1 : Int32)] [(.ref a)])) rfl rfl (hb hby d14_44)
  refine up ?_ st494
  show own_G (T494.setTop (mkF m 47 #[oA a, oI (1 : Int32)] [(.ref r)]))
  refine up ?_ fun t k => XS.iloadN X494.here hx rfl (hb hby d14_47) rfl k
  show own_G (T494.setTop (mkF m 48 #[oA a, oI (1 : Int32)] [(.int (1 : Int32)), (.ref r)]))
  obtain ⟨cl495, Ar495, qa495, Sa495, Na495, Ha495, Ga495⟩ := id V_c484
  have hin495 : ¬ ((1 : Int32) < 0 ∨ cl495.slots.size ≤ ((1 : Int32)).toNatClampNeg) := inb_of Sa495 ⟨by decide, own_i1 hc⟩
  refine up ?_ fun t k => X494.laload hx (j := (1 : Int32)) (v := (.long x1)) (by rw [e494]; exact Ar495.1) (State.isArrayOf_alike hZ.alike Ar495.2.1) Ar495.2.2 hin495 (Ha495.at hin495 rfl) (g := (mkF m 48 #[oA a, oI (1 : Int32)] [(.int (1 : Int32)), (.ref r)])) rfl rfl (hb hby d14_48) _ (XS.lconst X494.here hx rfl (hb hby d14_49) (XS.lcmp X494.here hx rfl (hb hby d14_50) rfl k))
  show own_G (T494.setTop (mkF m 51 #[oA a, oI (1 : Int32)] [(.int (lcmpW x1 (0 : Int64)))]))
  refine up ?_ fun t k => XS.ifYes X494.here hx rfl (pc0 := 51) (pc' := 60) rfl (hb hby d14_51) rfl ((if0 _ _).trans (feq (fun q => (hx1 : ¬ (x1 = (0 : Int64))) ((lw_eq _ _).mp q))).2) (by decide) (by decide) (XS.iloadN X494.here hx rfl (hb hby d14_60) rfl k)
  show own_G (T494.setTop (mkF m 61 #[oA a, oI (1 : Int32)] [(.int (1 : Int32))]))
  refine up ?_ fun t k => XS.ifNo X494.here hx rfl (hb hby d14_61) rfl ((if0 _ _).trans (tlt (by decide : ((0 : Int32) < (1 : Int32)))).2.2.2) (XS.aloadN X494.here hx rfl (hb hby d14_64) rfl rfl k)
  show own_G (T494.setTop (mkF m 65 #[oA a, oI (1 : Int32)] [(.ref a)]))
  obtain ⟨T496, X496, e496, st496⟩ := getF X494 hx hZ hown (host := "") (Or.inl (hw _ (own_m 13 rfl))) Via.refl e494 Fw_c484 (g := (mkF m 65 #[oA a, oI (1 : Int32)] [(.ref a)])) rfl rfl (hb hby d14_65)
  refine up ?_ st496
  show own_G (T496.setTop (mkF m 68 #[oA a, oI (1 : Int32)] [(.ref r)]))
  refine up ?_ fun t k => XS.iloadN X496.here hx rfl (hb hby d14_68) rfl (XS.aloadN X496.here hx rfl (hb hby d14_69) rfl rfl k)
  show own_G (T496.setTop (mkF m 70 #[oA a, oI (1 : Int32)] [(.ref a), (.int (1 : Int32)), (.ref r)]))
  obtain ⟨T497, X497, e497, st497⟩ := getF X496 hx hZ hown (host := "") (Or.inl (hw _ (own_m 13 rfl))) Via.refl e496 Fw_c484 (g := (mkF m 70 #[oA a, oI (1 : Int32)] [(.ref a), (.int (1 : Int32)), (.ref r)])) rfl rfl (hb hby d14_70)
  refine up ?_ st497
  show own_G (T497.setTop (mkF m 73 #[oA a, oI (1 : Int32)] [(.ref r), (.int (1 : Int32)), (.ref r)]))
  refine up ?_ fun t k => XS.iconst X497.here hx rfl (hb hby d14_73) (XS.aloadN X497.here hx rfl (hb hby d14_74) rfl rfl k)
  show own_G (T497.setTop (mkF m 75 #[oA a, oI (1 : Int32)] [(.ref a), (.int (0 : Int32)), (.ref r), (.int (1 : Int32)), (.ref r)]))
  obtain ⟨T498, X498, e498, st498⟩ := getF X497 hx hZ hown (host := "") (Or.inl (hw _ (own_m 20 rfl))) Via.refl e497 F483 (g := (mkF m 75 #[oA a, oI (1 : Int32)] [(.ref a), (.int (0 : Int32)), (.ref r), (.int (1 : Int32)), (.ref r)])) rfl rfl (hb hby d14_75)
  refine up ?_ st498
  show own_G (T498.setTop (mkF m 78 #[oA a, oI (1 : Int32)] [(.int (2 : Int32)), (.int (0 : Int32)), (.ref r), (.int (1 : Int32)), (.ref r)]))
  refine up ?_ fun t k => XS.iloadN X498.here hx rfl (hb hby d14_78) rfl (XS.isub X498.here hx rfl (hb hby d14_79) rfl k)
  show own_G (T498.setTop (mkF m 80 #[oA a, oI (1 : Int32)] [(.int (1 : Int32)), (.int (0 : Int32)), (.ref r), (.int (1 : Int32)), (.ref r)]))
  obtain ⟨T499, h499, L499, X499, e499, N499, K499, V499, st499⟩ := cpA X498 hx hZ hown (hw _ (own_m 73 rfl)) (hw _ (own_m 40 rfl)) (hw _ (own_m 38 rfl)) (hw _ (own_m 39 rfl)) e498 (sp := (1 : Int32)) (dp := (0 : Int32)) (nn := (1 : Int32)) (us := [(.long x1)]) V_c484 V_c484 (Or.inl ⟨rfl, rfl⟩) (by decide) (by decide) (by decide) (own_cpin hc) (own_cpin0 hc) rfl (by simp only [List.length_cons]; show 0 + 1 ≤ _; omega) N489 g_r (g := (mkF m 80 #[oA a, oI (1 : Int32)] [(.int (1 : Int32)), (.int (0 : Int32)), (.ref r), (.int (1 : Int32)), (.ref r)])) rfl (by rw [hml]; rfl) rfl (hb hby d14_80) (by decide) (W := 0) (by show 2 * 0 + _ ≤ _; exact Nat.le_of_eq rfl) (by decide)
  refine up ?_ st499
  have E_a_c500 := E_a_c484.keep K499
  have Fw_c500 := Fw_c484.keep K499 (ninS ne_ar nin0)
  have F483_c500 := F483.keep K499 (ninS ne_ar nin0)
  have Fp_c500 := Fp_c484.keep K499 (ninS ne_ar nin0)
  have kq501 := Nat.le_trans kq485 K499.1
  have Zs502 : n0 ≤ h499.size := Nat.le_trans Zs486 K499.1
  have V499x : Arv Z h499 r kr .long zc ((.long x1) :: (.long x1) :: (.long x2) :: tl) (.long (0 : Int64)) := V499
  show own_G (T499.setTop (mkF m 83 #[oA a, oI (1 : Int32)] []))
  refine up ?_ fun t k => XS.aloadN X499.here hx rfl (hb hby d14_83) rfl rfl (XS.dup X499.here hx rfl (hb hby d14_84) rfl rfl k)
  show own_G (T499.setTop (mkF m 85 #[oA a, oI (1 : Int32)] [(.ref a), (.ref a)]))
  obtain ⟨T503, X503, e503, st503⟩ := getF X499 hx hZ hown (host := "") (Or.inl (hw _ (own_m 20 rfl))) Via.refl e499 F483_c500 (g := (mkF m 85 #[oA a, oI (1 : Int32)] [(.ref a), (.ref a)])) rfl rfl (hb hby d14_85)
  refine up ?_ st503
  show own_G (T503.setTop (mkF m 88 #[oA a, oI (1 : Int32)] [(.int (2 : Int32)), (.ref a)]))
  refine up ?_ fun t k => XS.iloadN X503.here hx rfl (hb hby d14_88) rfl (XS.isub X503.here hx rfl (hb hby d14_89) rfl k)
  show own_G (T503.setTop (mkF m 90 #[oA a, oI (1 : Int32)] [(.int (1 : Int32)), (.ref a)]))
  obtain ⟨T504, h504, X504, e504, W504, st504⟩ := putF X503 hx hZ hown (host := "") (Or.inl (hw _ (own_m 20 rfl))) Via.refl e503 F483_c500 E_a_c500 (Or.inl (hw _ (own_m 21 rfl))) (hw _ (own_m 3 rfl)) (ty := .int) (by decide) rfl rfl (g := (mkF m 90 #[oA a, oI (1 : Int32)] [(.int (1 : Int32)), (.ref a)])) rfl rfl (hb hby d14_90)
  refine up ?_ st504
  have E_a_c505 := E_a_c500.wr W504
  have Fw_c505 := Fw_c500.other W504 (Or.inr (slot_ne (Or.inl (hw _ (own_m 14 rfl))) (Or.inl (hw _ (own_m 21 rfl))) (by decide) (t := (.array .long)) (t' := .int) (by decide) (by decide)))
  have Fp_c505 := Fp_c500.other W504 (Or.inr (slot_ne (Or.inl (hw _ (own_m 23 rfl))) (Or.inl (hw _ (own_m 21 rfl))) (by decide) (t := .int) (t' := .int) (by decide) (by decide)))
  have V499x_c505 := V499x.other W504 (Ne.symm ne_ar)
  have F504 := F483_c500.same W504
  have N504 := Fr.snoc X504 N499 g_a
  have kq506 := Nat.le_trans kq501 (Keep.of_wr W504).1
  have Zs507 : n0 ≤ h504.size := Nat.le_trans Zs502 (Keep.of_wr W504).1
  show own_G (T504.setTop (mkF m 93 #[oA a, oI (1 : Int32)] []))
  refine up ?_ fun t k => XS.aloadN X504.here hx rfl (hb hby d14_93) rfl rfl (XS.dup X504.here hx rfl (hb hby d14_94) rfl rfl k)
  show own_G (T504.setTop (mkF m 95 #[oA a, oI (1 : Int32)] [(.ref a), (.ref a)]))
  obtain ⟨T508, X508, e508, st508⟩ := getF X504 hx hZ hown (host := "") (Or.inl (hw _ (own_m 22 rfl))) Via.refl e504 Fp_c505 (g := (mkF m 95 #[oA a, oI (1 : Int32)] [(.ref a), (.ref a)])) rfl rfl (hb hby d14_95)
  refine up ?_ st508
  show own_G (T508.setTop (mkF m 98 #[oA a, oI (1 : Int32)] [(.int pw), (.ref a)]))
  refine up ?_ fun t k => XS.bipush X508.here hx rfl (hb hby d14_98) (XS.iloadN X508.here hx rfl (hb hby d14_100) rfl (XS.imul X508.here hx rfl (hb hby d14_101) rfl (XS.iadd X508.here hx rfl (hb hby d14_102) rfl k)))
  show own_G (T508.setTop (mkF m 103 #[oA a, oI (1 : Int32)] [(.int (pw + (64 : Int32))), (.ref a)]))
  obtain ⟨T509, h509, X509, e509, W509, st509⟩ := putF X508 hx hZ hown (host := "") (Or.inl (hw _ (own_m 22 rfl))) Via.refl e508 Fp_c505 E_a_c505 (Or.inl (hw _ (own_m 23 rfl))) (hw _ (own_m 3 rfl)) (ty := .int) (by decide) rfl rfl (g := (mkF m 103 #[oA a, oI (1 : Int32)] [(.int (pw + (64 : Int32))), (.ref a)])) rfl rfl (hb hby d14_103)
  refine up ?_ st509
  have E_a_c510 := E_a_c505.wr W509
  have Fw_c510 := Fw_c505.other W509 (Or.inr (slot_ne (Or.inl (hw _ (own_m 14 rfl))) (Or.inl (hw _ (own_m 23 rfl))) (by decide) (t := (.array .long)) (t' := .int) (by decide) (by decide)))
  have F504_c510 := F504.other W509 (Or.inr (slot_ne (Or.inl (hw _ (own_m 21 rfl))) (Or.inl (hw _ (own_m 23 rfl))) (by decide) (t := .int) (t' := .int) (by decide) (by decide)))
  have V499x_c510 := V499x_c505.other W509 (Ne.symm ne_ar)
  have F509 := Fp_c505.same W509
  have N509 := Fr.snoc X509 N504 g_a
  have kq511 := Nat.le_trans kq506 (Keep.of_wr W509).1
  have Zs512 : n0 ≤ h509.size := Nat.le_trans Zs507 (Keep.of_wr W509).1
  show own_G (T509.setTop (mkF m 106 #[oA a, oI (1 : Int32)] []))
  refine up ?_ fun t k => XS.aloadN X509.here hx rfl (hb hby d14_106) rfl rfl k
  show own_G (T509.setTop (mkF m 107 #[oA a, oI (1 : Int32)] [(.ref a)]))
  obtain ⟨T513, X513, e513, st513⟩ := getF X509 hx hZ hown (host := "") (Or.inl (hw _ (own_m 13 rfl))) Via.refl e509 Fw_c510 (g := (mkF m 107 #[oA a, oI (1 : Int32)] [(.ref a)])) rfl rfl (hb hby d14_107)
  refine up ?_ st513
  show own_G (T513.setTop (mkF m 110 #[oA a, oI (1 : Int32)] [(.ref r)]))
  obtain ⟨cl514, Ar514, qa514, Sa514, Na514, Ha514, Ga514⟩ := id V499x_c510
  refine up ?_ fun t k => X513.arraylength hx (by rw [e513]; exact Ar514.1) (State.isArrayOf_alike hZ.alike Ar514.2.1) (g := (mkF m 110 #[oA a, oI (1 : Int32)] [(.ref r)])) rfl rfl (hb hby d14_110) _ k
  rw [len_of Sa514 Na514]
  show own_G (T513.setTop (mkF m 111 #[oA a, oI (1 : Int32)] [(.int zc)]))
  refine up ?_ fun t k => XS.iconst X513.here hx rfl (hb hby d14_111) (XS.aloadN X513.here hx rfl (hb hby d14_112) rfl rfl k)
  show own_G (T513.setTop (mkF m 113 #[oA a, oI (1 : Int32)] [(.ref a), (.int (2 : Int32)), (.int zc)]))
  obtain ⟨T515, X515, e515, st515⟩ := getF X513 hx hZ hown (host := "") (Or.inl (hw _ (own_m 20 rfl))) Via.refl e513 F504_c510 (g := (mkF m 113 #[oA a, oI (1 : Int32)] [(.ref a), (.int (2 : Int32)), (.int zc)])) rfl rfl (hb hby d14_113)
  refine up ?_ st515
  show own_G (T515.setTop (mkF m 116 #[oA a, oI (1 : Int32)] [(.int (1 : Int32)), (.int (2 : Int32)), (.int zc)]))
  refine up ?_ fun t k => XS.imul X515.here hx rfl (hb hby d14_116) rfl (XS.bipush X515.here hx rfl (hb hby d14_117) (XS.iadd X515.here hx rfl (hb hby d14_119) rfl k))
  show own_G (T515.setTop (mkF m 120 #[oA a, oI (1 : Int32)] [(.int (10 : Int32)), (.int zc)]))
  refine up ?_ fun t k => XS.icmpYes X515.here hx rfl (pc0 := 120) (pc' := 140) rfl (hb hby d14_120) rfl (flt (fun q => own_big hc (Or.inr (Or.inl q)) : ¬ ((10 : Int32) < zc))).2.2.2 (by decide) (by decide) (XS.aloadN X515.here hx rfl (hb hby d14_140) rfl rfl k)
  show own_G (T515.setTop (mkF m 141 #[oA a, oI (1 : Int32)] [(.ref a)]))
  obtain ⟨T516, X516, e516, st516⟩ := getF X515 hx hZ hown (host := "") (Or.inl (hw _ (own_m 20 rfl))) Via.refl e515 F504_c510 (g := (mkF m 141 #[oA a, oI (1 : Int32)] [(.ref a)])) rfl rfl (hb hby d14_141)
  refine up ?_ st516
  show own_G (T516.setTop (mkF m 144 #[oA a, oI (1 : Int32)] [(.int (1 : Int32))]))
  refine up ?_ fun t k => XS.ifNo X516.here hx rfl (hb hby d14_144) rfl ((if0 _ _).trans (tlt (by decide : ((0 : Int32) < (1 : Int32)))).2.2.2) (XS.aloadN X516.here hx rfl (hb hby d14_147) rfl rfl (XS.aloadN X516.here hx rfl (hb hby d14_148) rfl rfl k))
  show own_G (T516.setTop (mkF m 149 #[oA a, oI (1 : Int32)] [(.ref a), (.ref a)]))
  obtain ⟨T517, X517, e517, st517⟩ := getF X516 hx hZ hown (host := "") (Or.inl (hw _ (own_m 20 rfl))) Via.refl e516 F504_c510 (g := (mkF m 149 #[oA a, oI (1 : Int32)] [(.ref a), (.ref a)])) rfl rfl (hb hby d14_149)
  refine up ?_ st517
  show own_G (T517.setTop (mkF m 152 #[oA a, oI (1 : Int32)] [(.int (1 : Int32)), (.ref a)]))
  refine up ?_ fun t k => XS.iconst X517.here hx rfl (hb hby d14_152) (XS.iadd X517.here hx rfl (hb hby d14_153) rfl k)
  show own_G (T517.setTop (mkF m 154 #[oA a, oI (1 : Int32)] [(.int (2 : Int32)), (.ref a)]))
  obtain ⟨cq518, q518, q518'⟩ := E_a_c510.cell
  obtain ⟨_, _, ⟨T518, L518, k518, n518⟩, -, X518, ⟨Lc518, hQ518, l518, y518, z518⟩, st518⟩ := X517.privateBack hx (y := (⟨"com/example/eventweir/eventweir/ExactSum", "widen", "(I)V"⟩ : MethodName)) hown (mvT hZ (hw _ (own_m 24 rfl))) (mvT hZ (hw _ (own_m 25 rfl))) (own_sel (by decide) (mvT hZ (hw _ (own_m 25 rfl))) (mvP hZ (hw _ (own_m 26 rfl))) (mvT hZ (hw _ (own_m 3 rfl)))) (Cond.privateMethod_at (mvP hZ (hw _ (own_m 26 rfl)) (args := #[]))) (mvT hZ (hw _ (own_m 27 rfl))) (by decide) (backOf (W := 0) (rmw12 l Z a0 hw [] a r kr zc (pw + (64 : Int32)) tl x1 x1 x2 h509 n0 Zs512 ⟨E_a_c510, Fw_c510, F504_c510, F509, V499x_c510⟩ g_a g_r hc ) hZ (hw _ (own_m 27 rfl)) (hw _ (own_m 4 rfl)) (by decide) (by decide)) (g := (mkF m 154 #[oA a, oI (1 : Int32)] [(.int (2 : Int32)), (.ref a)])) rfl (by rw [hml]; rfl) (Steps.refl _) (a := a) (by rw [e517]; exact q518) q518' (argsL := [(.int (2 : Int32))]) (rest := []) (lenOf own_pd6 rfl) rfl (by show 2 * 0 + _ ≤ _; exact Nat.le_of_eq rfl) (hb hby d14_154) (fun _ _ => ⟨rfl, e517, (by decide : 0 + 0 ≤ _), (by decide : 0 + 0 ≤ _)⟩)
  dsimp only [Pt.U, Pt.locs, Pt.cells, Pt.slots] at X518 l518 y518 z518 st518 hQ518
  subst l518 y518 z518
  obtain ⟨rfl, Nq518, hsq518, Eq518, Fwq518, Flq518, Fpq518, Vq518⟩ := hQ518
  have N518 := Fr.app N509 Nq518
  have kq519 := Nat.le_trans kq511 hsq518
  have Zs520 : n0 ≤ T518.heap.size := Nat.le_trans Zs512 hsq518
  refine up ?_ (fun t k => st518.trans k)
  show own_G (T518.setTop (mkF m 157 #[oA a, oI (1 : Int32)] []))
  exact own_retV X518 hx hlk hret (hb hby d14_157) ⟨rfl, N518, kq519, ⟨Eq518, Fwq518, Flq518, Fpq518, Vq518⟩⟩ (by decide) (by decide)
def own_Q_rmn4z (Z : State) (a : Addr) (r : Addr) (kr : ClassId) (pw : Int32) (x0 : Int64) (x1 : Int64) (x2 : Int64) (x3 : Int64) (h0 : Heap) (n0 : Nat) (v : Option Value) (h : Heap) (L : List Loc) : Prop := v = none ∧ Fr n0 L ∧ h0.size ≤ h.size ∧ own_O Z h a r kr (4 : Int32) (0 : Int32) pw [(.long x0), (.long x1), (.long x2), (.long x3)]
theorem rmn4z (l : Launch) (Z : State) (a0 : Array Value) (hw : own_W Z a0) (ws : List Jvm.Cond) (a : Addr) (r : Addr) (kr : ClassId) (pw : Int32) (x0 : Int64) (x1 : Int64) (x2 : Int64) (x3 : Int64) (h0 : Heap) (n0 : Nat) (Z0 : n0 ≤ h0.size) (O0 : own_O Z h0 a r kr (4 : Int32) (4 : Int32) pw [(.long x0), (.long x1), (.long x2), (.long x3)]) (g_a : n0 ≤ a) (g_r : n0 ≤ r) (h2 : x2 = own_sg x1) (h3 : x3 = own_sg x2) (h1 : x1 = own_sg x0) (hz : x0 = (0 : Int64)) :
    own_M l Z (⟨"com/example/eventweir/eventweir/ExactSum", "normalize", "()V"⟩ : MethodName) prog_78_method_12_code 2 none ws ({ frames := 1, cells := 0, slots := 0, locals := 13 } : Room) #[(.ref a)] h0 (own_Q_rmn4z Z a r kr pw x0 x1 x2 x3 h0 n0) := by
  refine own_body (plainFor_of_name own_pn0) ?_
  intro p e s m below meth c s₁ hx hZ hby hml hown hnm hlk hret X0 e0
  have N0 := Fr.nil n0
  obtain ⟨E_a, Fw, Fl, Fp, V⟩ := O0
  have ne_ar : a ≠ r := E_a.neArv V (hw _ (own_m 3 rfl))
  refine up (U' := s₁.setTop (mkF m 0 #[oA a, oU] [])) ?_ (fun t k => castTop (own_ef_rmn3z m a) k)
  refine up ?_ fun t k => XS.aloadN X0.here hx rfl (hb hby d14_0) rfl rfl k
  show own_G (s₁.setTop (mkF m 1 #[oA a, oU] [(.ref a)]))
  obtain ⟨T521, X521, e521, st521⟩ := getF X0 hx hZ hown (host := "") (Or.inl (hw _ (own_m 20 rfl))) Via.refl e0 Fl (g := (mkF m 1 #[oA a, oU] [(.ref a)])) rfl rfl (hb hby d14_1)
  refine up ?_ st521
  show own_G (T521.setTop (mkF m 4 #[oA a, oU] [(.int (4 : Int32))]))
  refine up ?_ fun t k => XS.ifNo X521.here hx rfl (hb hby d14_4) rfl ((if0 _ _).trans (tlt (by decide : ((0 : Int32) < (4 : Int32)))).2.2.2) (XS.aloadN X521.here hx rfl (hb hby d14_7) rfl rfl (XS.aloadN X521.here hx rfl (hb hby d14_8) rfl rfl k))
  show own_G (T521.setTop (mkF m 9 #[oA a, oU] [(.ref a), (.ref a)]))
  obtain ⟨T522, X522, e522, st522⟩ := getF X521 hx hZ hown (host := "") (Or.inl (hw _ (own_m 20 rfl))) Via.refl e521 Fl (g := (mkF m 9 #[oA a, oU] [(.ref a), (.ref a)])) rfl rfl (hb hby d14_9)
  refine up ?_ st522
  show own_G (T522.setTop (mkF m 12 #[oA a, oU] [(.int (4 : Int32)), (.ref a)]))
  refine up ?_ fun t k => XS.iconst X522.here hx rfl (hb hby d14_12) (XS.isub X522.here hx rfl (hb hby d14_13) rfl k)
  show own_G (T522.setTop (mkF m 14 #[oA a, oU] [(.int (3 : Int32)), (.ref a)]))
  obtain ⟨cq523, q523, q523'⟩ := E_a.cell
  obtain ⟨_, _, ⟨T523, L523, k523, n523⟩, -, X523, ⟨Lc523, hQ523, l523, y523, z523⟩, st523⟩ := X522.privateBack hx (y := (⟨"com/example/eventweir/eventweir/ExactSum", "repeatsSign", "(I)Z"⟩ : MethodName)) hown (mvT hZ (hw _ (own_m 49 rfl))) (mvT hZ (hw _ (own_m 50 rfl))) (own_sel (by decide) (mvT hZ (hw _ (own_m 50 rfl))) (mvP hZ (hw _ (own_m 51 rfl))) (mvT hZ (hw _ (own_m 3 rfl)))) (Cond.privateMethod_at (mvP hZ (hw _ (own_m 51 rfl)) (args := #[]))) (mvT hZ (hw _ (own_m 52 rfl))) (by decide) (backOf (W := 0) (rmrs3 l Z a0 hw [] a r kr pw x0 x1 x2 x3 (4 : Int32) h0 n0 Z0 ⟨E_a, Fw, Fl, Fp, V⟩ g_a g_r ) hZ (hw _ (own_m 52 rfl)) (hw _ (own_m 4 rfl)) (by decide) (by decide)) (g := (mkF m 14 #[oA a, oU] [(.int (3 : Int32)), (.ref a)])) rfl (by rw [hml]; rfl) (Steps.refl _) (a := a) (by rw [e522]; exact q523) q523' (argsL := [(.int (3 : Int32))]) (rest := []) (lenOf own_pd5 rfl) rfl (by show 2 * 0 + _ ≤ _; exact Nat.le_of_eq rfl) (hb hby d14_14) (fun _ _ => ⟨rfl, e522, (by decide : 0 + 0 ≤ _), (by decide : 0 + 0 ≤ _)⟩)
  dsimp only [Pt.U, Pt.locs, Pt.cells, Pt.slots] at X523 l523 y523 z523 st523 hQ523
  subst l523 y523 z523
  obtain ⟨rfl, Nq523, e523⟩ := hQ523
  have N523 := Fr.app N0 Nq523
  refine up ?_ (fun t k => st523.trans k)
  show own_G (T523.setTop (mkF m 17 #[oA a, oU] [(.int (if x3 = own_sg x2 then (1 : Int32) else (0 : Int32)))]))
  refine up ?_ fun t k => XS.ifNo X523.here hx rfl (hb hby d14_17) rfl ((if0 _ _).trans (feq ((by rw [if_pos h3]; decide) : ¬ ((if x3 = own_sg x2 then (1 : Int32) else (0 : Int32)) = (0 : Int32)))).1) (XS.aloadN X523.here hx rfl (hb hby d14_20) rfl rfl (XS.dup X523.here hx rfl (hb hby d14_21) rfl rfl k))
  show own_G (T523.setTop (mkF m 22 #[oA a, oU] [(.ref a), (.ref a)]))
  obtain ⟨T524, X524, e524, st524⟩ := getF X523 hx hZ hown (host := "") (Or.inl (hw _ (own_m 20 rfl))) Via.refl e523 Fl (g := (mkF m 22 #[oA a, oU] [(.ref a), (.ref a)])) rfl rfl (hb hby d14_22)
  refine up ?_ st524
  show own_G (T524.setTop (mkF m 25 #[oA a, oU] [(.int (4 : Int32)), (.ref a)]))
  refine up ?_ fun t k => XS.iconst X524.here hx rfl (hb hby d14_25) (XS.isub X524.here hx rfl (hb hby d14_26) rfl k)
  show own_G (T524.setTop (mkF m 27 #[oA a, oU] [(.int (3 : Int32)), (.ref a)]))
  obtain ⟨T525, h525, X525, e525, W525, st525⟩ := putF X524 hx hZ hown (host := "") (Or.inl (hw _ (own_m 20 rfl))) Via.refl e524 Fl E_a (Or.inl (hw _ (own_m 21 rfl))) (hw _ (own_m 3 rfl)) (ty := .int) (by decide) rfl rfl (g := (mkF m 27 #[oA a, oU] [(.int (3 : Int32)), (.ref a)])) rfl rfl (hb hby d14_27)
  refine up ?_ st525
  have E_a_c526 := E_a.wr W525
  have Fw_c526 := Fw.other W525 (Or.inr (slot_ne (Or.inl (hw _ (own_m 14 rfl))) (Or.inl (hw _ (own_m 21 rfl))) (by decide) (t := (.array .long)) (t' := .int) (by decide) (by decide)))
  have Fp_c526 := Fp.other W525 (Or.inr (slot_ne (Or.inl (hw _ (own_m 23 rfl))) (Or.inl (hw _ (own_m 21 rfl))) (by decide) (t := .int) (t' := .int) (by decide) (by decide)))
  have V_c526 := V.other W525 (Ne.symm ne_ar)
  have F525 := Fl.same W525
  have N525 := Fr.snoc X525 N523 g_a
  have kq527 := Nat.le_trans (Nat.le_refl h0.size) (Keep.of_wr W525).1
  have Zs528 : n0 ≤ h525.size := Nat.le_trans Z0 (Keep.of_wr W525).1
  show own_G (T525.setTop (mkF m 30 #[oA a, oU] []))
  refine up ?_ fun t k => XS.goto X525.here hx rfl (pc0 := 30) (pc' := 0) rfl (hb hby d14_30) (by decide) (by decide) (XS.aloadN X525.here hx rfl (hb hby d14_0) rfl rfl k)
  show own_G (T525.setTop (mkF m 1 #[oA a, oU] [(.ref a)]))
  obtain ⟨T529, X529, e529, st529⟩ := getF X525 hx hZ hown (host := "") (Or.inl (hw _ (own_m 20 rfl))) Via.refl e525 F525 (g := (mkF m 1 #[oA a, oU] [(.ref a)])) rfl rfl (hb hby d14_1)
  refine up ?_ st529
  show own_G (T529.setTop (mkF m 4 #[oA a, oU] [(.int (3 : Int32))]))
  refine up ?_ fun t k => XS.ifNo X529.here hx rfl (hb hby d14_4) rfl ((if0 _ _).trans (tlt (by decide : ((0 : Int32) < (3 : Int32)))).2.2.2) (XS.aloadN X529.here hx rfl (hb hby d14_7) rfl rfl (XS.aloadN X529.here hx rfl (hb hby d14_8) rfl rfl k))
  show own_G (T529.setTop (mkF m 9 #[oA a, oU] [(.ref a), (.ref a)]))
  obtain ⟨T530, X530, e530, st530⟩ := getF X529 hx hZ hown (host := "") (Or.inl (hw _ (own_m 20 rfl))) Via.refl e529 F525 (g := (mkF m 9 #[oA a, oU] [(.ref a), (.ref a)])) rfl rfl (hb hby d14_9)
  refine up ?_ st530
  show own_G (T530.setTop (mkF m 12 #[oA a, oU] [(.int (3 : Int32)), (.ref a)]))
  refine up ?_ fun t k => XS.iconst X530.here hx rfl (hb hby d14_12) (XS.isub X530.here hx rfl (hb hby d14_13) rfl k)
  show own_G (T530.setTop (mkF m 14 #[oA a, oU] [(.int (2 : Int32)), (.ref a)]))
  obtain ⟨cq531, q531, q531'⟩ := E_a_c526.cell
  obtain ⟨_, _, ⟨T531, L531, k531, n531⟩, -, X531, ⟨Lc531, hQ531, l531, y531, z531⟩, st531⟩ := X530.privateBack hx (y := (⟨"com/example/eventweir/eventweir/ExactSum", "repeatsSign", "(I)Z"⟩ : MethodName)) hown (mvT hZ (hw _ (own_m 49 rfl))) (mvT hZ (hw _ (own_m 50 rfl))) (own_sel (by decide) (mvT hZ (hw _ (own_m 50 rfl))) (mvP hZ (hw _ (own_m 51 rfl))) (mvT hZ (hw _ (own_m 3 rfl)))) (Cond.privateMethod_at (mvP hZ (hw _ (own_m 51 rfl)) (args := #[]))) (mvT hZ (hw _ (own_m 52 rfl))) (by decide) (backOf (W := 0) (rmrs2 l Z a0 hw [] a r kr (4 : Int32) pw [(.long x3)] x0 x1 x2 (3 : Int32) h525 n0 Zs528 ⟨E_a_c526, Fw_c526, F525, Fp_c526, V_c526⟩ g_a g_r (own_cap4 x3) ) hZ (hw _ (own_m 52 rfl)) (hw _ (own_m 4 rfl)) (by decide) (by decide)) (g := (mkF m 14 #[oA a, oU] [(.int (2 : Int32)), (.ref a)])) rfl (by rw [hml]; rfl) (Steps.refl _) (a := a) (by rw [e530]; exact q531) q531' (argsL := [(.int (2 : Int32))]) (rest := []) (lenOf own_pd5 rfl) rfl (by show 2 * 0 + _ ≤ _; exact Nat.le_of_eq rfl) (hb hby d14_14) (fun _ _ => ⟨rfl, e530, (by decide : 0 + 0 ≤ _), (by decide : 0 + 0 ≤ _)⟩)
  dsimp only [Pt.U, Pt.locs, Pt.cells, Pt.slots] at X531 l531 y531 z531 st531 hQ531
  subst l531 y531 z531
  obtain ⟨rfl, Nq531, e531⟩ := hQ531
  have N531 := Fr.app N525 Nq531
  refine up ?_ (fun t k => st531.trans k)
  show own_G (T531.setTop (mkF m 17 #[oA a, oU] [(.int (if x2 = own_sg x1 then (1 : Int32) else (0 : Int32)))]))
  refine up ?_ fun t k => XS.ifNo X531.here hx rfl (hb hby d14_17) rfl ((if0 _ _).trans (feq ((by rw [if_pos h2]; decide) : ¬ ((if x2 = own_sg x1 then (1 : Int32) else (0 : Int32)) = (0 : Int32)))).1) (XS.aloadN X531.here hx rfl (hb hby d14_20) rfl rfl (XS.dup X531.here hx rfl (hb hby d14_21) rfl rfl k))
  show own_G (T531.setTop (mkF m 22 #[oA a, oU] [(.ref a), (.ref a)]))
  obtain ⟨T532, X532, e532, st532⟩ := getF X531 hx hZ hown (host := "") (Or.inl (hw _ (own_m 20 rfl))) Via.refl e531 F525 (g := (mkF m 22 #[oA a, oU] [(.ref a), (.ref a)])) rfl rfl (hb hby d14_22)
  refine up ?_ st532
  show own_G (T532.setTop (mkF m 25 #[oA a, oU] [(.int (3 : Int32)), (.ref a)]))
  refine up ?_ fun t k => XS.iconst X532.here hx rfl (hb hby d14_25) (XS.isub X532.here hx rfl (hb hby d14_26) rfl k)
  show own_G (T532.setTop (mkF m 27 #[oA a, oU] [(.int (2 : Int32)), (.ref a)]))
  obtain ⟨T533, h533, X533, e533, W533, st533⟩ := putF X532 hx hZ hown (host := "") (Or.inl (hw _ (own_m 20 rfl))) Via.refl e532 F525 E_a_c526 (Or.inl (hw _ (own_m 21 rfl))) (hw _ (own_m 3 rfl)) (ty := .int) (by decide) rfl rfl (g := (mkF m 27 #[oA a, oU] [(.int (2 : Int32)), (.ref a)])) rfl rfl (hb hby d14_27)
  refine up ?_ st533
  have E_a_c534 := E_a_c526.wr W533
  have Fw_c534 := Fw_c526.other W533 (Or.inr (slot_ne (Or.inl (hw _ (own_m 14 rfl))) (Or.inl (hw _ (own_m 21 rfl))) (by decide) (t := (.array .long)) (t' := .int) (by decide) (by decide)))
  have Fp_c534 := Fp_c526.other W533 (Or.inr (slot_ne (Or.inl (hw _ (own_m 23 rfl))) (Or.inl (hw _ (own_m 21 rfl))) (by decide) (t := .int) (t' := .int) (by decide) (by decide)))
  have V_c534 := V_c526.other W533 (Ne.symm ne_ar)
  have F533 := F525.same W533
  have N533 := Fr.snoc X533 N531 g_a
  have kq535 := Nat.le_trans kq527 (Keep.of_wr W533).1
  have Zs536 : n0 ≤ h533.size := Nat.le_trans Zs528 (Keep.of_wr W533).1
  show own_G (T533.setTop (mkF m 30 #[oA a, oU] []))
  refine up ?_ fun t k => XS.goto X533.here hx rfl (pc0 := 30) (pc' := 0) rfl (hb hby d14_30) (by decide) (by decide) (XS.aloadN X533.here hx rfl (hb hby d14_0) rfl rfl k)
  show own_G (T533.setTop (mkF m 1 #[oA a, oU] [(.ref a)]))
  obtain ⟨T537, X537, e537, st537⟩ := getF X533 hx hZ hown (host := "") (Or.inl (hw _ (own_m 20 rfl))) Via.refl e533 F533 (g := (mkF m 1 #[oA a, oU] [(.ref a)])) rfl rfl (hb hby d14_1)
  refine up ?_ st537
  show own_G (T537.setTop (mkF m 4 #[oA a, oU] [(.int (2 : Int32))]))
  refine up ?_ fun t k => XS.ifNo X537.here hx rfl (hb hby d14_4) rfl ((if0 _ _).trans (tlt (by decide : ((0 : Int32) < (2 : Int32)))).2.2.2) (XS.aloadN X537.here hx rfl (hb hby d14_7) rfl rfl (XS.aloadN X537.here hx rfl (hb hby d14_8) rfl rfl k))
  show own_G (T537.setTop (mkF m 9 #[oA a, oU] [(.ref a), (.ref a)]))
  obtain ⟨T538, X538, e538, st538⟩ := getF X537 hx hZ hown (host := "") (Or.inl (hw _ (own_m 20 rfl))) Via.refl e537 F533 (g := (mkF m 9 #[oA a, oU] [(.ref a), (.ref a)])) rfl rfl (hb hby d14_9)
  refine up ?_ st538
  show own_G (T538.setTop (mkF m 12 #[oA a, oU] [(.int (2 : Int32)), (.ref a)]))
  refine up ?_ fun t k => XS.iconst X538.here hx rfl (hb hby d14_12) (XS.isub X538.here hx rfl (hb hby d14_13) rfl k)
  show own_G (T538.setTop (mkF m 14 #[oA a, oU] [(.int (1 : Int32)), (.ref a)]))
  obtain ⟨cq539, q539, q539'⟩ := E_a_c534.cell
  obtain ⟨_, _, ⟨T539, L539, k539, n539⟩, -, X539, ⟨Lc539, hQ539, l539, y539, z539⟩, st539⟩ := X538.privateBack hx (y := (⟨"com/example/eventweir/eventweir/ExactSum", "repeatsSign", "(I)Z"⟩ : MethodName)) hown (mvT hZ (hw _ (own_m 49 rfl))) (mvT hZ (hw _ (own_m 50 rfl))) (own_sel (by decide) (mvT hZ (hw _ (own_m 50 rfl))) (mvP hZ (hw _ (own_m 51 rfl))) (mvT hZ (hw _ (own_m 3 rfl)))) (Cond.privateMethod_at (mvP hZ (hw _ (own_m 51 rfl)) (args := #[]))) (mvT hZ (hw _ (own_m 52 rfl))) (by decide) (backOf (W := 0) (rmrs1 l Z a0 hw [] a r kr (4 : Int32) pw [(.long x3)] x0 x1 x2 (2 : Int32) h533 n0 Zs536 ⟨E_a_c534, Fw_c534, F533, Fp_c534, V_c534⟩ g_a g_r (own_cap4 x3) ) hZ (hw _ (own_m 52 rfl)) (hw _ (own_m 4 rfl)) (by decide) (by decide)) (g := (mkF m 14 #[oA a, oU] [(.int (1 : Int32)), (.ref a)])) rfl (by rw [hml]; rfl) (Steps.refl _) (a := a) (by rw [e538]; exact q539) q539' (argsL := [(.int (1 : Int32))]) (rest := []) (lenOf own_pd5 rfl) rfl (by show 2 * 0 + _ ≤ _; exact Nat.le_of_eq rfl) (hb hby d14_14) (fun _ _ => ⟨rfl, e538, (by decide : 0 + 0 ≤ _), (by decide : 0 + 0 ≤ _)⟩)
  dsimp only [Pt.U, Pt.locs, Pt.cells, Pt.slots] at X539 l539 y539 z539 st539 hQ539
  subst l539 y539 z539
  obtain ⟨rfl, Nq539, e539⟩ := hQ539
  have N539 := Fr.app N533 Nq539
  refine up ?_ (fun t k => st539.trans k)
  show own_G (T539.setTop (mkF m 17 #[oA a, oU] [(.int (if x1 = own_sg x0 then (1 : Int32) else (0 : Int32)))]))
  refine up ?_ fun t k => XS.ifNo X539.here hx rfl (hb hby d14_17) rfl ((if0 _ _).trans (feq ((by rw [if_pos h1]; decide) : ¬ ((if x1 = own_sg x0 then (1 : Int32) else (0 : Int32)) = (0 : Int32)))).1) (XS.aloadN X539.here hx rfl (hb hby d14_20) rfl rfl (XS.dup X539.here hx rfl (hb hby d14_21) rfl rfl k))
  show own_G (T539.setTop (mkF m 22 #[oA a, oU] [(.ref a), (.ref a)]))
  obtain ⟨T540, X540, e540, st540⟩ := getF X539 hx hZ hown (host := "") (Or.inl (hw _ (own_m 20 rfl))) Via.refl e539 F533 (g := (mkF m 22 #[oA a, oU] [(.ref a), (.ref a)])) rfl rfl (hb hby d14_22)
  refine up ?_ st540
  show own_G (T540.setTop (mkF m 25 #[oA a, oU] [(.int (2 : Int32)), (.ref a)]))
  refine up ?_ fun t k => XS.iconst X540.here hx rfl (hb hby d14_25) (XS.isub X540.here hx rfl (hb hby d14_26) rfl k)
  show own_G (T540.setTop (mkF m 27 #[oA a, oU] [(.int (1 : Int32)), (.ref a)]))
  obtain ⟨T541, h541, X541, e541, W541, st541⟩ := putF X540 hx hZ hown (host := "") (Or.inl (hw _ (own_m 20 rfl))) Via.refl e540 F533 E_a_c534 (Or.inl (hw _ (own_m 21 rfl))) (hw _ (own_m 3 rfl)) (ty := .int) (by decide) rfl rfl (g := (mkF m 27 #[oA a, oU] [(.int (1 : Int32)), (.ref a)])) rfl rfl (hb hby d14_27)
  refine up ?_ st541
  have E_a_c542 := E_a_c534.wr W541
  have Fw_c542 := Fw_c534.other W541 (Or.inr (slot_ne (Or.inl (hw _ (own_m 14 rfl))) (Or.inl (hw _ (own_m 21 rfl))) (by decide) (t := (.array .long)) (t' := .int) (by decide) (by decide)))
  have Fp_c542 := Fp_c534.other W541 (Or.inr (slot_ne (Or.inl (hw _ (own_m 23 rfl))) (Or.inl (hw _ (own_m 21 rfl))) (by decide) (t := .int) (t' := .int) (by decide) (by decide)))
  have V_c542 := V_c534.other W541 (Ne.symm ne_ar)
  have F541 := F533.same W541
  have N541 := Fr.snoc X541 N539 g_a
  have kq543 := Nat.le_trans kq535 (Keep.of_wr W541).1
  have Zs544 : n0 ≤ h541.size := Nat.le_trans Zs536 (Keep.of_wr W541).1
  show own_G (T541.setTop (mkF m 30 #[oA a, oU] []))
  refine up ?_ fun t k => XS.goto X541.here hx rfl (pc0 := 30) (pc' := 0) rfl (hb hby d14_30) (by decide) (by decide) (XS.aloadN X541.here hx rfl (hb hby d14_0) rfl rfl k)
  show own_G (T541.setTop (mkF m 1 #[oA a, oU] [(.ref a)]))
  obtain ⟨T545, X545, e545, st545⟩ := getF X541 hx hZ hown (host := "") (Or.inl (hw _ (own_m 20 rfl))) Via.refl e541 F541 (g := (mkF m 1 #[oA a, oU] [(.ref a)])) rfl rfl (hb hby d14_1)
  refine up ?_ st545
  show own_G (T545.setTop (mkF m 4 #[oA a, oU] [(.int (1 : Int32))]))
  refine up ?_ fun t k => XS.ifNo X545.here hx rfl (hb hby d14_4) rfl ((if0 _ _).trans (tlt (by decide : ((0 : Int32) < (1 : Int32)))).2.2.2) (XS.aloadN X545.here hx rfl (hb hby d14_7) rfl rfl (XS.aloadN X545.here hx rfl (hb hby d14_8) rfl rfl k))
  show own_G (T545.setTop (mkF m 9 #[oA a, oU] [(.ref a), (.ref a)]))
  obtain ⟨T546, X546, e546, st546⟩ := getF X545 hx hZ hown (host := "") (Or.inl (hw _ (own_m 20 rfl))) Via.refl e545 F541 (g := (mkF m 9 #[oA a, oU] [(.ref a), (.ref a)])) rfl rfl (hb hby d14_9)
  refine up ?_ st546
  show own_G (T546.setTop (mkF m 12 #[oA a, oU] [(.int (1 : Int32)), (.ref a)]))
  refine up ?_ fun t k => XS.iconst X546.here hx rfl (hb hby d14_12) (XS.isub X546.here hx rfl (hb hby d14_13) rfl k)
  show own_G (T546.setTop (mkF m 14 #[oA a, oU] [(.int (0 : Int32)), (.ref a)]))
  obtain ⟨cq547, q547, q547'⟩ := E_a_c542.cell
  obtain ⟨_, _, ⟨T547, L547, k547, n547⟩, -, X547, ⟨Lc547, hQ547, l547, y547, z547⟩, st547⟩ := X546.privateBack hx (y := (⟨"com/example/eventweir/eventweir/ExactSum", "repeatsSign", "(I)Z"⟩ : MethodName)) hown (mvT hZ (hw _ (own_m 49 rfl))) (mvT hZ (hw _ (own_m 50 rfl))) (own_sel (by decide) (mvT hZ (hw _ (own_m 50 rfl))) (mvP hZ (hw _ (own_m 51 rfl))) (mvT hZ (hw _ (own_m 3 rfl)))) (Cond.privateMethod_at (mvP hZ (hw _ (own_m 51 rfl)) (args := #[]))) (mvT hZ (hw _ (own_m 52 rfl))) (by decide) (backOf (W := 0) (rmrs0 l Z a0 hw [] a r kr (4 : Int32) pw [(.long x3)] x0 x1 x2 (1 : Int32) h541 n0 Zs544 ⟨E_a_c542, Fw_c542, F541, Fp_c542, V_c542⟩ g_a g_r (own_cap4 x3) ) hZ (hw _ (own_m 52 rfl)) (hw _ (own_m 4 rfl)) (by decide) (by decide)) (g := (mkF m 14 #[oA a, oU] [(.int (0 : Int32)), (.ref a)])) rfl (by rw [hml]; rfl) (Steps.refl _) (a := a) (by rw [e546]; exact q547) q547' (argsL := [(.int (0 : Int32))]) (rest := []) (lenOf own_pd5 rfl) rfl (by show 2 * 0 + _ ≤ _; exact Nat.le_of_eq rfl) (hb hby d14_14) (fun _ _ => ⟨rfl, e546, (by decide : 0 + 0 ≤ _), (by decide : 0 + 0 ≤ _)⟩)
  dsimp only [Pt.U, Pt.locs, Pt.cells, Pt.slots] at X547 l547 y547 z547 st547 hQ547
  subst l547 y547 z547
  obtain ⟨rfl, Nq547, e547⟩ := hQ547
  have N547 := Fr.app N541 Nq547
  refine up ?_ (fun t k => st547.trans k)
  show own_G (T547.setTop (mkF m 17 #[oA a, oU] [(.int (if x0 = (0 : Int64) then (1 : Int32) else (0 : Int32)))]))
  refine up ?_ fun t k => XS.ifNo X547.here hx rfl (hb hby d14_17) rfl ((if0 _ _).trans (feq ((by rw [if_pos hz]; decide) : ¬ ((if x0 = (0 : Int64) then (1 : Int32) else (0 : Int32)) = (0 : Int32)))).1) (XS.aloadN X547.here hx rfl (hb hby d14_20) rfl rfl (XS.dup X547.here hx rfl (hb hby d14_21) rfl rfl k))
  show own_G (T547.setTop (mkF m 22 #[oA a, oU] [(.ref a), (.ref a)]))
  obtain ⟨T548, X548, e548, st548⟩ := getF X547 hx hZ hown (host := "") (Or.inl (hw _ (own_m 20 rfl))) Via.refl e547 F541 (g := (mkF m 22 #[oA a, oU] [(.ref a), (.ref a)])) rfl rfl (hb hby d14_22)
  refine up ?_ st548
  show own_G (T548.setTop (mkF m 25 #[oA a, oU] [(.int (1 : Int32)), (.ref a)]))
  refine up ?_ fun t k => XS.iconst X548.here hx rfl (hb hby d14_25) (XS.isub X548.here hx rfl (hb hby d14_26) rfl k)
  show own_G (T548.setTop (mkF m 27 #[oA a, oU] [(.int (0 : Int32)), (.ref a)]))
  obtain ⟨T549, h549, X549, e549, W549, st549⟩ := putF X548 hx hZ hown (host := "") (Or.inl (hw _ (own_m 20 rfl))) Via.refl e548 F541 E_a_c542 (Or.inl (hw _ (own_m 21 rfl))) (hw _ (own_m 3 rfl)) (ty := .int) (by decide) rfl rfl (g := (mkF m 27 #[oA a, oU] [(.int (0 : Int32)), (.ref a)])) rfl rfl (hb hby d14_27)
  refine up ?_ st549
  have E_a_c550 := E_a_c542.wr W549
  have Fw_c550 := Fw_c542.other W549 (Or.inr (slot_ne (Or.inl (hw _ (own_m 14 rfl))) (Or.inl (hw _ (own_m 21 rfl))) (by decide) (t := (.array .long)) (t' := .int) (by decide) (by decide)))
  have Fp_c550 := Fp_c542.other W549 (Or.inr (slot_ne (Or.inl (hw _ (own_m 23 rfl))) (Or.inl (hw _ (own_m 21 rfl))) (by decide) (t := .int) (t' := .int) (by decide) (by decide)))
  have V_c550 := V_c542.other W549 (Ne.symm ne_ar)
  have F549 := F541.same W549
  have N549 := Fr.snoc X549 N547 g_a
  have kq551 := Nat.le_trans kq543 (Keep.of_wr W549).1
  have Zs552 : n0 ≤ h549.size := Nat.le_trans Zs544 (Keep.of_wr W549).1
  show own_G (T549.setTop (mkF m 30 #[oA a, oU] []))
  refine up ?_ fun t k => XS.goto X549.here hx rfl (pc0 := 30) (pc' := 0) rfl (hb hby d14_30) (by decide) (by decide) (XS.aloadN X549.here hx rfl (hb hby d14_0) rfl rfl k)
  show own_G (T549.setTop (mkF m 1 #[oA a, oU] [(.ref a)]))
  obtain ⟨T553, X553, e553, st553⟩ := getF X549 hx hZ hown (host := "") (Or.inl (hw _ (own_m 20 rfl))) Via.refl e549 F549 (g := (mkF m 1 #[oA a, oU] [(.ref a)])) rfl rfl (hb hby d14_1)
  refine up ?_ st553
  show own_G (T553.setTop (mkF m 4 #[oA a, oU] [(.int (0 : Int32))]))
  refine up ?_ fun t k => XS.ifYes X553.here hx rfl (pc0 := 4) (pc' := 33) rfl (hb hby d14_4) rfl ((if0 _ _).trans (flt (by decide : ¬ ((0 : Int32) < (0 : Int32)))).2.2.2) (by decide) (by decide) (XS.iconst X553.here hx rfl (hb hby d14_33) (XS.istoreN X553.here hx rfl (hb hby d14_34) rfl (l' := #[oA a, oI (0 : Int32)]) rfl (XS.iloadN X553.here hx rfl (hb hby d14_35) rfl (XS.aloadN X553.here hx rfl (hb hby d14_36) rfl rfl k))))
  show own_G (T553.setTop (mkF m 37 #[oA a, oI (0 : Int32)] [(.ref a), (.int (0 : Int32))]))
  obtain ⟨T554, X554, e554, st554⟩ := getF X553 hx hZ hown (host := "") (Or.inl (hw _ (own_m 20 rfl))) Via.refl e553 F549 (g := (mkF m 37 #[oA a, oI (0 : Int32)] [(.ref a), (.int (0 : Int32))])) rfl rfl (hb hby d14_37)
  refine up ?_ st554
  show own_G (T554.setTop (mkF m 40 #[oA a, oI (0 : Int32)] [(.int (0 : Int32)), (.int (0 : Int32))]))
  refine up ?_ fun t k => XS.icmpYes X554.here hx rfl (pc0 := 40) (pc' := 60) rfl (hb hby d14_40) rfl (flt (by decide : ¬ ((0 : Int32) < (0 : Int32)))).2.1 (by decide) (by decide) (XS.iloadN X554.here hx rfl (hb hby d14_60) rfl k)
  show own_G (T554.setTop (mkF m 61 #[oA a, oI (0 : Int32)] [(.int (0 : Int32))]))
  refine up ?_ fun t k => XS.ifYes X554.here hx rfl (pc0 := 61) (pc' := 106) rfl (hb hby d14_61) rfl ((if0 _ _).trans (flt (by decide : ¬ ((0 : Int32) < (0 : Int32)))).2.2.2) (by decide) (by decide) (XS.aloadN X554.here hx rfl (hb hby d14_106) rfl rfl k)
  show own_G (T554.setTop (mkF m 107 #[oA a, oI (0 : Int32)] [(.ref a)]))
  obtain ⟨T555, X555, e555, st555⟩ := getF X554 hx hZ hown (host := "") (Or.inl (hw _ (own_m 13 rfl))) Via.refl e554 Fw_c550 (g := (mkF m 107 #[oA a, oI (0 : Int32)] [(.ref a)])) rfl rfl (hb hby d14_107)
  refine up ?_ st555
  show own_G (T555.setTop (mkF m 110 #[oA a, oI (0 : Int32)] [(.ref r)]))
  obtain ⟨cl556, Ar556, qa556, Sa556, Na556, Ha556, Ga556⟩ := id V_c550
  refine up ?_ fun t k => X555.arraylength hx (by rw [e555]; exact Ar556.1) (State.isArrayOf_alike hZ.alike Ar556.2.1) (g := (mkF m 110 #[oA a, oI (0 : Int32)] [(.ref r)])) rfl rfl (hb hby d14_110) _ k
  rw [len_of Sa556 Na556]
  show own_G (T555.setTop (mkF m 111 #[oA a, oI (0 : Int32)] [(.int (4 : Int32))]))
  refine up ?_ fun t k => XS.iconst X555.here hx rfl (hb hby d14_111) (XS.aloadN X555.here hx rfl (hb hby d14_112) rfl rfl k)
  show own_G (T555.setTop (mkF m 113 #[oA a, oI (0 : Int32)] [(.ref a), (.int (2 : Int32)), (.int (4 : Int32))]))
  obtain ⟨T557, X557, e557, st557⟩ := getF X555 hx hZ hown (host := "") (Or.inl (hw _ (own_m 20 rfl))) Via.refl e555 F549 (g := (mkF m 113 #[oA a, oI (0 : Int32)] [(.ref a), (.int (2 : Int32)), (.int (4 : Int32))])) rfl rfl (hb hby d14_113)
  refine up ?_ st557
  show own_G (T557.setTop (mkF m 116 #[oA a, oI (0 : Int32)] [(.int (0 : Int32)), (.int (2 : Int32)), (.int (4 : Int32))]))
  refine up ?_ fun t k => XS.imul X557.here hx rfl (hb hby d14_116) rfl (XS.bipush X557.here hx rfl (hb hby d14_117) (XS.iadd X557.here hx rfl (hb hby d14_119) rfl k))
  show own_G (T557.setTop (mkF m 120 #[oA a, oI (0 : Int32)] [(.int (8 : Int32)), (.int (4 : Int32))]))
  refine up ?_ fun t k => XS.icmpYes X557.here hx rfl (pc0 := 120) (pc' := 140) rfl (hb hby d14_120) rfl (flt (by decide : ¬ ((8 : Int32) < (4 : Int32)))).2.2.2 (by decide) (by decide) (XS.aloadN X557.here hx rfl (hb hby d14_140) rfl rfl k)
  show own_G (T557.setTop (mkF m 141 #[oA a, oI (0 : Int32)] [(.ref a)]))
  obtain ⟨T558, X558, e558, st558⟩ := getF X557 hx hZ hown (host := "") (Or.inl (hw _ (own_m 20 rfl))) Via.refl e557 F549 (g := (mkF m 141 #[oA a, oI (0 : Int32)] [(.ref a)])) rfl rfl (hb hby d14_141)
  refine up ?_ st558
  show own_G (T558.setTop (mkF m 144 #[oA a, oI (0 : Int32)] [(.int (0 : Int32))]))
  refine up ?_ fun t k => XS.ifYes X558.here hx rfl (pc0 := 144) (pc' := 157) rfl (hb hby d14_144) rfl ((if0 _ _).trans (flt (by decide : ¬ ((0 : Int32) < (0 : Int32)))).2.2.2) (by decide) (by decide) k
  show own_G (T558.setTop (mkF m 157 #[oA a, oI (0 : Int32)] []))
  exact own_retV X558 hx hlk hret (hb hby d14_157) (by rw [e558]; exact ⟨rfl, N549, kq551, ⟨E_a_c550, Fw_c550, F549, Fp_c550, V_c550⟩⟩) (by decide) (by decide)
def own_Q_rmn4a (Z : State) (a : Addr) (r : Addr) (kr : ClassId) (pw : Int32) (x0 : Int64) (x1 : Int64) (x2 : Int64) (x3 : Int64) (h0 : Heap) (n0 : Nat) (v : Option Value) (h : Heap) (L : List Loc) : Prop := v = none ∧ Fr n0 L ∧ h0.size ≤ h.size ∧ own_O Z h a r kr (4 : Int32) (2 : Int32) pw [(.long x0), (.long (own_sg x0)), (.long x2), (.long x3)]
theorem rmn4a (l : Launch) (Z : State) (a0 : Array Value) (hw : own_W Z a0) (ws : List Jvm.Cond) (a : Addr) (r : Addr) (kr : ClassId) (pw : Int32) (x0 : Int64) (x1 : Int64) (x2 : Int64) (x3 : Int64) (h0 : Heap) (n0 : Nat) (Z0 : n0 ≤ h0.size) (O0 : own_O Z h0 a r kr (4 : Int32) (4 : Int32) pw [(.long x0), (.long x1), (.long x2), (.long x3)]) (g_a : n0 ≤ a) (g_r : n0 ≤ r) (h2 : x2 = own_sg x1) (h3 : x3 = own_sg x2) (h1 : x1 = own_sg x0) (hz : ¬ (x0 = (0 : Int64))) :
    own_M l Z (⟨"com/example/eventweir/eventweir/ExactSum", "normalize", "()V"⟩ : MethodName) prog_78_method_12_code 2 none ws ({ frames := 1, cells := 0, slots := 0, locals := 16 } : Room) #[(.ref a)] h0 (own_Q_rmn4a Z a r kr pw x0 x1 x2 x3 h0 n0) := by
  refine own_body (plainFor_of_name own_pn0) ?_
  intro p e s m below meth c s₁ hx hZ hby hml hown hnm hlk hret X0 e0
  have N0 := Fr.nil n0
  obtain ⟨E_a, Fw, Fl, Fp, V⟩ := O0
  have ne_ar : a ≠ r := E_a.neArv V (hw _ (own_m 3 rfl))
  refine up (U' := s₁.setTop (mkF m 0 #[oA a, oU] [])) ?_ (fun t k => castTop (own_ef_rmn3z m a) k)
  refine up ?_ fun t k => XS.aloadN X0.here hx rfl (hb hby d14_0) rfl rfl k
  show own_G (s₁.setTop (mkF m 1 #[oA a, oU] [(.ref a)]))
  obtain ⟨T559, X559, e559, st559⟩ := getF X0 hx hZ hown (host := "") (Or.inl (hw _ (own_m 20 rfl))) Via.refl e0 Fl (g := (mkF m 1 #[oA a, oU] [(.ref a)])) rfl rfl (hb hby d14_1)
  refine up ?_ st559
  show own_G (T559.setTop (mkF m 4 #[oA a, oU] [(.int (4 : Int32))]))
  refine up ?_ fun t k => XS.ifNo X559.here hx rfl (hb hby d14_4) rfl ((if0 _ _).trans (tlt (by decide : ((0 : Int32) < (4 : Int32)))).2.2.2) (XS.aloadN X559.here hx rfl (hb hby d14_7) rfl rfl (XS.aloadN X559.here hx rfl (hb hby d14_8) rfl rfl k))
  show own_G (T559.setTop (mkF m 9 #[oA a, oU] [(.ref a), (.ref a)]))
  obtain ⟨T560, X560, e560, st560⟩ := getF X559 hx hZ hown (host := "") (Or.inl (hw _ (own_m 20 rfl))) Via.refl e559 Fl (g := (mkF m 9 #[oA a, oU] [(.ref a), (.ref a)])) rfl rfl (hb hby d14_9)
  refine up ?_ st560
  show own_G (T560.setTop (mkF m 12 #[oA a, oU] [(.int (4 : Int32)), (.ref a)]))
  refine up ?_ fun t k => XS.iconst X560.here hx rfl (hb hby d14_12) (XS.isub X560.here hx rfl (hb hby d14_13) rfl k)
  show own_G (T560.setTop (mkF m 14 #[oA a, oU] [(.int (3 : Int32)), (.ref a)]))
  obtain ⟨cq561, q561, q561'⟩ := E_a.cell
  obtain ⟨_, _, ⟨T561, L561, k561, n561⟩, -, X561, ⟨Lc561, hQ561, l561, y561, z561⟩, st561⟩ := X560.privateBack hx (y := (⟨"com/example/eventweir/eventweir/ExactSum", "repeatsSign", "(I)Z"⟩ : MethodName)) hown (mvT hZ (hw _ (own_m 49 rfl))) (mvT hZ (hw _ (own_m 50 rfl))) (own_sel (by decide) (mvT hZ (hw _ (own_m 50 rfl))) (mvP hZ (hw _ (own_m 51 rfl))) (mvT hZ (hw _ (own_m 3 rfl)))) (Cond.privateMethod_at (mvP hZ (hw _ (own_m 51 rfl)) (args := #[]))) (mvT hZ (hw _ (own_m 52 rfl))) (by decide) (backOf (W := 0) (rmrs3 l Z a0 hw [] a r kr pw x0 x1 x2 x3 (4 : Int32) h0 n0 Z0 ⟨E_a, Fw, Fl, Fp, V⟩ g_a g_r ) hZ (hw _ (own_m 52 rfl)) (hw _ (own_m 4 rfl)) (by decide) (by decide)) (g := (mkF m 14 #[oA a, oU] [(.int (3 : Int32)), (.ref a)])) rfl (by rw [hml]; rfl) (Steps.refl _) (a := a) (by rw [e560]; exact q561) q561' (argsL := [(.int (3 : Int32))]) (rest := []) (lenOf own_pd5 rfl) rfl (by show 2 * 0 + _ ≤ _; exact Nat.le_of_eq rfl) (hb hby d14_14) (fun _ _ => ⟨rfl, e560, (by decide : 0 + 0 ≤ _), (by decide : 0 + 0 ≤ _)⟩)
  dsimp only [Pt.U, Pt.locs, Pt.cells, Pt.slots] at X561 l561 y561 z561 st561 hQ561
  subst l561 y561 z561
  obtain ⟨rfl, Nq561, e561⟩ := hQ561
  have N561 := Fr.app N0 Nq561
  refine up ?_ (fun t k => st561.trans k)
  show own_G (T561.setTop (mkF m 17 #[oA a, oU] [(.int (if x3 = own_sg x2 then (1 : Int32) else (0 : Int32)))]))
  refine up ?_ fun t k => XS.ifNo X561.here hx rfl (hb hby d14_17) rfl ((if0 _ _).trans (feq ((by rw [if_pos h3]; decide) : ¬ ((if x3 = own_sg x2 then (1 : Int32) else (0 : Int32)) = (0 : Int32)))).1) (XS.aloadN X561.here hx rfl (hb hby d14_20) rfl rfl (XS.dup X561.here hx rfl (hb hby d14_21) rfl rfl k))
  show own_G (T561.setTop (mkF m 22 #[oA a, oU] [(.ref a), (.ref a)]))
  obtain ⟨T562, X562, e562, st562⟩ := getF X561 hx hZ hown (host := "") (Or.inl (hw _ (own_m 20 rfl))) Via.refl e561 Fl (g := (mkF m 22 #[oA a, oU] [(.ref a), (.ref a)])) rfl rfl (hb hby d14_22)
  refine up ?_ st562
  show own_G (T562.setTop (mkF m 25 #[oA a, oU] [(.int (4 : Int32)), (.ref a)]))
  refine up ?_ fun t k => XS.iconst X562.here hx rfl (hb hby d14_25) (XS.isub X562.here hx rfl (hb hby d14_26) rfl k)
  show own_G (T562.setTop (mkF m 27 #[oA a, oU] [(.int (3 : Int32)), (.ref a)]))
  obtain ⟨T563, h563, X563, e563, W563, st563⟩ := putF X562 hx hZ hown (host := "") (Or.inl (hw _ (own_m 20 rfl))) Via.refl e562 Fl E_a (Or.inl (hw _ (own_m 21 rfl))) (hw _ (own_m 3 rfl)) (ty := .int) (by decide) rfl rfl (g := (mkF m 27 #[oA a, oU] [(.int (3 : Int32)), (.ref a)])) rfl rfl (hb hby d14_27)
  refine up ?_ st563
  have E_a_c564 := E_a.wr W563
  have Fw_c564 := Fw.other W563 (Or.inr (slot_ne (Or.inl (hw _ (own_m 14 rfl))) (Or.inl (hw _ (own_m 21 rfl))) (by decide) (t := (.array .long)) (t' := .int) (by decide) (by decide)))
  have Fp_c564 := Fp.other W563 (Or.inr (slot_ne (Or.inl (hw _ (own_m 23 rfl))) (Or.inl (hw _ (own_m 21 rfl))) (by decide) (t := .int) (t' := .int) (by decide) (by decide)))
  have V_c564 := V.other W563 (Ne.symm ne_ar)
  have F563 := Fl.same W563
  have N563 := Fr.snoc X563 N561 g_a
  have kq565 := Nat.le_trans (Nat.le_refl h0.size) (Keep.of_wr W563).1
  have Zs566 : n0 ≤ h563.size := Nat.le_trans Z0 (Keep.of_wr W563).1
  show own_G (T563.setTop (mkF m 30 #[oA a, oU] []))
  refine up ?_ fun t k => XS.goto X563.here hx rfl (pc0 := 30) (pc' := 0) rfl (hb hby d14_30) (by decide) (by decide) (XS.aloadN X563.here hx rfl (hb hby d14_0) rfl rfl k)
  show own_G (T563.setTop (mkF m 1 #[oA a, oU] [(.ref a)]))
  obtain ⟨T567, X567, e567, st567⟩ := getF X563 hx hZ hown (host := "") (Or.inl (hw _ (own_m 20 rfl))) Via.refl e563 F563 (g := (mkF m 1 #[oA a, oU] [(.ref a)])) rfl rfl (hb hby d14_1)
  refine up ?_ st567
  show own_G (T567.setTop (mkF m 4 #[oA a, oU] [(.int (3 : Int32))]))
  refine up ?_ fun t k => XS.ifNo X567.here hx rfl (hb hby d14_4) rfl ((if0 _ _).trans (tlt (by decide : ((0 : Int32) < (3 : Int32)))).2.2.2) (XS.aloadN X567.here hx rfl (hb hby d14_7) rfl rfl (XS.aloadN X567.here hx rfl (hb hby d14_8) rfl rfl k))
  show own_G (T567.setTop (mkF m 9 #[oA a, oU] [(.ref a), (.ref a)]))
  obtain ⟨T568, X568, e568, st568⟩ := getF X567 hx hZ hown (host := "") (Or.inl (hw _ (own_m 20 rfl))) Via.refl e567 F563 (g := (mkF m 9 #[oA a, oU] [(.ref a), (.ref a)])) rfl rfl (hb hby d14_9)
  refine up ?_ st568
  show own_G (T568.setTop (mkF m 12 #[oA a, oU] [(.int (3 : Int32)), (.ref a)]))
  refine up ?_ fun t k => XS.iconst X568.here hx rfl (hb hby d14_12) (XS.isub X568.here hx rfl (hb hby d14_13) rfl k)
  show own_G (T568.setTop (mkF m 14 #[oA a, oU] [(.int (2 : Int32)), (.ref a)]))
  obtain ⟨cq569, q569, q569'⟩ := E_a_c564.cell
  obtain ⟨_, _, ⟨T569, L569, k569, n569⟩, -, X569, ⟨Lc569, hQ569, l569, y569, z569⟩, st569⟩ := X568.privateBack hx (y := (⟨"com/example/eventweir/eventweir/ExactSum", "repeatsSign", "(I)Z"⟩ : MethodName)) hown (mvT hZ (hw _ (own_m 49 rfl))) (mvT hZ (hw _ (own_m 50 rfl))) (own_sel (by decide) (mvT hZ (hw _ (own_m 50 rfl))) (mvP hZ (hw _ (own_m 51 rfl))) (mvT hZ (hw _ (own_m 3 rfl)))) (Cond.privateMethod_at (mvP hZ (hw _ (own_m 51 rfl)) (args := #[]))) (mvT hZ (hw _ (own_m 52 rfl))) (by decide) (backOf (W := 0) (rmrs2 l Z a0 hw [] a r kr (4 : Int32) pw [(.long x3)] x0 x1 x2 (3 : Int32) h563 n0 Zs566 ⟨E_a_c564, Fw_c564, F563, Fp_c564, V_c564⟩ g_a g_r (own_cap4 x3) ) hZ (hw _ (own_m 52 rfl)) (hw _ (own_m 4 rfl)) (by decide) (by decide)) (g := (mkF m 14 #[oA a, oU] [(.int (2 : Int32)), (.ref a)])) rfl (by rw [hml]; rfl) (Steps.refl _) (a := a) (by rw [e568]; exact q569) q569' (argsL := [(.int (2 : Int32))]) (rest := []) (lenOf own_pd5 rfl) rfl (by show 2 * 0 + _ ≤ _; exact Nat.le_of_eq rfl) (hb hby d14_14) (fun _ _ => ⟨rfl, e568, (by decide : 0 + 0 ≤ _), (by decide : 0 + 0 ≤ _)⟩)
  dsimp only [Pt.U, Pt.locs, Pt.cells, Pt.slots] at X569 l569 y569 z569 st569 hQ569
  subst l569 y569 z569
  obtain ⟨rfl, Nq569, e569⟩ := hQ569
  have N569 := Fr.app N563 Nq569
  refine up ?_ (fun t k => st569.trans k)
  show own_G (T569.setTop (mkF m 17 #[oA a, oU] [(.int (if x2 = own_sg x1 then (1 : Int32) else (0 : Int32)))]))
  refine up ?_ fun t k => XS.ifNo X569.here hx rfl (hb hby d14_17) rfl ((if0 _ _).trans (feq ((by rw [if_pos h2]; decide) : ¬ ((if x2 = own_sg x1 then (1 : Int32) else (0 : Int32)) = (0 : Int32)))).1) (XS.aloadN X569.here hx rfl (hb hby d14_20) rfl rfl (XS.dup X569.here hx rfl (hb hby d14_21) rfl rfl k))
  show own_G (T569.setTop (mkF m 22 #[oA a, oU] [(.ref a), (.ref a)]))
  obtain ⟨T570, X570, e570, st570⟩ := getF X569 hx hZ hown (host := "") (Or.inl (hw _ (own_m 20 rfl))) Via.refl e569 F563 (g := (mkF m 22 #[oA a, oU] [(.ref a), (.ref a)])) rfl rfl (hb hby d14_22)
  refine up ?_ st570
  show own_G (T570.setTop (mkF m 25 #[oA a, oU] [(.int (3 : Int32)), (.ref a)]))
  refine up ?_ fun t k => XS.iconst X570.here hx rfl (hb hby d14_25) (XS.isub X570.here hx rfl (hb hby d14_26) rfl k)
  show own_G (T570.setTop (mkF m 27 #[oA a, oU] [(.int (2 : Int32)), (.ref a)]))
  obtain ⟨T571, h571, X571, e571, W571, st571⟩ := putF X570 hx hZ hown (host := "") (Or.inl (hw _ (own_m 20 rfl))) Via.refl e570 F563 E_a_c564 (Or.inl (hw _ (own_m 21 rfl))) (hw _ (own_m 3 rfl)) (ty := .int) (by decide) rfl rfl (g := (mkF m 27 #[oA a, oU] [(.int (2 : Int32)), (.ref a)])) rfl rfl (hb hby d14_27)
  refine up ?_ st571
  have E_a_c572 := E_a_c564.wr W571
  have Fw_c572 := Fw_c564.other W571 (Or.inr (slot_ne (Or.inl (hw _ (own_m 14 rfl))) (Or.inl (hw _ (own_m 21 rfl))) (by decide) (t := (.array .long)) (t' := .int) (by decide) (by decide)))
  have Fp_c572 := Fp_c564.other W571 (Or.inr (slot_ne (Or.inl (hw _ (own_m 23 rfl))) (Or.inl (hw _ (own_m 21 rfl))) (by decide) (t := .int) (t' := .int) (by decide) (by decide)))
  have V_c572 := V_c564.other W571 (Ne.symm ne_ar)
  have F571 := F563.same W571
  have N571 := Fr.snoc X571 N569 g_a
  have kq573 := Nat.le_trans kq565 (Keep.of_wr W571).1
  have Zs574 : n0 ≤ h571.size := Nat.le_trans Zs566 (Keep.of_wr W571).1
  show own_G (T571.setTop (mkF m 30 #[oA a, oU] []))
  refine up ?_ fun t k => XS.goto X571.here hx rfl (pc0 := 30) (pc' := 0) rfl (hb hby d14_30) (by decide) (by decide) (XS.aloadN X571.here hx rfl (hb hby d14_0) rfl rfl k)
  show own_G (T571.setTop (mkF m 1 #[oA a, oU] [(.ref a)]))
  obtain ⟨T575, X575, e575, st575⟩ := getF X571 hx hZ hown (host := "") (Or.inl (hw _ (own_m 20 rfl))) Via.refl e571 F571 (g := (mkF m 1 #[oA a, oU] [(.ref a)])) rfl rfl (hb hby d14_1)
  refine up ?_ st575
  show own_G (T575.setTop (mkF m 4 #[oA a, oU] [(.int (2 : Int32))]))
  refine up ?_ fun t k => XS.ifNo X575.here hx rfl (hb hby d14_4) rfl ((if0 _ _).trans (tlt (by decide : ((0 : Int32) < (2 : Int32)))).2.2.2) (XS.aloadN X575.here hx rfl (hb hby d14_7) rfl rfl (XS.aloadN X575.here hx rfl (hb hby d14_8) rfl rfl k))
  show own_G (T575.setTop (mkF m 9 #[oA a, oU] [(.ref a), (.ref a)]))
  obtain ⟨T576, X576, e576, st576⟩ := getF X575 hx hZ hown (host := "") (Or.inl (hw _ (own_m 20 rfl))) Via.refl e575 F571 (g := (mkF m 9 #[oA a, oU] [(.ref a), (.ref a)])) rfl rfl (hb hby d14_9)
  refine up ?_ st576
  show own_G (T576.setTop (mkF m 12 #[oA a, oU] [(.int (2 : Int32)), (.ref a)]))
  refine up ?_ fun t k => XS.iconst X576.here hx rfl (hb hby d14_12) (XS.isub X576.here hx rfl (hb hby d14_13) rfl k)
  show own_G (T576.setTop (mkF m 14 #[oA a, oU] [(.int (1 : Int32)), (.ref a)]))
  obtain ⟨cq577, q577, q577'⟩ := E_a_c572.cell
  obtain ⟨_, _, ⟨T577, L577, k577, n577⟩, -, X577, ⟨Lc577, hQ577, l577, y577, z577⟩, st577⟩ := X576.privateBack hx (y := (⟨"com/example/eventweir/eventweir/ExactSum", "repeatsSign", "(I)Z"⟩ : MethodName)) hown (mvT hZ (hw _ (own_m 49 rfl))) (mvT hZ (hw _ (own_m 50 rfl))) (own_sel (by decide) (mvT hZ (hw _ (own_m 50 rfl))) (mvP hZ (hw _ (own_m 51 rfl))) (mvT hZ (hw _ (own_m 3 rfl)))) (Cond.privateMethod_at (mvP hZ (hw _ (own_m 51 rfl)) (args := #[]))) (mvT hZ (hw _ (own_m 52 rfl))) (by decide) (backOf (W := 0) (rmrs1 l Z a0 hw [] a r kr (4 : Int32) pw [(.long x3)] x0 x1 x2 (2 : Int32) h571 n0 Zs574 ⟨E_a_c572, Fw_c572, F571, Fp_c572, V_c572⟩ g_a g_r (own_cap4 x3) ) hZ (hw _ (own_m 52 rfl)) (hw _ (own_m 4 rfl)) (by decide) (by decide)) (g := (mkF m 14 #[oA a, oU] [(.int (1 : Int32)), (.ref a)])) rfl (by rw [hml]; rfl) (Steps.refl _) (a := a) (by rw [e576]; exact q577) q577' (argsL := [(.int (1 : Int32))]) (rest := []) (lenOf own_pd5 rfl) rfl (by show 2 * 0 + _ ≤ _; exact Nat.le_of_eq rfl) (hb hby d14_14) (fun _ _ => ⟨rfl, e576, (by decide : 0 + 0 ≤ _), (by decide : 0 + 0 ≤ _)⟩)
  dsimp only [Pt.U, Pt.locs, Pt.cells, Pt.slots] at X577 l577 y577 z577 st577 hQ577
  subst l577 y577 z577
  obtain ⟨rfl, Nq577, e577⟩ := hQ577
  have N577 := Fr.app N571 Nq577
  refine up ?_ (fun t k => st577.trans k)
  show own_G (T577.setTop (mkF m 17 #[oA a, oU] [(.int (if x1 = own_sg x0 then (1 : Int32) else (0 : Int32)))]))
  refine up ?_ fun t k => XS.ifNo X577.here hx rfl (hb hby d14_17) rfl ((if0 _ _).trans (feq ((by rw [if_pos h1]; decide) : ¬ ((if x1 = own_sg x0 then (1 : Int32) else (0 : Int32)) = (0 : Int32)))).1) (XS.aloadN X577.here hx rfl (hb hby d14_20) rfl rfl (XS.dup X577.here hx rfl (hb hby d14_21) rfl rfl k))
  show own_G (T577.setTop (mkF m 22 #[oA a, oU] [(.ref a), (.ref a)]))
  obtain ⟨T578, X578, e578, st578⟩ := getF X577 hx hZ hown (host := "") (Or.inl (hw _ (own_m 20 rfl))) Via.refl e577 F571 (g := (mkF m 22 #[oA a, oU] [(.ref a), (.ref a)])) rfl rfl (hb hby d14_22)
  refine up ?_ st578
  show own_G (T578.setTop (mkF m 25 #[oA a, oU] [(.int (2 : Int32)), (.ref a)]))
  refine up ?_ fun t k => XS.iconst X578.here hx rfl (hb hby d14_25) (XS.isub X578.here hx rfl (hb hby d14_26) rfl k)
  show own_G (T578.setTop (mkF m 27 #[oA a, oU] [(.int (1 : Int32)), (.ref a)]))
  obtain ⟨T579, h579, X579, e579, W579, st579⟩ := putF X578 hx hZ hown (host := "") (Or.inl (hw _ (own_m 20 rfl))) Via.refl e578 F571 E_a_c572 (Or.inl (hw _ (own_m 21 rfl))) (hw _ (own_m 3 rfl)) (ty := .int) (by decide) rfl rfl (g := (mkF m 27 #[oA a, oU] [(.int (1 : Int32)), (.ref a)])) rfl rfl (hb hby d14_27)
  refine up ?_ st579
  have E_a_c580 := E_a_c572.wr W579
  have Fw_c580 := Fw_c572.other W579 (Or.inr (slot_ne (Or.inl (hw _ (own_m 14 rfl))) (Or.inl (hw _ (own_m 21 rfl))) (by decide) (t := (.array .long)) (t' := .int) (by decide) (by decide)))
  have Fp_c580 := Fp_c572.other W579 (Or.inr (slot_ne (Or.inl (hw _ (own_m 23 rfl))) (Or.inl (hw _ (own_m 21 rfl))) (by decide) (t := .int) (t' := .int) (by decide) (by decide)))
  have V_c580 := V_c572.other W579 (Ne.symm ne_ar)
  have F579 := F571.same W579
  have N579 := Fr.snoc X579 N577 g_a
  have kq581 := Nat.le_trans kq573 (Keep.of_wr W579).1
  have Zs582 : n0 ≤ h579.size := Nat.le_trans Zs574 (Keep.of_wr W579).1
  show own_G (T579.setTop (mkF m 30 #[oA a, oU] []))
  refine up ?_ fun t k => XS.goto X579.here hx rfl (pc0 := 30) (pc' := 0) rfl (hb hby d14_30) (by decide) (by decide) (XS.aloadN X579.here hx rfl (hb hby d14_0) rfl rfl k)
  show own_G (T579.setTop (mkF m 1 #[oA a, oU] [(.ref a)]))
  obtain ⟨T583, X583, e583, st583⟩ := getF X579 hx hZ hown (host := "") (Or.inl (hw _ (own_m 20 rfl))) Via.refl e579 F579 (g := (mkF m 1 #[oA a, oU] [(.ref a)])) rfl rfl (hb hby d14_1)
  refine up ?_ st583
  show own_G (T583.setTop (mkF m 4 #[oA a, oU] [(.int (1 : Int32))]))
  refine up ?_ fun t k => XS.ifNo X583.here hx rfl (hb hby d14_4) rfl ((if0 _ _).trans (tlt (by decide : ((0 : Int32) < (1 : Int32)))).2.2.2) (XS.aloadN X583.here hx rfl (hb hby d14_7) rfl rfl (XS.aloadN X583.here hx rfl (hb hby d14_8) rfl rfl k))
  show own_G (T583.setTop (mkF m 9 #[oA a, oU] [(.ref a), (.ref a)]))
  obtain ⟨T584, X584, e584, st584⟩ := getF X583 hx hZ hown (host := "") (Or.inl (hw _ (own_m 20 rfl))) Via.refl e583 F579 (g := (mkF m 9 #[oA a, oU] [(.ref a), (.ref a)])) rfl rfl (hb hby d14_9)
  refine up ?_ st584
  show own_G (T584.setTop (mkF m 12 #[oA a, oU] [(.int (1 : Int32)), (.ref a)]))
  refine up ?_ fun t k => XS.iconst X584.here hx rfl (hb hby d14_12) (XS.isub X584.here hx rfl (hb hby d14_13) rfl k)
  show own_G (T584.setTop (mkF m 14 #[oA a, oU] [(.int (0 : Int32)), (.ref a)]))
  obtain ⟨cq585, q585, q585'⟩ := E_a_c580.cell
  obtain ⟨_, _, ⟨T585, L585, k585, n585⟩, -, X585, ⟨Lc585, hQ585, l585, y585, z585⟩, st585⟩ := X584.privateBack hx (y := (⟨"com/example/eventweir/eventweir/ExactSum", "repeatsSign", "(I)Z"⟩ : MethodName)) hown (mvT hZ (hw _ (own_m 49 rfl))) (mvT hZ (hw _ (own_m 50 rfl))) (own_sel (by decide) (mvT hZ (hw _ (own_m 50 rfl))) (mvP hZ (hw _ (own_m 51 rfl))) (mvT hZ (hw _ (own_m 3 rfl)))) (Cond.privateMethod_at (mvP hZ (hw _ (own_m 51 rfl)) (args := #[]))) (mvT hZ (hw _ (own_m 52 rfl))) (by decide) (backOf (W := 0) (rmrs0 l Z a0 hw [] a r kr (4 : Int32) pw [(.long x3)] x0 x1 x2 (1 : Int32) h579 n0 Zs582 ⟨E_a_c580, Fw_c580, F579, Fp_c580, V_c580⟩ g_a g_r (own_cap4 x3) ) hZ (hw _ (own_m 52 rfl)) (hw _ (own_m 4 rfl)) (by decide) (by decide)) (g := (mkF m 14 #[oA a, oU] [(.int (0 : Int32)), (.ref a)])) rfl (by rw [hml]; rfl) (Steps.refl _) (a := a) (by rw [e584]; exact q585) q585' (argsL := [(.int (0 : Int32))]) (rest := []) (lenOf own_pd5 rfl) rfl (by show 2 * 0 + _ ≤ _; exact Nat.le_of_eq rfl) (hb hby d14_14) (fun _ _ => ⟨rfl, e584, (by decide : 0 + 0 ≤ _), (by decide : 0 + 0 ≤ _)⟩)
  dsimp only [Pt.U, Pt.locs, Pt.cells, Pt.slots] at X585 l585 y585 z585 st585 hQ585
  subst l585 y585 z585
  obtain ⟨rfl, Nq585, e585⟩ := hQ585
  have N585 := Fr.app N579 Nq585
  refine up ?_ (fun t k => st585.trans k)
  show own_G (T585.setTop (mkF m 17 #[oA a, oU] [(.int (if x0 = (0 : Int64) then (1 : Int32) else (0 : Int32)))]))
  refine up ?_ fun t k => XS.ifYes X585.here hx rfl (pc0 := 17) (pc' := 33) rfl (hb hby d14_17) rfl ((if0 _ _).trans (teq ((by rw [if_neg hz]) : ((if x0 = (0 : Int64) then (1 : Int32) else (0 : Int32)) = (0 : Int32)))).1) (by decide) (by decide) (XS.iconst X585.here hx rfl (hb hby d14_33) (XS.istoreN X585.here hx rfl (hb hby d14_34) rfl (l' := #[oA a, oI (0 : Int32)]) rfl (XS.iloadN X585.here hx rfl (hb hby d14_35) rfl (XS.aloadN X585.here hx rfl (hb hby d14_36) rfl rfl k))))
  show own_G (T585.setTop (mkF m 37 #[oA a, oI (0 : Int32)] [(.ref a), (.int (0 : Int32))]))
  obtain ⟨T586, X586, e586, st586⟩ := getF X585 hx hZ hown (host := "") (Or.inl (hw _ (own_m 20 rfl))) Via.refl e585 F579 (g := (mkF m 37 #[oA a, oI (0 : Int32)] [(.ref a), (.int (0 : Int32))])) rfl rfl (hb hby d14_37)
  refine up ?_ st586
  show own_G (T586.setTop (mkF m 40 #[oA a, oI (0 : Int32)] [(.int (1 : Int32)), (.int (0 : Int32))]))
  refine up ?_ fun t k => XS.icmpNo X586.here hx rfl (hb hby d14_40) rfl (tlt (by decide : ((0 : Int32) < (1 : Int32)))).2.1 (XS.aloadN X586.here hx rfl (hb hby d14_43) rfl rfl k)
  show own_G (T586.setTop (mkF m 44 #[oA a, oI (0 : Int32)] [(.ref a)]))
  obtain ⟨T587, X587, e587, st587⟩ := getF X586 hx hZ hown (host := "") (Or.inl (hw _ (own_m 13 rfl))) Via.refl e586 Fw_c580 (g := (mkF m 44 #[oA a, oI (0 : Int32)] [(.ref a)])) rfl rfl (hb hby d14_44)
  refine up ?_ st587
  show own_G (T587.setTop (mkF m 47 #[oA a, oI (0 : Int32)] [(.ref r)]))
  refine up ?_ fun t k => XS.iloadN X587.here hx rfl (hb hby d14_47) rfl k
  show own_G (T587.setTop (mkF m 48 #[oA a, oI (0 : Int32)] [(.int (0 : Int32)), (.ref r)]))
  obtain ⟨cl588, Ar588, qa588, Sa588, Na588, Ha588, Ga588⟩ := id V_c580
  have hin588 : ¬ ((0 : Int32) < 0 ∨ cl588.slots.size ≤ ((0 : Int32)).toNatClampNeg) := inb_of Sa588 ⟨by decide, by decide⟩
  refine up ?_ fun t k => X587.laload hx (j := (0 : Int32)) (v := (.long x0)) (by rw [e587]; exact Ar588.1) (State.isArrayOf_alike hZ.alike Ar588.2.1) Ar588.2.2 hin588 (Ha588.at hin588 rfl) (g := (mkF m 48 #[oA a, oI (0 : Int32)] [(.int (0 : Int32)), (.ref r)])) rfl rfl (hb hby d14_48) _ (XS.lconst X587.here hx rfl (hb hby d14_49) (XS.lcmp X587.here hx rfl (hb hby d14_50) rfl k))
  show own_G (T587.setTop (mkF m 51 #[oA a, oI (0 : Int32)] [(.int (lcmpW x0 (0 : Int64)))]))
  refine up ?_ fun t k => XS.ifYes X587.here hx rfl (pc0 := 51) (pc' := 60) rfl (hb hby d14_51) rfl ((if0 _ _).trans (feq (fun q => (hz : ¬ (x0 = (0 : Int64))) ((lw_eq _ _).mp q))).2) (by decide) (by decide) (XS.iloadN X587.here hx rfl (hb hby d14_60) rfl k)
  show own_G (T587.setTop (mkF m 61 #[oA a, oI (0 : Int32)] [(.int (0 : Int32))]))
  refine up ?_ fun t k => XS.ifYes X587.here hx rfl (pc0 := 61) (pc' := 106) rfl (hb hby d14_61) rfl ((if0 _ _).trans (flt (by decide : ¬ ((0 : Int32) < (0 : Int32)))).2.2.2) (by decide) (by decide) (XS.aloadN X587.here hx rfl (hb hby d14_106) rfl rfl k)
  show own_G (T587.setTop (mkF m 107 #[oA a, oI (0 : Int32)] [(.ref a)]))
  obtain ⟨T589, X589, e589, st589⟩ := getF X587 hx hZ hown (host := "") (Or.inl (hw _ (own_m 13 rfl))) Via.refl e587 Fw_c580 (g := (mkF m 107 #[oA a, oI (0 : Int32)] [(.ref a)])) rfl rfl (hb hby d14_107)
  refine up ?_ st589
  show own_G (T589.setTop (mkF m 110 #[oA a, oI (0 : Int32)] [(.ref r)]))
  obtain ⟨cl590, Ar590, qa590, Sa590, Na590, Ha590, Ga590⟩ := id V_c580
  refine up ?_ fun t k => X589.arraylength hx (by rw [e589]; exact Ar590.1) (State.isArrayOf_alike hZ.alike Ar590.2.1) (g := (mkF m 110 #[oA a, oI (0 : Int32)] [(.ref r)])) rfl rfl (hb hby d14_110) _ k
  rw [len_of Sa590 Na590]
  show own_G (T589.setTop (mkF m 111 #[oA a, oI (0 : Int32)] [(.int (4 : Int32))]))
  refine up ?_ fun t k => XS.iconst X589.here hx rfl (hb hby d14_111) (XS.aloadN X589.here hx rfl (hb hby d14_112) rfl rfl k)
  show own_G (T589.setTop (mkF m 113 #[oA a, oI (0 : Int32)] [(.ref a), (.int (2 : Int32)), (.int (4 : Int32))]))
  obtain ⟨T591, X591, e591, st591⟩ := getF X589 hx hZ hown (host := "") (Or.inl (hw _ (own_m 20 rfl))) Via.refl e589 F579 (g := (mkF m 113 #[oA a, oI (0 : Int32)] [(.ref a), (.int (2 : Int32)), (.int (4 : Int32))])) rfl rfl (hb hby d14_113)
  refine up ?_ st591
  show own_G (T591.setTop (mkF m 116 #[oA a, oI (0 : Int32)] [(.int (1 : Int32)), (.int (2 : Int32)), (.int (4 : Int32))]))
  refine up ?_ fun t k => XS.imul X591.here hx rfl (hb hby d14_116) rfl (XS.bipush X591.here hx rfl (hb hby d14_117) (XS.iadd X591.here hx rfl (hb hby d14_119) rfl k))
  show own_G (T591.setTop (mkF m 120 #[oA a, oI (0 : Int32)] [(.int (10 : Int32)), (.int (4 : Int32))]))
  refine up ?_ fun t k => XS.icmpYes X591.here hx rfl (pc0 := 120) (pc' := 140) rfl (hb hby d14_120) rfl (flt (by decide : ¬ ((10 : Int32) < (4 : Int32)))).2.2.2 (by decide) (by decide) (XS.aloadN X591.here hx rfl (hb hby d14_140) rfl rfl k)
  show own_G (T591.setTop (mkF m 141 #[oA a, oI (0 : Int32)] [(.ref a)]))
  obtain ⟨T592, X592, e592, st592⟩ := getF X591 hx hZ hown (host := "") (Or.inl (hw _ (own_m 20 rfl))) Via.refl e591 F579 (g := (mkF m 141 #[oA a, oI (0 : Int32)] [(.ref a)])) rfl rfl (hb hby d14_141)
  refine up ?_ st592
  show own_G (T592.setTop (mkF m 144 #[oA a, oI (0 : Int32)] [(.int (1 : Int32))]))
  refine up ?_ fun t k => XS.ifNo X592.here hx rfl (hb hby d14_144) rfl ((if0 _ _).trans (tlt (by decide : ((0 : Int32) < (1 : Int32)))).2.2.2) (XS.aloadN X592.here hx rfl (hb hby d14_147) rfl rfl (XS.aloadN X592.here hx rfl (hb hby d14_148) rfl rfl k))
  show own_G (T592.setTop (mkF m 149 #[oA a, oI (0 : Int32)] [(.ref a), (.ref a)]))
  obtain ⟨T593, X593, e593, st593⟩ := getF X592 hx hZ hown (host := "") (Or.inl (hw _ (own_m 20 rfl))) Via.refl e592 F579 (g := (mkF m 149 #[oA a, oI (0 : Int32)] [(.ref a), (.ref a)])) rfl rfl (hb hby d14_149)
  refine up ?_ st593
  show own_G (T593.setTop (mkF m 152 #[oA a, oI (0 : Int32)] [(.int (1 : Int32)), (.ref a)]))
  refine up ?_ fun t k => XS.iconst X593.here hx rfl (hb hby d14_152) (XS.iadd X593.here hx rfl (hb hby d14_153) rfl k)
  show own_G (T593.setTop (mkF m 154 #[oA a, oI (0 : Int32)] [(.int (2 : Int32)), (.ref a)]))
  obtain ⟨cq594, q594, q594'⟩ := E_a_c580.cell
  obtain ⟨_, _, ⟨T594, L594, k594, n594⟩, -, X594, ⟨Lc594, hQ594, l594, y594, z594⟩, st594⟩ := X593.privateBack hx (y := (⟨"com/example/eventweir/eventweir/ExactSum", "widen", "(I)V"⟩ : MethodName)) hown (mvT hZ (hw _ (own_m 24 rfl))) (mvT hZ (hw _ (own_m 25 rfl))) (own_sel (by decide) (mvT hZ (hw _ (own_m 25 rfl))) (mvP hZ (hw _ (own_m 26 rfl))) (mvT hZ (hw _ (own_m 3 rfl)))) (Cond.privateMethod_at (mvP hZ (hw _ (own_m 26 rfl)) (args := #[]))) (mvT hZ (hw _ (own_m 27 rfl))) (by decide) (backOf (W := 0) (rmw12 l Z a0 hw [] a r kr (4 : Int32) pw [(.long x3)] x0 x1 x2 h579 n0 Zs582 ⟨E_a_c580, Fw_c580, F579, Fp_c580, V_c580⟩ g_a g_r (own_cap4 x3) ) hZ (hw _ (own_m 27 rfl)) (hw _ (own_m 4 rfl)) (by decide) (by decide)) (g := (mkF m 154 #[oA a, oI (0 : Int32)] [(.int (2 : Int32)), (.ref a)])) rfl (by rw [hml]; rfl) (Steps.refl _) (a := a) (by rw [e593]; exact q594) q594' (argsL := [(.int (2 : Int32))]) (rest := []) (lenOf own_pd6 rfl) rfl (by show 2 * 0 + _ ≤ _; exact Nat.le_of_eq rfl) (hb hby d14_154) (fun _ _ => ⟨rfl, e593, (by decide : 0 + 0 ≤ _), (by decide : 0 + 0 ≤ _)⟩)
  dsimp only [Pt.U, Pt.locs, Pt.cells, Pt.slots] at X594 l594 y594 z594 st594 hQ594
  subst l594 y594 z594
  obtain ⟨rfl, Nq594, hsq594, Eq594, Fwq594, Flq594, Fpq594, Vq594⟩ := hQ594
  have N594 := Fr.app N585 Nq594
  have kq595 := Nat.le_trans kq581 hsq594
  have Zs596 : n0 ≤ T594.heap.size := Nat.le_trans Zs582 hsq594
  refine up ?_ (fun t k => st594.trans k)
  show own_G (T594.setTop (mkF m 157 #[oA a, oI (0 : Int32)] []))
  exact own_retV X594 hx hlk hret (hb hby d14_157) ⟨rfl, N594, kq595, ⟨Eq594, Fwq594, Flq594, Fpq594, Vq594⟩⟩ (by decide) (by decide)
def own_Q_rmn4b (Z : State) (a : Addr) (r : Addr) (kr : ClassId) (pw : Int32) (x0 : Int64) (x1 : Int64) (x2 : Int64) (x3 : Int64) (h0 : Heap) (n0 : Nat) (v : Option Value) (h : Heap) (L : List Loc) : Prop := v = none ∧ Fr n0 L ∧ h0.size ≤ h.size ∧ own_O Z h a r kr (4 : Int32) (2 : Int32) (pw + (64 : Int32)) [(.long x1), (.long (own_sg x1)), (.long x2), (.long x3)]
theorem rmn4b (l : Launch) (Z : State) (a0 : Array Value) (hw : own_W Z a0) (ws : List Jvm.Cond) (a : Addr) (r : Addr) (kr : ClassId) (pw : Int32) (x0 : Int64) (x1 : Int64) (x2 : Int64) (x3 : Int64) (h0 : Heap) (n0 : Nat) (Z0 : n0 ≤ h0.size) (O0 : own_O Z h0 a r kr (4 : Int32) (4 : Int32) pw [(.long x0), (.long x1), (.long x2), (.long x3)]) (g_a : n0 ≤ a) (g_r : n0 ≤ r) (h2 : x2 = own_sg x1) (h3 : x3 = own_sg x2) (h1 : ¬ (x1 = own_sg x0)) (hz : x0 = (0 : Int64)) (hx1 : ¬ (x1 = (0 : Int64))) :
    own_M l Z (⟨"com/example/eventweir/eventweir/ExactSum", "normalize", "()V"⟩ : MethodName) prog_78_method_12_code 2 none ws ({ frames := 1, cells := 0, slots := 0, locals := 18 } : Room) #[(.ref a)] h0 (own_Q_rmn4b Z a r kr pw x0 x1 x2 x3 h0 n0) := by
  refine own_body (plainFor_of_name own_pn0) ?_
  intro p e s m below meth c s₁ hx hZ hby hml hown hnm hlk hret X0 e0
  have N0 := Fr.nil n0
  obtain ⟨E_a, Fw, Fl, Fp, V⟩ := O0
  have ne_ar : a ≠ r := E_a.neArv V (hw _ (own_m 3 rfl))
  refine up (U' := s₁.setTop (mkF m 0 #[oA a, oU] [])) ?_ (fun t k => castTop (own_ef_rmn3z m a) k)
  refine up ?_ fun t k => XS.aloadN X0.here hx rfl (hb hby d14_0) rfl rfl k
  show own_G (s₁.setTop (mkF m 1 #[oA a, oU] [(.ref a)]))
  obtain ⟨T597, X597, e597, st597⟩ := getF X0 hx hZ hown (host := "") (Or.inl (hw _ (own_m 20 rfl))) Via.refl e0 Fl (g := (mkF m 1 #[oA a, oU] [(.ref a)])) rfl rfl (hb hby d14_1)
  refine up ?_ st597
  show own_G (T597.setTop (mkF m 4 #[oA a, oU] [(.int (4 : Int32))]))
  refine up ?_ fun t k => XS.ifNo X597.here hx rfl (hb hby d14_4) rfl ((if0 _ _).trans (tlt (by decide : ((0 : Int32) < (4 : Int32)))).2.2.2) (XS.aloadN X597.here hx rfl (hb hby d14_7) rfl rfl (XS.aloadN X597.here hx rfl (hb hby d14_8) rfl rfl k))
  show own_G (T597.setTop (mkF m 9 #[oA a, oU] [(.ref a), (.ref a)]))
  obtain ⟨T598, X598, e598, st598⟩ := getF X597 hx hZ hown (host := "") (Or.inl (hw _ (own_m 20 rfl))) Via.refl e597 Fl (g := (mkF m 9 #[oA a, oU] [(.ref a), (.ref a)])) rfl rfl (hb hby d14_9)
  refine up ?_ st598
  show own_G (T598.setTop (mkF m 12 #[oA a, oU] [(.int (4 : Int32)), (.ref a)]))
  refine up ?_ fun t k => XS.iconst X598.here hx rfl (hb hby d14_12) (XS.isub X598.here hx rfl (hb hby d14_13) rfl k)
  show own_G (T598.setTop (mkF m 14 #[oA a, oU] [(.int (3 : Int32)), (.ref a)]))
  obtain ⟨cq599, q599, q599'⟩ := E_a.cell
  obtain ⟨_, _, ⟨T599, L599, k599, n599⟩, -, X599, ⟨Lc599, hQ599, l599, y599, z599⟩, st599⟩ := X598.privateBack hx (y := (⟨"com/example/eventweir/eventweir/ExactSum", "repeatsSign", "(I)Z"⟩ : MethodName)) hown (mvT hZ (hw _ (own_m 49 rfl))) (mvT hZ (hw _ (own_m 50 rfl))) (own_sel (by decide) (mvT hZ (hw _ (own_m 50 rfl))) (mvP hZ (hw _ (own_m 51 rfl))) (mvT hZ (hw _ (own_m 3 rfl)))) (Cond.privateMethod_at (mvP hZ (hw _ (own_m 51 rfl)) (args := #[]))) (mvT hZ (hw _ (own_m 52 rfl))) (by decide) (backOf (W := 0) (rmrs3 l Z a0 hw [] a r kr pw x0 x1 x2 x3 (4 : Int32) h0 n0 Z0 ⟨E_a, Fw, Fl, Fp, V⟩ g_a g_r ) hZ (hw _ (own_m 52 rfl)) (hw _ (own_m 4 rfl)) (by decide) (by decide)) (g := (mkF m 14 #[oA a, oU] [(.int (3 : Int32)), (.ref a)])) rfl (by rw [hml]; rfl) (Steps.refl _) (a := a) (by rw [e598]; exact q599) q599' (argsL := [(.int (3 : Int32))]) (rest := []) (lenOf own_pd5 rfl) rfl (by show 2 * 0 + _ ≤ _; exact Nat.le_of_eq rfl) (hb hby d14_14) (fun _ _ => ⟨rfl, e598, (by decide : 0 + 0 ≤ _), (by decide : 0 + 0 ≤ _)⟩)
  dsimp only [Pt.U, Pt.locs, Pt.cells, Pt.slots] at X599 l599 y599 z599 st599 hQ599
  subst l599 y599 z599
  obtain ⟨rfl, Nq599, e599⟩ := hQ599
  have N599 := Fr.app N0 Nq599
  refine up ?_ (fun t k => st599.trans k)
  show own_G (T599.setTop (mkF m 17 #[oA a, oU] [(.int (if x3 = own_sg x2 then (1 : Int32) else (0 : Int32)))]))
  refine up ?_ fun t k => XS.ifNo X599.here hx rfl (hb hby d14_17) rfl ((if0 _ _).trans (feq ((by rw [if_pos h3]; decide) : ¬ ((if x3 = own_sg x2 then (1 : Int32) else (0 : Int32)) = (0 : Int32)))).1) (XS.aloadN X599.here hx rfl (hb hby d14_20) rfl rfl (XS.dup X599.here hx rfl (hb hby d14_21) rfl rfl k))
  show own_G (T599.setTop (mkF m 22 #[oA a, oU] [(.ref a), (.ref a)]))
  obtain ⟨T600, X600, e600, st600⟩ := getF X599 hx hZ hown (host := "") (Or.inl (hw _ (own_m 20 rfl))) Via.refl e599 Fl (g := (mkF m 22 #[oA a, oU] [(.ref a), (.ref a)])) rfl rfl (hb hby d14_22)
  refine up ?_ st600
  show own_G (T600.setTop (mkF m 25 #[oA a, oU] [(.int (4 : Int32)), (.ref a)]))
  refine up ?_ fun t k => XS.iconst X600.here hx rfl (hb hby d14_25) (XS.isub X600.here hx rfl (hb hby d14_26) rfl k)
  show own_G (T600.setTop (mkF m 27 #[oA a, oU] [(.int (3 : Int32)), (.ref a)]))
  obtain ⟨T601, h601, X601, e601, W601, st601⟩ := putF X600 hx hZ hown (host := "") (Or.inl (hw _ (own_m 20 rfl))) Via.refl e600 Fl E_a (Or.inl (hw _ (own_m 21 rfl))) (hw _ (own_m 3 rfl)) (ty := .int) (by decide) rfl rfl (g := (mkF m 27 #[oA a, oU] [(.int (3 : Int32)), (.ref a)])) rfl rfl (hb hby d14_27)
  refine up ?_ st601
  have E_a_c602 := E_a.wr W601
  have Fw_c602 := Fw.other W601 (Or.inr (slot_ne (Or.inl (hw _ (own_m 14 rfl))) (Or.inl (hw _ (own_m 21 rfl))) (by decide) (t := (.array .long)) (t' := .int) (by decide) (by decide)))
  have Fp_c602 := Fp.other W601 (Or.inr (slot_ne (Or.inl (hw _ (own_m 23 rfl))) (Or.inl (hw _ (own_m 21 rfl))) (by decide) (t := .int) (t' := .int) (by decide) (by decide)))
  have V_c602 := V.other W601 (Ne.symm ne_ar)
  have F601 := Fl.same W601
  have N601 := Fr.snoc X601 N599 g_a
  have kq603 := Nat.le_trans (Nat.le_refl h0.size) (Keep.of_wr W601).1
  have Zs604 : n0 ≤ h601.size := Nat.le_trans Z0 (Keep.of_wr W601).1
  show own_G (T601.setTop (mkF m 30 #[oA a, oU] []))
  refine up ?_ fun t k => XS.goto X601.here hx rfl (pc0 := 30) (pc' := 0) rfl (hb hby d14_30) (by decide) (by decide) (XS.aloadN X601.here hx rfl (hb hby d14_0) rfl rfl k)
  show own_G (T601.setTop (mkF m 1 #[oA a, oU] [(.ref a)]))
  obtain ⟨T605, X605, e605, st605⟩ := getF X601 hx hZ hown (host := "") (Or.inl (hw _ (own_m 20 rfl))) Via.refl e601 F601 (g := (mkF m 1 #[oA a, oU] [(.ref a)])) rfl rfl (hb hby d14_1)
  refine up ?_ st605
  show own_G (T605.setTop (mkF m 4 #[oA a, oU] [(.int (3 : Int32))]))
  refine up ?_ fun t k => XS.ifNo X605.here hx rfl (hb hby d14_4) rfl ((if0 _ _).trans (tlt (by decide : ((0 : Int32) < (3 : Int32)))).2.2.2) (XS.aloadN X605.here hx rfl (hb hby d14_7) rfl rfl (XS.aloadN X605.here hx rfl (hb hby d14_8) rfl rfl k))
  show own_G (T605.setTop (mkF m 9 #[oA a, oU] [(.ref a), (.ref a)]))
  obtain ⟨T606, X606, e606, st606⟩ := getF X605 hx hZ hown (host := "") (Or.inl (hw _ (own_m 20 rfl))) Via.refl e605 F601 (g := (mkF m 9 #[oA a, oU] [(.ref a), (.ref a)])) rfl rfl (hb hby d14_9)
  refine up ?_ st606
  show own_G (T606.setTop (mkF m 12 #[oA a, oU] [(.int (3 : Int32)), (.ref a)]))
  refine up ?_ fun t k => XS.iconst X606.here hx rfl (hb hby d14_12) (XS.isub X606.here hx rfl (hb hby d14_13) rfl k)
  show own_G (T606.setTop (mkF m 14 #[oA a, oU] [(.int (2 : Int32)), (.ref a)]))
  obtain ⟨cq607, q607, q607'⟩ := E_a_c602.cell
  obtain ⟨_, _, ⟨T607, L607, k607, n607⟩, -, X607, ⟨Lc607, hQ607, l607, y607, z607⟩, st607⟩ := X606.privateBack hx (y := (⟨"com/example/eventweir/eventweir/ExactSum", "repeatsSign", "(I)Z"⟩ : MethodName)) hown (mvT hZ (hw _ (own_m 49 rfl))) (mvT hZ (hw _ (own_m 50 rfl))) (own_sel (by decide) (mvT hZ (hw _ (own_m 50 rfl))) (mvP hZ (hw _ (own_m 51 rfl))) (mvT hZ (hw _ (own_m 3 rfl)))) (Cond.privateMethod_at (mvP hZ (hw _ (own_m 51 rfl)) (args := #[]))) (mvT hZ (hw _ (own_m 52 rfl))) (by decide) (backOf (W := 0) (rmrs2 l Z a0 hw [] a r kr (4 : Int32) pw [(.long x3)] x0 x1 x2 (3 : Int32) h601 n0 Zs604 ⟨E_a_c602, Fw_c602, F601, Fp_c602, V_c602⟩ g_a g_r (own_cap4 x3) ) hZ (hw _ (own_m 52 rfl)) (hw _ (own_m 4 rfl)) (by decide) (by decide)) (g := (mkF m 14 #[oA a, oU] [(.int (2 : Int32)), (.ref a)])) rfl (by rw [hml]; rfl) (Steps.refl _) (a := a) (by rw [e606]; exact q607) q607' (argsL := [(.int (2 : Int32))]) (rest := []) (lenOf own_pd5 rfl) rfl (by show 2 * 0 + _ ≤ _; exact Nat.le_of_eq rfl) (hb hby d14_14) (fun _ _ => ⟨rfl, e606, (by decide : 0 + 0 ≤ _), (by decide : 0 + 0 ≤ _)⟩)
  dsimp only [Pt.U, Pt.locs, Pt.cells, Pt.slots] at X607 l607 y607 z607 st607 hQ607
  subst l607 y607 z607
  obtain ⟨rfl, Nq607, e607⟩ := hQ607
  have N607 := Fr.app N601 Nq607
  refine up ?_ (fun t k => st607.trans k)
  show own_G (T607.setTop (mkF m 17 #[oA a, oU] [(.int (if x2 = own_sg x1 then (1 : Int32) else (0 : Int32)))]))
  refine up ?_ fun t k => XS.ifNo X607.here hx rfl (hb hby d14_17) rfl ((if0 _ _).trans (feq ((by rw [if_pos h2]; decide) : ¬ ((if x2 = own_sg x1 then (1 : Int32) else (0 : Int32)) = (0 : Int32)))).1) (XS.aloadN X607.here hx rfl (hb hby d14_20) rfl rfl (XS.dup X607.here hx rfl (hb hby d14_21) rfl rfl k))
  show own_G (T607.setTop (mkF m 22 #[oA a, oU] [(.ref a), (.ref a)]))
  obtain ⟨T608, X608, e608, st608⟩ := getF X607 hx hZ hown (host := "") (Or.inl (hw _ (own_m 20 rfl))) Via.refl e607 F601 (g := (mkF m 22 #[oA a, oU] [(.ref a), (.ref a)])) rfl rfl (hb hby d14_22)
  refine up ?_ st608
  show own_G (T608.setTop (mkF m 25 #[oA a, oU] [(.int (3 : Int32)), (.ref a)]))
  refine up ?_ fun t k => XS.iconst X608.here hx rfl (hb hby d14_25) (XS.isub X608.here hx rfl (hb hby d14_26) rfl k)
  show own_G (T608.setTop (mkF m 27 #[oA a, oU] [(.int (2 : Int32)), (.ref a)]))
  obtain ⟨T609, h609, X609, e609, W609, st609⟩ := putF X608 hx hZ hown (host := "") (Or.inl (hw _ (own_m 20 rfl))) Via.refl e608 F601 E_a_c602 (Or.inl (hw _ (own_m 21 rfl))) (hw _ (own_m 3 rfl)) (ty := .int) (by decide) rfl rfl (g := (mkF m 27 #[oA a, oU] [(.int (2 : Int32)), (.ref a)])) rfl rfl (hb hby d14_27)
  refine up ?_ st609
  have E_a_c610 := E_a_c602.wr W609
  have Fw_c610 := Fw_c602.other W609 (Or.inr (slot_ne (Or.inl (hw _ (own_m 14 rfl))) (Or.inl (hw _ (own_m 21 rfl))) (by decide) (t := (.array .long)) (t' := .int) (by decide) (by decide)))
  have Fp_c610 := Fp_c602.other W609 (Or.inr (slot_ne (Or.inl (hw _ (own_m 23 rfl))) (Or.inl (hw _ (own_m 21 rfl))) (by decide) (t := .int) (t' := .int) (by decide) (by decide)))
  have V_c610 := V_c602.other W609 (Ne.symm ne_ar)
  have F609 := F601.same W609
  have N609 := Fr.snoc X609 N607 g_a
  have kq611 := Nat.le_trans kq603 (Keep.of_wr W609).1
  have Zs612 : n0 ≤ h609.size := Nat.le_trans Zs604 (Keep.of_wr W609).1
  show own_G (T609.setTop (mkF m 30 #[oA a, oU] []))
  refine up ?_ fun t k => XS.goto X609.here hx rfl (pc0 := 30) (pc' := 0) rfl (hb hby d14_30) (by decide) (by decide) (XS.aloadN X609.here hx rfl (hb hby d14_0) rfl rfl k)
  show own_G (T609.setTop (mkF m 1 #[oA a, oU] [(.ref a)]))
  obtain ⟨T613, X613, e613, st613⟩ := getF X609 hx hZ hown (host := "") (Or.inl (hw _ (own_m 20 rfl))) Via.refl e609 F609 (g := (mkF m 1 #[oA a, oU] [(.ref a)])) rfl rfl (hb hby d14_1)
  refine up ?_ st613
  show own_G (T613.setTop (mkF m 4 #[oA a, oU] [(.int (2 : Int32))]))
  refine up ?_ fun t k => XS.ifNo X613.here hx rfl (hb hby d14_4) rfl ((if0 _ _).trans (tlt (by decide : ((0 : Int32) < (2 : Int32)))).2.2.2) (XS.aloadN X613.here hx rfl (hb hby d14_7) rfl rfl (XS.aloadN X613.here hx rfl (hb hby d14_8) rfl rfl k))
  show own_G (T613.setTop (mkF m 9 #[oA a, oU] [(.ref a), (.ref a)]))
  obtain ⟨T614, X614, e614, st614⟩ := getF X613 hx hZ hown (host := "") (Or.inl (hw _ (own_m 20 rfl))) Via.refl e613 F609 (g := (mkF m 9 #[oA a, oU] [(.ref a), (.ref a)])) rfl rfl (hb hby d14_9)
  refine up ?_ st614
  show own_G (T614.setTop (mkF m 12 #[oA a, oU] [(.int (2 : Int32)), (.ref a)]))
  refine up ?_ fun t k => XS.iconst X614.here hx rfl (hb hby d14_12) (XS.isub X614.here hx rfl (hb hby d14_13) rfl k)
  show own_G (T614.setTop (mkF m 14 #[oA a, oU] [(.int (1 : Int32)), (.ref a)]))
  obtain ⟨cq615, q615, q615'⟩ := E_a_c610.cell
  obtain ⟨_, _, ⟨T615, L615, k615, n615⟩, -, X615, ⟨Lc615, hQ615, l615, y615, z615⟩, st615⟩ := X614.privateBack hx (y := (⟨"com/example/eventweir/eventweir/ExactSum", "repeatsSign", "(I)Z"⟩ : MethodName)) hown (mvT hZ (hw _ (own_m 49 rfl))) (mvT hZ (hw _ (own_m 50 rfl))) (own_sel (by decide) (mvT hZ (hw _ (own_m 50 rfl))) (mvP hZ (hw _ (own_m 51 rfl))) (mvT hZ (hw _ (own_m 3 rfl)))) (Cond.privateMethod_at (mvP hZ (hw _ (own_m 51 rfl)) (args := #[]))) (mvT hZ (hw _ (own_m 52 rfl))) (by decide) (backOf (W := 0) (rmrs1 l Z a0 hw [] a r kr (4 : Int32) pw [(.long x3)] x0 x1 x2 (2 : Int32) h609 n0 Zs612 ⟨E_a_c610, Fw_c610, F609, Fp_c610, V_c610⟩ g_a g_r (own_cap4 x3) ) hZ (hw _ (own_m 52 rfl)) (hw _ (own_m 4 rfl)) (by decide) (by decide)) (g := (mkF m 14 #[oA a, oU] [(.int (1 : Int32)), (.ref a)])) rfl (by rw [hml]; rfl) (Steps.refl _) (a := a) (by rw [e614]; exact q615) q615' (argsL := [(.int (1 : Int32))]) (rest := []) (lenOf own_pd5 rfl) rfl (by show 2 * 0 + _ ≤ _; exact Nat.le_of_eq rfl) (hb hby d14_14) (fun _ _ => ⟨rfl, e614, (by decide : 0 + 0 ≤ _), (by decide : 0 + 0 ≤ _)⟩)
  dsimp only [Pt.U, Pt.locs, Pt.cells, Pt.slots] at X615 l615 y615 z615 st615 hQ615
  subst l615 y615 z615
  obtain ⟨rfl, Nq615, e615⟩ := hQ615
  have N615 := Fr.app N609 Nq615
  refine up ?_ (fun t k => st615.trans k)
  show own_G (T615.setTop (mkF m 17 #[oA a, oU] [(.int (if x1 = own_sg x0 then (1 : Int32) else (0 : Int32)))]))
  refine up ?_ fun t k => XS.ifYes X615.here hx rfl (pc0 := 17) (pc' := 33) rfl (hb hby d14_17) rfl ((if0 _ _).trans (teq ((by rw [if_neg h1]) : ((if x1 = own_sg x0 then (1 : Int32) else (0 : Int32)) = (0 : Int32)))).1) (by decide) (by decide) (XS.iconst X615.here hx rfl (hb hby d14_33) (XS.istoreN X615.here hx rfl (hb hby d14_34) rfl (l' := #[oA a, oI (0 : Int32)]) rfl (XS.iloadN X615.here hx rfl (hb hby d14_35) rfl (XS.aloadN X615.here hx rfl (hb hby d14_36) rfl rfl k))))
  show own_G (T615.setTop (mkF m 37 #[oA a, oI (0 : Int32)] [(.ref a), (.int (0 : Int32))]))
  obtain ⟨T616, X616, e616, st616⟩ := getF X615 hx hZ hown (host := "") (Or.inl (hw _ (own_m 20 rfl))) Via.refl e615 F609 (g := (mkF m 37 #[oA a, oI (0 : Int32)] [(.ref a), (.int (0 : Int32))])) rfl rfl (hb hby d14_37)
  refine up ?_ st616
  show own_G (T616.setTop (mkF m 40 #[oA a, oI (0 : Int32)] [(.int (2 : Int32)), (.int (0 : Int32))]))
  refine up ?_ fun t k => XS.icmpNo X616.here hx rfl (hb hby d14_40) rfl (tlt (by decide : ((0 : Int32) < (2 : Int32)))).2.1 (XS.aloadN X616.here hx rfl (hb hby d14_43) rfl rfl k)
  show own_G (T616.setTop (mkF m 44 #[oA a, oI (0 : Int32)] [(.ref a)]))
  obtain ⟨T617, X617, e617, st617⟩ := getF X616 hx hZ hown (host := "") (Or.inl (hw _ (own_m 13 rfl))) Via.refl e616 Fw_c610 (g := (mkF m 44 #[oA a, oI (0 : Int32)] [(.ref a)])) rfl rfl (hb hby d14_44)
  refine up ?_ st617
  show own_G (T617.setTop (mkF m 47 #[oA a, oI (0 : Int32)] [(.ref r)]))
  refine up ?_ fun t k => XS.iloadN X617.here hx rfl (hb hby d14_47) rfl k
  show own_G (T617.setTop (mkF m 48 #[oA a, oI (0 : Int32)] [(.int (0 : Int32)), (.ref r)]))
  obtain ⟨cl618, Ar618, qa618, Sa618, Na618, Ha618, Ga618⟩ := id V_c610
  have hin618 : ¬ ((0 : Int32) < 0 ∨ cl618.slots.size ≤ ((0 : Int32)).toNatClampNeg) := inb_of Sa618 ⟨by decide, by decide⟩
  refine up ?_ fun t k => X617.laload hx (j := (0 : Int32)) (v := (.long x0)) (by rw [e617]; exact Ar618.1) (State.isArrayOf_alike hZ.alike Ar618.2.1) Ar618.2.2 hin618 (Ha618.at hin618 rfl) (g := (mkF m 48 #[oA a, oI (0 : Int32)] [(.int (0 : Int32)), (.ref r)])) rfl rfl (hb hby d14_48) _ (XS.lconst X617.here hx rfl (hb hby d14_49) (XS.lcmp X617.here hx rfl (hb hby d14_50) rfl k))
  show own_G (T617.setTop (mkF m 51 #[oA a, oI (0 : Int32)] [(.int (lcmpW x0 (0 : Int64)))]))
  refine up ?_ fun t k => XS.ifNo X617.here hx rfl (hb hby d14_51) rfl ((if0 _ _).trans (teq ((lw_eq _ _).mpr (hz : (x0 = (0 : Int64))))).2) (XS.iinc X617.here hx rfl (hb hby d14_54) rfl (l' := #[oA a, oI (1 : Int32)]) rfl (XS.goto X617.here hx rfl (pc0 := 57) (pc' := 35) rfl (hb hby d14_57) (by decide) (by decide) (XS.iloadN X617.here hx rfl (hb hby d14_35) rfl (XS.aloadN X617.here hx rfl (hb hby d14_36) rfl rfl k))))
  show own_G (T617.setTop (mkF m 37 #[oA a, oI (1 : Int32)] [(.ref a), (.int (1 : Int32))]))
  obtain ⟨T619, X619, e619, st619⟩ := getF X617 hx hZ hown (host := "") (Or.inl (hw _ (own_m 20 rfl))) Via.refl e617 F609 (g := (mkF m 37 #[oA a, oI (1 : Int32)] [(.ref a), (.int (1 : Int32))])) rfl rfl (hb hby d14_37)
  refine up ?_ st619
  show own_G (T619.setTop (mkF m 40 #[oA a, oI (1 : Int32)] [(.int (2 : Int32)), (.int (1 : Int32))]))
  refine up ?_ fun t k => XS.icmpNo X619.here hx rfl (hb hby d14_40) rfl (tlt (by decide : ((1 : Int32) < (2 : Int32)))).2.1 (XS.aloadN X619.here hx rfl (hb hby d14_43) rfl rfl k)
  show own_G (T619.setTop (mkF m 44 #[oA a, oI (1 : Int32)] [(.ref a)]))
  obtain ⟨T620, X620, e620, st620⟩ := getF X619 hx hZ hown (host := "") (Or.inl (hw _ (own_m 13 rfl))) Via.refl e619 Fw_c610 (g := (mkF m 44 #[oA a, oI (1 : Int32)] [(.ref a)])) rfl rfl (hb hby d14_44)
  refine up ?_ st620
  show own_G (T620.setTop (mkF m 47 #[oA a, oI (1 : Int32)] [(.ref r)]))
  refine up ?_ fun t k => XS.iloadN X620.here hx rfl (hb hby d14_47) rfl k
  show own_G (T620.setTop (mkF m 48 #[oA a, oI (1 : Int32)] [(.int (1 : Int32)), (.ref r)]))
  obtain ⟨cl621, Ar621, qa621, Sa621, Na621, Ha621, Ga621⟩ := id V_c610
  have hin621 : ¬ ((1 : Int32) < 0 ∨ cl621.slots.size ≤ ((1 : Int32)).toNatClampNeg) := inb_of Sa621 ⟨by decide, by decide⟩
  refine up ?_ fun t k => X620.laload hx (j := (1 : Int32)) (v := (.long x1)) (by rw [e620]; exact Ar621.1) (State.isArrayOf_alike hZ.alike Ar621.2.1) Ar621.2.2 hin621 (Ha621.at hin621 rfl) (g := (mkF m 48 #[oA a, oI (1 : Int32)] [(.int (1 : Int32)), (.ref r)])) rfl rfl (hb hby d14_48) _ (XS.lconst X620.here hx rfl (hb hby d14_49) (XS.lcmp X620.here hx rfl (hb hby d14_50) rfl k))
  show own_G (T620.setTop (mkF m 51 #[oA a, oI (1 : Int32)] [(.int (lcmpW x1 (0 : Int64)))]))
  refine up ?_ fun t k => XS.ifYes X620.here hx rfl (pc0 := 51) (pc' := 60) rfl (hb hby d14_51) rfl ((if0 _ _).trans (feq (fun q => (hx1 : ¬ (x1 = (0 : Int64))) ((lw_eq _ _).mp q))).2) (by decide) (by decide) (XS.iloadN X620.here hx rfl (hb hby d14_60) rfl k)
  show own_G (T620.setTop (mkF m 61 #[oA a, oI (1 : Int32)] [(.int (1 : Int32))]))
  refine up ?_ fun t k => XS.ifNo X620.here hx rfl (hb hby d14_61) rfl ((if0 _ _).trans (tlt (by decide : ((0 : Int32) < (1 : Int32)))).2.2.2) (XS.aloadN X620.here hx rfl (hb hby d14_64) rfl rfl k)
  show own_G (T620.setTop (mkF m 65 #[oA a, oI (1 : Int32)] [(.ref a)]))
  obtain ⟨T622, X622, e622, st622⟩ := getF X620 hx hZ hown (host := "") (Or.inl (hw _ (own_m 13 rfl))) Via.refl e620 Fw_c610 (g := (mkF m 65 #[oA a, oI (1 : Int32)] [(.ref a)])) rfl rfl (hb hby d14_65)
  refine up ?_ st622
  show own_G (T622.setTop (mkF m 68 #[oA a, oI (1 : Int32)] [(.ref r)]))
  refine up ?_ fun t k => XS.iloadN X622.here hx rfl (hb hby d14_68) rfl (XS.aloadN X622.here hx rfl (hb hby d14_69) rfl rfl k)
  show own_G (T622.setTop (mkF m 70 #[oA a, oI (1 : Int32)] [(.ref a), (.int (1 : Int32)), (.ref r)]))
  obtain ⟨T623, X623, e623, st623⟩ := getF X622 hx hZ hown (host := "") (Or.inl (hw _ (own_m 13 rfl))) Via.refl e622 Fw_c610 (g := (mkF m 70 #[oA a, oI (1 : Int32)] [(.ref a), (.int (1 : Int32)), (.ref r)])) rfl rfl (hb hby d14_70)
  refine up ?_ st623
  show own_G (T623.setTop (mkF m 73 #[oA a, oI (1 : Int32)] [(.ref r), (.int (1 : Int32)), (.ref r)]))
  refine up ?_ fun t k => XS.iconst X623.here hx rfl (hb hby d14_73) (XS.aloadN X623.here hx rfl (hb hby d14_74) rfl rfl k)
  show own_G (T623.setTop (mkF m 75 #[oA a, oI (1 : Int32)] [(.ref a), (.int (0 : Int32)), (.ref r), (.int (1 : Int32)), (.ref r)]))
  obtain ⟨T624, X624, e624, st624⟩ := getF X623 hx hZ hown (host := "") (Or.inl (hw _ (own_m 20 rfl))) Via.refl e623 F609 (g := (mkF m 75 #[oA a, oI (1 : Int32)] [(.ref a), (.int (0 : Int32)), (.ref r), (.int (1 : Int32)), (.ref r)])) rfl rfl (hb hby d14_75)
  refine up ?_ st624
  show own_G (T624.setTop (mkF m 78 #[oA a, oI (1 : Int32)] [(.int (2 : Int32)), (.int (0 : Int32)), (.ref r), (.int (1 : Int32)), (.ref r)]))
  refine up ?_ fun t k => XS.iloadN X624.here hx rfl (hb hby d14_78) rfl (XS.isub X624.here hx rfl (hb hby d14_79) rfl k)
  show own_G (T624.setTop (mkF m 80 #[oA a, oI (1 : Int32)] [(.int (1 : Int32)), (.int (0 : Int32)), (.ref r), (.int (1 : Int32)), (.ref r)]))
  obtain ⟨T625, h625, L625, X625, e625, N625, K625, V625, st625⟩ := cpA X624 hx hZ hown (hw _ (own_m 73 rfl)) (hw _ (own_m 40 rfl)) (hw _ (own_m 38 rfl)) (hw _ (own_m 39 rfl)) e624 (sp := (1 : Int32)) (dp := (0 : Int32)) (nn := (1 : Int32)) (us := [(.long x1)]) V_c610 V_c610 (Or.inl ⟨rfl, rfl⟩) (by decide) (by decide) (by decide) (by first | decide | (show 1 + 0 ≤ _; decide)) (by first | decide | (show 1 + 0 ≤ _; decide)) rfl (Nat.le_of_ble_eq_true rfl) N615 g_r (g := (mkF m 80 #[oA a, oI (1 : Int32)] [(.int (1 : Int32)), (.int (0 : Int32)), (.ref r), (.int (1 : Int32)), (.ref r)])) rfl (by rw [hml]; rfl) rfl (hb hby d14_80) (by decide) (W := 0) (by show 2 * 0 + _ ≤ _; exact Nat.le_of_eq rfl) (by decide)
  refine up ?_ st625
  have E_a_c626 := E_a_c610.keep K625
  have Fw_c626 := Fw_c610.keep K625 (ninS ne_ar nin0)
  have F609_c626 := F609.keep K625 (ninS ne_ar nin0)
  have Fp_c626 := Fp_c610.keep K625 (ninS ne_ar nin0)
  have kq627 := Nat.le_trans kq611 K625.1
  have Zs628 : n0 ≤ h625.size := Nat.le_trans Zs612 K625.1
  have V625x : Arv Z h625 r kr .long (4 : Int32) [(.long x1), (.long x1), (.long x2), (.long x3)] (.long (0 : Int64)) := V625
  show own_G (T625.setTop (mkF m 83 #[oA a, oI (1 : Int32)] []))
  refine up ?_ fun t k => XS.aloadN X625.here hx rfl (hb hby d14_83) rfl rfl (XS.dup X625.here hx rfl (hb hby d14_84) rfl rfl k)
  show own_G (T625.setTop (mkF m 85 #[oA a, oI (1 : Int32)] [(.ref a), (.ref a)]))
  obtain ⟨T629, X629, e629, st629⟩ := getF X625 hx hZ hown (host := "") (Or.inl (hw _ (own_m 20 rfl))) Via.refl e625 F609_c626 (g := (mkF m 85 #[oA a, oI (1 : Int32)] [(.ref a), (.ref a)])) rfl rfl (hb hby d14_85)
  refine up ?_ st629
  show own_G (T629.setTop (mkF m 88 #[oA a, oI (1 : Int32)] [(.int (2 : Int32)), (.ref a)]))
  refine up ?_ fun t k => XS.iloadN X629.here hx rfl (hb hby d14_88) rfl (XS.isub X629.here hx rfl (hb hby d14_89) rfl k)
  show own_G (T629.setTop (mkF m 90 #[oA a, oI (1 : Int32)] [(.int (1 : Int32)), (.ref a)]))
  obtain ⟨T630, h630, X630, e630, W630, st630⟩ := putF X629 hx hZ hown (host := "") (Or.inl (hw _ (own_m 20 rfl))) Via.refl e629 F609_c626 E_a_c626 (Or.inl (hw _ (own_m 21 rfl))) (hw _ (own_m 3 rfl)) (ty := .int) (by decide) rfl rfl (g := (mkF m 90 #[oA a, oI (1 : Int32)] [(.int (1 : Int32)), (.ref a)])) rfl rfl (hb hby d14_90)
  refine up ?_ st630
  have E_a_c631 := E_a_c626.wr W630
  have Fw_c631 := Fw_c626.other W630 (Or.inr (slot_ne (Or.inl (hw _ (own_m 14 rfl))) (Or.inl (hw _ (own_m 21 rfl))) (by decide) (t := (.array .long)) (t' := .int) (by decide) (by decide)))
  have Fp_c631 := Fp_c626.other W630 (Or.inr (slot_ne (Or.inl (hw _ (own_m 23 rfl))) (Or.inl (hw _ (own_m 21 rfl))) (by decide) (t := .int) (t' := .int) (by decide) (by decide)))
  have V625x_c631 := V625x.other W630 (Ne.symm ne_ar)
  have F630 := F609_c626.same W630
  have N630 := Fr.snoc X630 N625 g_a
  have kq632 := Nat.le_trans kq627 (Keep.of_wr W630).1
  have Zs633 : n0 ≤ h630.size := Nat.le_trans Zs628 (Keep.of_wr W630).1
  show own_G (T630.setTop (mkF m 93 #[oA a, oI (1 : Int32)] []))
  refine up ?_ fun t k => XS.aloadN X630.here hx rfl (hb hby d14_93) rfl rfl (XS.dup X630.here hx rfl (hb hby d14_94) rfl rfl k)
  show own_G (T630.setTop (mkF m 95 #[oA a, oI (1 : Int32)] [(.ref a), (.ref a)]))
  obtain ⟨T634, X634, e634, st634⟩ := getF X630 hx hZ hown (host := "") (Or.inl (hw _ (own_m 22 rfl))) Via.refl e630 Fp_c631 (g := (mkF m 95 #[oA a, oI (1 : Int32)] [(.ref a), (.ref a)])) rfl rfl (hb hby d14_95)
  refine up ?_ st634
  show own_G (T634.setTop (mkF m 98 #[oA a, oI (1 : Int32)] [(.int pw), (.ref a)]))
  refine up ?_ fun t k => XS.bipush X634.here hx rfl (hb hby d14_98) (XS.iloadN X634.here hx rfl (hb hby d14_100) rfl (XS.imul X634.here hx rfl (hb hby d14_101) rfl (XS.iadd X634.here hx rfl (hb hby d14_102) rfl k)))
  show own_G (T634.setTop (mkF m 103 #[oA a, oI (1 : Int32)] [(.int (pw + (64 : Int32))), (.ref a)]))
  obtain ⟨T635, h635, X635, e635, W635, st635⟩ := putF X634 hx hZ hown (host := "") (Or.inl (hw _ (own_m 22 rfl))) Via.refl e634 Fp_c631 E_a_c631 (Or.inl (hw _ (own_m 23 rfl))) (hw _ (own_m 3 rfl)) (ty := .int) (by decide) rfl rfl (g := (mkF m 103 #[oA a, oI (1 : Int32)] [(.int (pw + (64 : Int32))), (.ref a)])) rfl rfl (hb hby d14_103)
  refine up ?_ st635
  have E_a_c636 := E_a_c631.wr W635
  have Fw_c636 := Fw_c631.other W635 (Or.inr (slot_ne (Or.inl (hw _ (own_m 14 rfl))) (Or.inl (hw _ (own_m 23 rfl))) (by decide) (t := (.array .long)) (t' := .int) (by decide) (by decide)))
  have F630_c636 := F630.other W635 (Or.inr (slot_ne (Or.inl (hw _ (own_m 21 rfl))) (Or.inl (hw _ (own_m 23 rfl))) (by decide) (t := .int) (t' := .int) (by decide) (by decide)))
  have V625x_c636 := V625x_c631.other W635 (Ne.symm ne_ar)
  have F635 := Fp_c631.same W635
  have N635 := Fr.snoc X635 N630 g_a
  have kq637 := Nat.le_trans kq632 (Keep.of_wr W635).1
  have Zs638 : n0 ≤ h635.size := Nat.le_trans Zs633 (Keep.of_wr W635).1
  show own_G (T635.setTop (mkF m 106 #[oA a, oI (1 : Int32)] []))
  refine up ?_ fun t k => XS.aloadN X635.here hx rfl (hb hby d14_106) rfl rfl k
  show own_G (T635.setTop (mkF m 107 #[oA a, oI (1 : Int32)] [(.ref a)]))
  obtain ⟨T639, X639, e639, st639⟩ := getF X635 hx hZ hown (host := "") (Or.inl (hw _ (own_m 13 rfl))) Via.refl e635 Fw_c636 (g := (mkF m 107 #[oA a, oI (1 : Int32)] [(.ref a)])) rfl rfl (hb hby d14_107)
  refine up ?_ st639
  show own_G (T639.setTop (mkF m 110 #[oA a, oI (1 : Int32)] [(.ref r)]))
  obtain ⟨cl640, Ar640, qa640, Sa640, Na640, Ha640, Ga640⟩ := id V625x_c636
  refine up ?_ fun t k => X639.arraylength hx (by rw [e639]; exact Ar640.1) (State.isArrayOf_alike hZ.alike Ar640.2.1) (g := (mkF m 110 #[oA a, oI (1 : Int32)] [(.ref r)])) rfl rfl (hb hby d14_110) _ k
  rw [len_of Sa640 Na640]
  show own_G (T639.setTop (mkF m 111 #[oA a, oI (1 : Int32)] [(.int (4 : Int32))]))
  refine up ?_ fun t k => XS.iconst X639.here hx rfl (hb hby d14_111) (XS.aloadN X639.here hx rfl (hb hby d14_112) rfl rfl k)
  show own_G (T639.setTop (mkF m 113 #[oA a, oI (1 : Int32)] [(.ref a), (.int (2 : Int32)), (.int (4 : Int32))]))
  obtain ⟨T641, X641, e641, st641⟩ := getF X639 hx hZ hown (host := "") (Or.inl (hw _ (own_m 20 rfl))) Via.refl e639 F630_c636 (g := (mkF m 113 #[oA a, oI (1 : Int32)] [(.ref a), (.int (2 : Int32)), (.int (4 : Int32))])) rfl rfl (hb hby d14_113)
  refine up ?_ st641
  show own_G (T641.setTop (mkF m 116 #[oA a, oI (1 : Int32)] [(.int (1 : Int32)), (.int (2 : Int32)), (.int (4 : Int32))]))
  refine up ?_ fun t k => XS.imul X641.here hx rfl (hb hby d14_116) rfl (XS.bipush X641.here hx rfl (hb hby d14_117) (XS.iadd X641.here hx rfl (hb hby d14_119) rfl k))
  show own_G (T641.setTop (mkF m 120 #[oA a, oI (1 : Int32)] [(.int (10 : Int32)), (.int (4 : Int32))]))
  refine up ?_ fun t k => XS.icmpYes X641.here hx rfl (pc0 := 120) (pc' := 140) rfl (hb hby d14_120) rfl (flt (by decide : ¬ ((10 : Int32) < (4 : Int32)))).2.2.2 (by decide) (by decide) (XS.aloadN X641.here hx rfl (hb hby d14_140) rfl rfl k)
  show own_G (T641.setTop (mkF m 141 #[oA a, oI (1 : Int32)] [(.ref a)]))
  obtain ⟨T642, X642, e642, st642⟩ := getF X641 hx hZ hown (host := "") (Or.inl (hw _ (own_m 20 rfl))) Via.refl e641 F630_c636 (g := (mkF m 141 #[oA a, oI (1 : Int32)] [(.ref a)])) rfl rfl (hb hby d14_141)
  refine up ?_ st642
  show own_G (T642.setTop (mkF m 144 #[oA a, oI (1 : Int32)] [(.int (1 : Int32))]))
  refine up ?_ fun t k => XS.ifNo X642.here hx rfl (hb hby d14_144) rfl ((if0 _ _).trans (tlt (by decide : ((0 : Int32) < (1 : Int32)))).2.2.2) (XS.aloadN X642.here hx rfl (hb hby d14_147) rfl rfl (XS.aloadN X642.here hx rfl (hb hby d14_148) rfl rfl k))
  show own_G (T642.setTop (mkF m 149 #[oA a, oI (1 : Int32)] [(.ref a), (.ref a)]))
  obtain ⟨T643, X643, e643, st643⟩ := getF X642 hx hZ hown (host := "") (Or.inl (hw _ (own_m 20 rfl))) Via.refl e642 F630_c636 (g := (mkF m 149 #[oA a, oI (1 : Int32)] [(.ref a), (.ref a)])) rfl rfl (hb hby d14_149)
  refine up ?_ st643
  show own_G (T643.setTop (mkF m 152 #[oA a, oI (1 : Int32)] [(.int (1 : Int32)), (.ref a)]))
  refine up ?_ fun t k => XS.iconst X643.here hx rfl (hb hby d14_152) (XS.iadd X643.here hx rfl (hb hby d14_153) rfl k)
  show own_G (T643.setTop (mkF m 154 #[oA a, oI (1 : Int32)] [(.int (2 : Int32)), (.ref a)]))
  obtain ⟨cq644, q644, q644'⟩ := E_a_c636.cell
  obtain ⟨_, _, ⟨T644, L644, k644, n644⟩, -, X644, ⟨Lc644, hQ644, l644, y644, z644⟩, st644⟩ := X643.privateBack hx (y := (⟨"com/example/eventweir/eventweir/ExactSum", "widen", "(I)V"⟩ : MethodName)) hown (mvT hZ (hw _ (own_m 24 rfl))) (mvT hZ (hw _ (own_m 25 rfl))) (own_sel (by decide) (mvT hZ (hw _ (own_m 25 rfl))) (mvP hZ (hw _ (own_m 26 rfl))) (mvT hZ (hw _ (own_m 3 rfl)))) (Cond.privateMethod_at (mvP hZ (hw _ (own_m 26 rfl)) (args := #[]))) (mvT hZ (hw _ (own_m 27 rfl))) (by decide) (backOf (W := 0) (rmw12 l Z a0 hw [] a r kr (4 : Int32) (pw + (64 : Int32)) [(.long x3)] x1 x1 x2 h635 n0 Zs638 ⟨E_a_c636, Fw_c636, F630_c636, F635, V625x_c636⟩ g_a g_r (own_cap4 x3) ) hZ (hw _ (own_m 27 rfl)) (hw _ (own_m 4 rfl)) (by decide) (by decide)) (g := (mkF m 154 #[oA a, oI (1 : Int32)] [(.int (2 : Int32)), (.ref a)])) rfl (by rw [hml]; rfl) (Steps.refl _) (a := a) (by rw [e643]; exact q644) q644' (argsL := [(.int (2 : Int32))]) (rest := []) (lenOf own_pd6 rfl) rfl (by show 2 * 0 + _ ≤ _; exact Nat.le_of_eq rfl) (hb hby d14_154) (fun _ _ => ⟨rfl, e643, (by decide : 0 + 0 ≤ _), (by decide : 0 + 0 ≤ _)⟩)
  dsimp only [Pt.U, Pt.locs, Pt.cells, Pt.slots] at X644 l644 y644 z644 st644 hQ644
  subst l644 y644 z644
  obtain ⟨rfl, Nq644, hsq644, Eq644, Fwq644, Flq644, Fpq644, Vq644⟩ := hQ644
  have N644 := Fr.app N635 Nq644
  have kq645 := Nat.le_trans kq637 hsq644
  have Zs646 : n0 ≤ T644.heap.size := Nat.le_trans Zs638 hsq644
  refine up ?_ (fun t k => st644.trans k)
  show own_G (T644.setTop (mkF m 157 #[oA a, oI (1 : Int32)] []))
  exact own_retV X644 hx hlk hret (hb hby d14_157) ⟨rfl, N644, kq645, ⟨Eq644, Fwq644, Flq644, Fpq644, Vq644⟩⟩ (by decide) (by decide)
def own_Q_rmn4c (Z : State) (a : Addr) (r : Addr) (kr : ClassId) (pw : Int32) (x0 : Int64) (x1 : Int64) (x2 : Int64) (x3 : Int64) (h0 : Heap) (n0 : Nat) (v : Option Value) (h : Heap) (L : List Loc) : Prop := v = none ∧ Fr n0 L ∧ h0.size ≤ h.size ∧ own_O Z h a r kr (4 : Int32) (3 : Int32) pw [(.long x0), (.long x1), (.long (own_sg x1)), (.long x3)]
theorem rmn4c (l : Launch) (Z : State) (a0 : Array Value) (hw : own_W Z a0) (ws : List Jvm.Cond) (a : Addr) (r : Addr) (kr : ClassId) (pw : Int32) (x0 : Int64) (x1 : Int64) (x2 : Int64) (x3 : Int64) (h0 : Heap) (n0 : Nat) (Z0 : n0 ≤ h0.size) (O0 : own_O Z h0 a r kr (4 : Int32) (4 : Int32) pw [(.long x0), (.long x1), (.long x2), (.long x3)]) (g_a : n0 ≤ a) (g_r : n0 ≤ r) (h2 : x2 = own_sg x1) (h3 : x3 = own_sg x2) (h1 : ¬ (x1 = own_sg x0)) (hz : ¬ (x0 = (0 : Int64))) :
    own_M l Z (⟨"com/example/eventweir/eventweir/ExactSum", "normalize", "()V"⟩ : MethodName) prog_78_method_12_code 2 none ws ({ frames := 1, cells := 0, slots := 0, locals := 16 } : Room) #[(.ref a)] h0 (own_Q_rmn4c Z a r kr pw x0 x1 x2 x3 h0 n0) := by
  refine own_body (plainFor_of_name own_pn0) ?_
  intro p e s m below meth c s₁ hx hZ hby hml hown hnm hlk hret X0 e0
  have N0 := Fr.nil n0
  obtain ⟨E_a, Fw, Fl, Fp, V⟩ := O0
  have ne_ar : a ≠ r := E_a.neArv V (hw _ (own_m 3 rfl))
  refine up (U' := s₁.setTop (mkF m 0 #[oA a, oU] [])) ?_ (fun t k => castTop (own_ef_rmn3z m a) k)
  refine up ?_ fun t k => XS.aloadN X0.here hx rfl (hb hby d14_0) rfl rfl k
  show own_G (s₁.setTop (mkF m 1 #[oA a, oU] [(.ref a)]))
  obtain ⟨T647, X647, e647, st647⟩ := getF X0 hx hZ hown (host := "") (Or.inl (hw _ (own_m 20 rfl))) Via.refl e0 Fl (g := (mkF m 1 #[oA a, oU] [(.ref a)])) rfl rfl (hb hby d14_1)
  refine up ?_ st647
  show own_G (T647.setTop (mkF m 4 #[oA a, oU] [(.int (4 : Int32))]))
  refine up ?_ fun t k => XS.ifNo X647.here hx rfl (hb hby d14_4) rfl ((if0 _ _).trans (tlt (by decide : ((0 : Int32) < (4 : Int32)))).2.2.2) (XS.aloadN X647.here hx rfl (hb hby d14_7) rfl rfl (XS.aloadN X647.here hx rfl (hb hby d14_8) rfl rfl k))
  show own_G (T647.setTop (mkF m 9 #[oA a, oU] [(.ref a), (.ref a)]))
  obtain ⟨T648, X648, e648, st648⟩ := getF X647 hx hZ hown (host := "") (Or.inl (hw _ (own_m 20 rfl))) Via.refl e647 Fl (g := (mkF m 9 #[oA a, oU] [(.ref a), (.ref a)])) rfl rfl (hb hby d14_9)
  refine up ?_ st648
  show own_G (T648.setTop (mkF m 12 #[oA a, oU] [(.int (4 : Int32)), (.ref a)]))
  refine up ?_ fun t k => XS.iconst X648.here hx rfl (hb hby d14_12) (XS.isub X648.here hx rfl (hb hby d14_13) rfl k)
  show own_G (T648.setTop (mkF m 14 #[oA a, oU] [(.int (3 : Int32)), (.ref a)]))
  obtain ⟨cq649, q649, q649'⟩ := E_a.cell
  obtain ⟨_, _, ⟨T649, L649, k649, n649⟩, -, X649, ⟨Lc649, hQ649, l649, y649, z649⟩, st649⟩ := X648.privateBack hx (y := (⟨"com/example/eventweir/eventweir/ExactSum", "repeatsSign", "(I)Z"⟩ : MethodName)) hown (mvT hZ (hw _ (own_m 49 rfl))) (mvT hZ (hw _ (own_m 50 rfl))) (own_sel (by decide) (mvT hZ (hw _ (own_m 50 rfl))) (mvP hZ (hw _ (own_m 51 rfl))) (mvT hZ (hw _ (own_m 3 rfl)))) (Cond.privateMethod_at (mvP hZ (hw _ (own_m 51 rfl)) (args := #[]))) (mvT hZ (hw _ (own_m 52 rfl))) (by decide) (backOf (W := 0) (rmrs3 l Z a0 hw [] a r kr pw x0 x1 x2 x3 (4 : Int32) h0 n0 Z0 ⟨E_a, Fw, Fl, Fp, V⟩ g_a g_r ) hZ (hw _ (own_m 52 rfl)) (hw _ (own_m 4 rfl)) (by decide) (by decide)) (g := (mkF m 14 #[oA a, oU] [(.int (3 : Int32)), (.ref a)])) rfl (by rw [hml]; rfl) (Steps.refl _) (a := a) (by rw [e648]; exact q649) q649' (argsL := [(.int (3 : Int32))]) (rest := []) (lenOf own_pd5 rfl) rfl (by show 2 * 0 + _ ≤ _; exact Nat.le_of_eq rfl) (hb hby d14_14) (fun _ _ => ⟨rfl, e648, (by decide : 0 + 0 ≤ _), (by decide : 0 + 0 ≤ _)⟩)
  dsimp only [Pt.U, Pt.locs, Pt.cells, Pt.slots] at X649 l649 y649 z649 st649 hQ649
  subst l649 y649 z649
  obtain ⟨rfl, Nq649, e649⟩ := hQ649
  have N649 := Fr.app N0 Nq649
  refine up ?_ (fun t k => st649.trans k)
  show own_G (T649.setTop (mkF m 17 #[oA a, oU] [(.int (if x3 = own_sg x2 then (1 : Int32) else (0 : Int32)))]))
  refine up ?_ fun t k => XS.ifNo X649.here hx rfl (hb hby d14_17) rfl ((if0 _ _).trans (feq ((by rw [if_pos h3]; decide) : ¬ ((if x3 = own_sg x2 then (1 : Int32) else (0 : Int32)) = (0 : Int32)))).1) (XS.aloadN X649.here hx rfl (hb hby d14_20) rfl rfl (XS.dup X649.here hx rfl (hb hby d14_21) rfl rfl k))
  show own_G (T649.setTop (mkF m 22 #[oA a, oU] [(.ref a), (.ref a)]))
  obtain ⟨T650, X650, e650, st650⟩ := getF X649 hx hZ hown (host := "") (Or.inl (hw _ (own_m 20 rfl))) Via.refl e649 Fl (g := (mkF m 22 #[oA a, oU] [(.ref a), (.ref a)])) rfl rfl (hb hby d14_22)
  refine up ?_ st650
  show own_G (T650.setTop (mkF m 25 #[oA a, oU] [(.int (4 : Int32)), (.ref a)]))
  refine up ?_ fun t k => XS.iconst X650.here hx rfl (hb hby d14_25) (XS.isub X650.here hx rfl (hb hby d14_26) rfl k)
  show own_G (T650.setTop (mkF m 27 #[oA a, oU] [(.int (3 : Int32)), (.ref a)]))
  obtain ⟨T651, h651, X651, e651, W651, st651⟩ := putF X650 hx hZ hown (host := "") (Or.inl (hw _ (own_m 20 rfl))) Via.refl e650 Fl E_a (Or.inl (hw _ (own_m 21 rfl))) (hw _ (own_m 3 rfl)) (ty := .int) (by decide) rfl rfl (g := (mkF m 27 #[oA a, oU] [(.int (3 : Int32)), (.ref a)])) rfl rfl (hb hby d14_27)
  refine up ?_ st651
  have E_a_c652 := E_a.wr W651
  have Fw_c652 := Fw.other W651 (Or.inr (slot_ne (Or.inl (hw _ (own_m 14 rfl))) (Or.inl (hw _ (own_m 21 rfl))) (by decide) (t := (.array .long)) (t' := .int) (by decide) (by decide)))
  have Fp_c652 := Fp.other W651 (Or.inr (slot_ne (Or.inl (hw _ (own_m 23 rfl))) (Or.inl (hw _ (own_m 21 rfl))) (by decide) (t := .int) (t' := .int) (by decide) (by decide)))
  have V_c652 := V.other W651 (Ne.symm ne_ar)
  have F651 := Fl.same W651
  have N651 := Fr.snoc X651 N649 g_a
  have kq653 := Nat.le_trans (Nat.le_refl h0.size) (Keep.of_wr W651).1
  have Zs654 : n0 ≤ h651.size := Nat.le_trans Z0 (Keep.of_wr W651).1
  show own_G (T651.setTop (mkF m 30 #[oA a, oU] []))
  refine up ?_ fun t k => XS.goto X651.here hx rfl (pc0 := 30) (pc' := 0) rfl (hb hby d14_30) (by decide) (by decide) (XS.aloadN X651.here hx rfl (hb hby d14_0) rfl rfl k)
  show own_G (T651.setTop (mkF m 1 #[oA a, oU] [(.ref a)]))
  obtain ⟨T655, X655, e655, st655⟩ := getF X651 hx hZ hown (host := "") (Or.inl (hw _ (own_m 20 rfl))) Via.refl e651 F651 (g := (mkF m 1 #[oA a, oU] [(.ref a)])) rfl rfl (hb hby d14_1)
  refine up ?_ st655
  show own_G (T655.setTop (mkF m 4 #[oA a, oU] [(.int (3 : Int32))]))
  refine up ?_ fun t k => XS.ifNo X655.here hx rfl (hb hby d14_4) rfl ((if0 _ _).trans (tlt (by decide : ((0 : Int32) < (3 : Int32)))).2.2.2) (XS.aloadN X655.here hx rfl (hb hby d14_7) rfl rfl (XS.aloadN X655.here hx rfl (hb hby d14_8) rfl rfl k))
  show own_G (T655.setTop (mkF m 9 #[oA a, oU] [(.ref a), (.ref a)]))
  obtain ⟨T656, X656, e656, st656⟩ := getF X655 hx hZ hown (host := "") (Or.inl (hw _ (own_m 20 rfl))) Via.refl e655 F651 (g := (mkF m 9 #[oA a, oU] [(.ref a), (.ref a)])) rfl rfl (hb hby d14_9)
  refine up ?_ st656
  show own_G (T656.setTop (mkF m 12 #[oA a, oU] [(.int (3 : Int32)), (.ref a)]))
  refine up ?_ fun t k => XS.iconst X656.here hx rfl (hb hby d14_12) (XS.isub X656.here hx rfl (hb hby d14_13) rfl k)
  show own_G (T656.setTop (mkF m 14 #[oA a, oU] [(.int (2 : Int32)), (.ref a)]))
  obtain ⟨cq657, q657, q657'⟩ := E_a_c652.cell
  obtain ⟨_, _, ⟨T657, L657, k657, n657⟩, -, X657, ⟨Lc657, hQ657, l657, y657, z657⟩, st657⟩ := X656.privateBack hx (y := (⟨"com/example/eventweir/eventweir/ExactSum", "repeatsSign", "(I)Z"⟩ : MethodName)) hown (mvT hZ (hw _ (own_m 49 rfl))) (mvT hZ (hw _ (own_m 50 rfl))) (own_sel (by decide) (mvT hZ (hw _ (own_m 50 rfl))) (mvP hZ (hw _ (own_m 51 rfl))) (mvT hZ (hw _ (own_m 3 rfl)))) (Cond.privateMethod_at (mvP hZ (hw _ (own_m 51 rfl)) (args := #[]))) (mvT hZ (hw _ (own_m 52 rfl))) (by decide) (backOf (W := 0) (rmrs2 l Z a0 hw [] a r kr (4 : Int32) pw [(.long x3)] x0 x1 x2 (3 : Int32) h651 n0 Zs654 ⟨E_a_c652, Fw_c652, F651, Fp_c652, V_c652⟩ g_a g_r (own_cap4 x3) ) hZ (hw _ (own_m 52 rfl)) (hw _ (own_m 4 rfl)) (by decide) (by decide)) (g := (mkF m 14 #[oA a, oU] [(.int (2 : Int32)), (.ref a)])) rfl (by rw [hml]; rfl) (Steps.refl _) (a := a) (by rw [e656]; exact q657) q657' (argsL := [(.int (2 : Int32))]) (rest := []) (lenOf own_pd5 rfl) rfl (by show 2 * 0 + _ ≤ _; exact Nat.le_of_eq rfl) (hb hby d14_14) (fun _ _ => ⟨rfl, e656, (by decide : 0 + 0 ≤ _), (by decide : 0 + 0 ≤ _)⟩)
  dsimp only [Pt.U, Pt.locs, Pt.cells, Pt.slots] at X657 l657 y657 z657 st657 hQ657
  subst l657 y657 z657
  obtain ⟨rfl, Nq657, e657⟩ := hQ657
  have N657 := Fr.app N651 Nq657
  refine up ?_ (fun t k => st657.trans k)
  show own_G (T657.setTop (mkF m 17 #[oA a, oU] [(.int (if x2 = own_sg x1 then (1 : Int32) else (0 : Int32)))]))
  refine up ?_ fun t k => XS.ifNo X657.here hx rfl (hb hby d14_17) rfl ((if0 _ _).trans (feq ((by rw [if_pos h2]; decide) : ¬ ((if x2 = own_sg x1 then (1 : Int32) else (0 : Int32)) = (0 : Int32)))).1) (XS.aloadN X657.here hx rfl (hb hby d14_20) rfl rfl (XS.dup X657.here hx rfl (hb hby d14_21) rfl rfl k))
  show own_G (T657.setTop (mkF m 22 #[oA a, oU] [(.ref a), (.ref a)]))
  obtain ⟨T658, X658, e658, st658⟩ := getF X657 hx hZ hown (host := "") (Or.inl (hw _ (own_m 20 rfl))) Via.refl e657 F651 (g := (mkF m 22 #[oA a, oU] [(.ref a), (.ref a)])) rfl rfl (hb hby d14_22)
  refine up ?_ st658
  show own_G (T658.setTop (mkF m 25 #[oA a, oU] [(.int (3 : Int32)), (.ref a)]))
  refine up ?_ fun t k => XS.iconst X658.here hx rfl (hb hby d14_25) (XS.isub X658.here hx rfl (hb hby d14_26) rfl k)
  show own_G (T658.setTop (mkF m 27 #[oA a, oU] [(.int (2 : Int32)), (.ref a)]))
  obtain ⟨T659, h659, X659, e659, W659, st659⟩ := putF X658 hx hZ hown (host := "") (Or.inl (hw _ (own_m 20 rfl))) Via.refl e658 F651 E_a_c652 (Or.inl (hw _ (own_m 21 rfl))) (hw _ (own_m 3 rfl)) (ty := .int) (by decide) rfl rfl (g := (mkF m 27 #[oA a, oU] [(.int (2 : Int32)), (.ref a)])) rfl rfl (hb hby d14_27)
  refine up ?_ st659
  have E_a_c660 := E_a_c652.wr W659
  have Fw_c660 := Fw_c652.other W659 (Or.inr (slot_ne (Or.inl (hw _ (own_m 14 rfl))) (Or.inl (hw _ (own_m 21 rfl))) (by decide) (t := (.array .long)) (t' := .int) (by decide) (by decide)))
  have Fp_c660 := Fp_c652.other W659 (Or.inr (slot_ne (Or.inl (hw _ (own_m 23 rfl))) (Or.inl (hw _ (own_m 21 rfl))) (by decide) (t := .int) (t' := .int) (by decide) (by decide)))
  have V_c660 := V_c652.other W659 (Ne.symm ne_ar)
  have F659 := F651.same W659
  have N659 := Fr.snoc X659 N657 g_a
  have kq661 := Nat.le_trans kq653 (Keep.of_wr W659).1
  have Zs662 : n0 ≤ h659.size := Nat.le_trans Zs654 (Keep.of_wr W659).1
  show own_G (T659.setTop (mkF m 30 #[oA a, oU] []))
  refine up ?_ fun t k => XS.goto X659.here hx rfl (pc0 := 30) (pc' := 0) rfl (hb hby d14_30) (by decide) (by decide) (XS.aloadN X659.here hx rfl (hb hby d14_0) rfl rfl k)
  show own_G (T659.setTop (mkF m 1 #[oA a, oU] [(.ref a)]))
  obtain ⟨T663, X663, e663, st663⟩ := getF X659 hx hZ hown (host := "") (Or.inl (hw _ (own_m 20 rfl))) Via.refl e659 F659 (g := (mkF m 1 #[oA a, oU] [(.ref a)])) rfl rfl (hb hby d14_1)
  refine up ?_ st663
  show own_G (T663.setTop (mkF m 4 #[oA a, oU] [(.int (2 : Int32))]))
  refine up ?_ fun t k => XS.ifNo X663.here hx rfl (hb hby d14_4) rfl ((if0 _ _).trans (tlt (by decide : ((0 : Int32) < (2 : Int32)))).2.2.2) (XS.aloadN X663.here hx rfl (hb hby d14_7) rfl rfl (XS.aloadN X663.here hx rfl (hb hby d14_8) rfl rfl k))
  show own_G (T663.setTop (mkF m 9 #[oA a, oU] [(.ref a), (.ref a)]))
  obtain ⟨T664, X664, e664, st664⟩ := getF X663 hx hZ hown (host := "") (Or.inl (hw _ (own_m 20 rfl))) Via.refl e663 F659 (g := (mkF m 9 #[oA a, oU] [(.ref a), (.ref a)])) rfl rfl (hb hby d14_9)
  refine up ?_ st664
  show own_G (T664.setTop (mkF m 12 #[oA a, oU] [(.int (2 : Int32)), (.ref a)]))
  refine up ?_ fun t k => XS.iconst X664.here hx rfl (hb hby d14_12) (XS.isub X664.here hx rfl (hb hby d14_13) rfl k)
  show own_G (T664.setTop (mkF m 14 #[oA a, oU] [(.int (1 : Int32)), (.ref a)]))
  obtain ⟨cq665, q665, q665'⟩ := E_a_c660.cell
  obtain ⟨_, _, ⟨T665, L665, k665, n665⟩, -, X665, ⟨Lc665, hQ665, l665, y665, z665⟩, st665⟩ := X664.privateBack hx (y := (⟨"com/example/eventweir/eventweir/ExactSum", "repeatsSign", "(I)Z"⟩ : MethodName)) hown (mvT hZ (hw _ (own_m 49 rfl))) (mvT hZ (hw _ (own_m 50 rfl))) (own_sel (by decide) (mvT hZ (hw _ (own_m 50 rfl))) (mvP hZ (hw _ (own_m 51 rfl))) (mvT hZ (hw _ (own_m 3 rfl)))) (Cond.privateMethod_at (mvP hZ (hw _ (own_m 51 rfl)) (args := #[]))) (mvT hZ (hw _ (own_m 52 rfl))) (by decide) (backOf (W := 0) (rmrs1 l Z a0 hw [] a r kr (4 : Int32) pw [(.long x3)] x0 x1 x2 (2 : Int32) h659 n0 Zs662 ⟨E_a_c660, Fw_c660, F659, Fp_c660, V_c660⟩ g_a g_r (own_cap4 x3) ) hZ (hw _ (own_m 52 rfl)) (hw _ (own_m 4 rfl)) (by decide) (by decide)) (g := (mkF m 14 #[oA a, oU] [(.int (1 : Int32)), (.ref a)])) rfl (by rw [hml]; rfl) (Steps.refl _) (a := a) (by rw [e664]; exact q665) q665' (argsL := [(.int (1 : Int32))]) (rest := []) (lenOf own_pd5 rfl) rfl (by show 2 * 0 + _ ≤ _; exact Nat.le_of_eq rfl) (hb hby d14_14) (fun _ _ => ⟨rfl, e664, (by decide : 0 + 0 ≤ _), (by decide : 0 + 0 ≤ _)⟩)
  dsimp only [Pt.U, Pt.locs, Pt.cells, Pt.slots] at X665 l665 y665 z665 st665 hQ665
  subst l665 y665 z665
  obtain ⟨rfl, Nq665, e665⟩ := hQ665
  have N665 := Fr.app N659 Nq665
  refine up ?_ (fun t k => st665.trans k)
  show own_G (T665.setTop (mkF m 17 #[oA a, oU] [(.int (if x1 = own_sg x0 then (1 : Int32) else (0 : Int32)))]))
  refine up ?_ fun t k => XS.ifYes X665.here hx rfl (pc0 := 17) (pc' := 33) rfl (hb hby d14_17) rfl ((if0 _ _).trans (teq ((by rw [if_neg h1]) : ((if x1 = own_sg x0 then (1 : Int32) else (0 : Int32)) = (0 : Int32)))).1) (by decide) (by decide) (XS.iconst X665.here hx rfl (hb hby d14_33) (XS.istoreN X665.here hx rfl (hb hby d14_34) rfl (l' := #[oA a, oI (0 : Int32)]) rfl (XS.iloadN X665.here hx rfl (hb hby d14_35) rfl (XS.aloadN X665.here hx rfl (hb hby d14_36) rfl rfl k))))
  show own_G (T665.setTop (mkF m 37 #[oA a, oI (0 : Int32)] [(.ref a), (.int (0 : Int32))]))
  obtain ⟨T666, X666, e666, st666⟩ := getF X665 hx hZ hown (host := "") (Or.inl (hw _ (own_m 20 rfl))) Via.refl e665 F659 (g := (mkF m 37 #[oA a, oI (0 : Int32)] [(.ref a), (.int (0 : Int32))])) rfl rfl (hb hby d14_37)
  refine up ?_ st666
  show own_G (T666.setTop (mkF m 40 #[oA a, oI (0 : Int32)] [(.int (2 : Int32)), (.int (0 : Int32))]))
  refine up ?_ fun t k => XS.icmpNo X666.here hx rfl (hb hby d14_40) rfl (tlt (by decide : ((0 : Int32) < (2 : Int32)))).2.1 (XS.aloadN X666.here hx rfl (hb hby d14_43) rfl rfl k)
  show own_G (T666.setTop (mkF m 44 #[oA a, oI (0 : Int32)] [(.ref a)]))
  obtain ⟨T667, X667, e667, st667⟩ := getF X666 hx hZ hown (host := "") (Or.inl (hw _ (own_m 13 rfl))) Via.refl e666 Fw_c660 (g := (mkF m 44 #[oA a, oI (0 : Int32)] [(.ref a)])) rfl rfl (hb hby d14_44)
  refine up ?_ st667
  show own_G (T667.setTop (mkF m 47 #[oA a, oI (0 : Int32)] [(.ref r)]))
  refine up ?_ fun t k => XS.iloadN X667.here hx rfl (hb hby d14_47) rfl k
  show own_G (T667.setTop (mkF m 48 #[oA a, oI (0 : Int32)] [(.int (0 : Int32)), (.ref r)]))
  obtain ⟨cl668, Ar668, qa668, Sa668, Na668, Ha668, Ga668⟩ := id V_c660
  have hin668 : ¬ ((0 : Int32) < 0 ∨ cl668.slots.size ≤ ((0 : Int32)).toNatClampNeg) := inb_of Sa668 ⟨by decide, by decide⟩
  refine up ?_ fun t k => X667.laload hx (j := (0 : Int32)) (v := (.long x0)) (by rw [e667]; exact Ar668.1) (State.isArrayOf_alike hZ.alike Ar668.2.1) Ar668.2.2 hin668 (Ha668.at hin668 rfl) (g := (mkF m 48 #[oA a, oI (0 : Int32)] [(.int (0 : Int32)), (.ref r)])) rfl rfl (hb hby d14_48) _ (XS.lconst X667.here hx rfl (hb hby d14_49) (XS.lcmp X667.here hx rfl (hb hby d14_50) rfl k))
  show own_G (T667.setTop (mkF m 51 #[oA a, oI (0 : Int32)] [(.int (lcmpW x0 (0 : Int64)))]))
  refine up ?_ fun t k => XS.ifYes X667.here hx rfl (pc0 := 51) (pc' := 60) rfl (hb hby d14_51) rfl ((if0 _ _).trans (feq (fun q => (hz : ¬ (x0 = (0 : Int64))) ((lw_eq _ _).mp q))).2) (by decide) (by decide) (XS.iloadN X667.here hx rfl (hb hby d14_60) rfl k)
  show own_G (T667.setTop (mkF m 61 #[oA a, oI (0 : Int32)] [(.int (0 : Int32))]))
  refine up ?_ fun t k => XS.ifYes X667.here hx rfl (pc0 := 61) (pc' := 106) rfl (hb hby d14_61) rfl ((if0 _ _).trans (flt (by decide : ¬ ((0 : Int32) < (0 : Int32)))).2.2.2) (by decide) (by decide) (XS.aloadN X667.here hx rfl (hb hby d14_106) rfl rfl k)
  show own_G (T667.setTop (mkF m 107 #[oA a, oI (0 : Int32)] [(.ref a)]))
  obtain ⟨T669, X669, e669, st669⟩ := getF X667 hx hZ hown (host := "") (Or.inl (hw _ (own_m 13 rfl))) Via.refl e667 Fw_c660 (g := (mkF m 107 #[oA a, oI (0 : Int32)] [(.ref a)])) rfl rfl (hb hby d14_107)
  refine up ?_ st669
  show own_G (T669.setTop (mkF m 110 #[oA a, oI (0 : Int32)] [(.ref r)]))
  obtain ⟨cl670, Ar670, qa670, Sa670, Na670, Ha670, Ga670⟩ := id V_c660
  refine up ?_ fun t k => X669.arraylength hx (by rw [e669]; exact Ar670.1) (State.isArrayOf_alike hZ.alike Ar670.2.1) (g := (mkF m 110 #[oA a, oI (0 : Int32)] [(.ref r)])) rfl rfl (hb hby d14_110) _ k
  rw [len_of Sa670 Na670]
  show own_G (T669.setTop (mkF m 111 #[oA a, oI (0 : Int32)] [(.int (4 : Int32))]))
  refine up ?_ fun t k => XS.iconst X669.here hx rfl (hb hby d14_111) (XS.aloadN X669.here hx rfl (hb hby d14_112) rfl rfl k)
  show own_G (T669.setTop (mkF m 113 #[oA a, oI (0 : Int32)] [(.ref a), (.int (2 : Int32)), (.int (4 : Int32))]))
  obtain ⟨T671, X671, e671, st671⟩ := getF X669 hx hZ hown (host := "") (Or.inl (hw _ (own_m 20 rfl))) Via.refl e669 F659 (g := (mkF m 113 #[oA a, oI (0 : Int32)] [(.ref a), (.int (2 : Int32)), (.int (4 : Int32))])) rfl rfl (hb hby d14_113)
  refine up ?_ st671
  show own_G (T671.setTop (mkF m 116 #[oA a, oI (0 : Int32)] [(.int (2 : Int32)), (.int (2 : Int32)), (.int (4 : Int32))]))
  refine up ?_ fun t k => XS.imul X671.here hx rfl (hb hby d14_116) rfl (XS.bipush X671.here hx rfl (hb hby d14_117) (XS.iadd X671.here hx rfl (hb hby d14_119) rfl k))
  show own_G (T671.setTop (mkF m 120 #[oA a, oI (0 : Int32)] [(.int (12 : Int32)), (.int (4 : Int32))]))
  refine up ?_ fun t k => XS.icmpYes X671.here hx rfl (pc0 := 120) (pc' := 140) rfl (hb hby d14_120) rfl (flt (by decide : ¬ ((12 : Int32) < (4 : Int32)))).2.2.2 (by decide) (by decide) (XS.aloadN X671.here hx rfl (hb hby d14_140) rfl rfl k)
  show own_G (T671.setTop (mkF m 141 #[oA a, oI (0 : Int32)] [(.ref a)]))
  obtain ⟨T672, X672, e672, st672⟩ := getF X671 hx hZ hown (host := "") (Or.inl (hw _ (own_m 20 rfl))) Via.refl e671 F659 (g := (mkF m 141 #[oA a, oI (0 : Int32)] [(.ref a)])) rfl rfl (hb hby d14_141)
  refine up ?_ st672
  show own_G (T672.setTop (mkF m 144 #[oA a, oI (0 : Int32)] [(.int (2 : Int32))]))
  refine up ?_ fun t k => XS.ifNo X672.here hx rfl (hb hby d14_144) rfl ((if0 _ _).trans (tlt (by decide : ((0 : Int32) < (2 : Int32)))).2.2.2) (XS.aloadN X672.here hx rfl (hb hby d14_147) rfl rfl (XS.aloadN X672.here hx rfl (hb hby d14_148) rfl rfl k))
  show own_G (T672.setTop (mkF m 149 #[oA a, oI (0 : Int32)] [(.ref a), (.ref a)]))
  obtain ⟨T673, X673, e673, st673⟩ := getF X672 hx hZ hown (host := "") (Or.inl (hw _ (own_m 20 rfl))) Via.refl e672 F659 (g := (mkF m 149 #[oA a, oI (0 : Int32)] [(.ref a), (.ref a)])) rfl rfl (hb hby d14_149)
  refine up ?_ st673
  show own_G (T673.setTop (mkF m 152 #[oA a, oI (0 : Int32)] [(.int (2 : Int32)), (.ref a)]))
  refine up ?_ fun t k => XS.iconst X673.here hx rfl (hb hby d14_152) (XS.iadd X673.here hx rfl (hb hby d14_153) rfl k)
  show own_G (T673.setTop (mkF m 154 #[oA a, oI (0 : Int32)] [(.int (3 : Int32)), (.ref a)]))
  obtain ⟨cq674, q674, q674'⟩ := E_a_c660.cell
  obtain ⟨_, _, ⟨T674, L674, k674, n674⟩, -, X674, ⟨Lc674, hQ674, l674, y674, z674⟩, st674⟩ := X673.privateBack hx (y := (⟨"com/example/eventweir/eventweir/ExactSum", "widen", "(I)V"⟩ : MethodName)) hown (mvT hZ (hw _ (own_m 24 rfl))) (mvT hZ (hw _ (own_m 25 rfl))) (own_sel (by decide) (mvT hZ (hw _ (own_m 25 rfl))) (mvP hZ (hw _ (own_m 26 rfl))) (mvT hZ (hw _ (own_m 3 rfl)))) (Cond.privateMethod_at (mvP hZ (hw _ (own_m 26 rfl)) (args := #[]))) (mvT hZ (hw _ (own_m 27 rfl))) (by decide) (backOf (W := 0) (rmw23 l Z a0 hw [] a r kr (4 : Int32) pw [(.long x3)] x0 x1 x2 h659 n0 Zs662 ⟨E_a_c660, Fw_c660, F659, Fp_c660, V_c660⟩ g_a g_r (own_cap4 x3) ) hZ (hw _ (own_m 27 rfl)) (hw _ (own_m 4 rfl)) (by decide) (by decide)) (g := (mkF m 154 #[oA a, oI (0 : Int32)] [(.int (3 : Int32)), (.ref a)])) rfl (by rw [hml]; rfl) (Steps.refl _) (a := a) (by rw [e673]; exact q674) q674' (argsL := [(.int (3 : Int32))]) (rest := []) (lenOf own_pd6 rfl) rfl (by show 2 * 0 + _ ≤ _; exact Nat.le_of_eq rfl) (hb hby d14_154) (fun _ _ => ⟨rfl, e673, (by decide : 0 + 0 ≤ _), (by decide : 0 + 0 ≤ _)⟩)
  dsimp only [Pt.U, Pt.locs, Pt.cells, Pt.slots] at X674 l674 y674 z674 st674 hQ674
  subst l674 y674 z674
  obtain ⟨rfl, Nq674, hsq674, Eq674, Fwq674, Flq674, Fpq674, Vq674⟩ := hQ674
  have N674 := Fr.app N665 Nq674
  have kq675 := Nat.le_trans kq661 hsq674
  have Zs676 : n0 ≤ T674.heap.size := Nat.le_trans Zs662 hsq674
  refine up ?_ (fun t k => st674.trans k)
  show own_G (T674.setTop (mkF m 157 #[oA a, oI (0 : Int32)] []))
  exact own_retV X674 hx hlk hret (hb hby d14_157) ⟨rfl, N674, kq675, ⟨Eq674, Fwq674, Flq674, Fpq674, Vq674⟩⟩ (by decide) (by decide)
theorem d3_0 : decode prog_78_method_3_code 0 = .ok (.aload_n 0, 1) := by decide +kernel
theorem d3_1 : decode prog_78_method_3_code 1 = .ok (.getfield 16, 3) := by decide +kernel
theorem d3_4 : decode prog_78_method_3_code 4 = .ok (.ifCond .ne 12, 3) := by decide +kernel
theorem d3_7 : decode prog_78_method_3_code 7 = .ok (.aload_n 0, 1) := by decide +kernel
theorem d3_8 : decode prog_78_method_3_code 8 = .ok (.iload 5, 2) := by decide +kernel
theorem d3_10 : decode prog_78_method_3_code 10 = .ok (.putfield 20, 3) := by decide +kernel
theorem d3_13 : decode prog_78_method_3_code 13 = .ok (.goto 29, 3) := by decide +kernel
theorem d3_16 : decode prog_78_method_3_code 16 = .ok (.iload 5, 2) := by decide +kernel
theorem d3_18 : decode prog_78_method_3_code 18 = .ok (.aload_n 0, 1) := by decide +kernel
theorem d3_19 : decode prog_78_method_3_code 19 = .ok (.getfield 20, 3) := by decide +kernel
theorem d3_22 : decode prog_78_method_3_code 22 = .ok (.if_icmp .ge 20, 3) := by decide +kernel
theorem d3_25 : decode prog_78_method_3_code 25 = .ok (.aload_n 0, 1) := by decide +kernel
theorem d3_26 : decode prog_78_method_3_code 26 = .ok (.aload_n 0, 1) := by decide +kernel
theorem d3_27 : decode prog_78_method_3_code 27 = .ok (.getfield 20, 3) := by decide +kernel
theorem d3_30 : decode prog_78_method_3_code 30 = .ok (.iload 5, 2) := by decide +kernel
theorem d3_32 : decode prog_78_method_3_code 32 = .ok (.isub, 1) := by decide +kernel
theorem d3_33 : decode prog_78_method_3_code 33 = .ok (.invokevirtual 26, 3) := by decide +kernel
theorem d3_36 : decode prog_78_method_3_code 36 = .ok (.aload_n 0, 1) := by decide +kernel
theorem d3_37 : decode prog_78_method_3_code 37 = .ok (.iload 5, 2) := by decide +kernel
theorem d3_39 : decode prog_78_method_3_code 39 = .ok (.putfield 20, 3) := by decide +kernel
theorem d3_42 : decode prog_78_method_3_code 42 = .ok (.iload 5, 2) := by decide +kernel
theorem d3_44 : decode prog_78_method_3_code 44 = .ok (.aload_n 0, 1) := by decide +kernel
theorem d3_45 : decode prog_78_method_3_code 45 = .ok (.getfield 20, 3) := by decide +kernel
theorem d3_48 : decode prog_78_method_3_code 48 = .ok (.isub, 1) := by decide +kernel
theorem d3_49 : decode prog_78_method_3_code 49 = .ok (.istore 6, 2) := by decide +kernel
theorem d3_51 : decode prog_78_method_3_code 51 = .ok (.iload 6, 2) := by decide +kernel
theorem d3_53 : decode prog_78_method_3_code 53 = .ok (.bipush 6, 2) := by decide +kernel
theorem d3_55 : decode prog_78_method_3_code 55 = .ok (.iushr, 1) := by decide +kernel
theorem d3_56 : decode prog_78_method_3_code 56 = .ok (.istore 7, 2) := by decide +kernel
theorem d3_58 : decode prog_78_method_3_code 58 = .ok (.iload 6, 2) := by decide +kernel
theorem d3_60 : decode prog_78_method_3_code 60 = .ok (.bipush 63, 2) := by decide +kernel
theorem d3_62 : decode prog_78_method_3_code 62 = .ok (.iand, 1) := by decide +kernel
theorem d3_63 : decode prog_78_method_3_code 63 = .ok (.istore 8, 2) := by decide +kernel
theorem d3_65 : decode prog_78_method_3_code 65 = .ok (.lload_n 3, 1) := by decide +kernel
theorem d3_66 : decode prog_78_method_3_code 66 = .ok (.iload 8, 2) := by decide +kernel
theorem d3_68 : decode prog_78_method_3_code 68 = .ok (.lshl, 1) := by decide +kernel
theorem d3_69 : decode prog_78_method_3_code 69 = .ok (.lstore 9, 2) := by decide +kernel
theorem d3_71 : decode prog_78_method_3_code 71 = .ok (.lload_n 1, 1) := by decide +kernel
theorem d3_72 : decode prog_78_method_3_code 72 = .ok (.iload 8, 2) := by decide +kernel
theorem d3_74 : decode prog_78_method_3_code 74 = .ok (.lshl, 1) := by decide +kernel
theorem d3_75 : decode prog_78_method_3_code 75 = .ok (.lload_n 3, 1) := by decide +kernel
theorem d3_76 : decode prog_78_method_3_code 76 = .ok (.iconst 1, 1) := by decide +kernel
theorem d3_77 : decode prog_78_method_3_code 77 = .ok (.lushr, 1) := by decide +kernel
theorem d3_78 : decode prog_78_method_3_code 78 = .ok (.bipush 63, 2) := by decide +kernel
theorem d3_80 : decode prog_78_method_3_code 80 = .ok (.iload 8, 2) := by decide +kernel
theorem d3_82 : decode prog_78_method_3_code 82 = .ok (.isub, 1) := by decide +kernel
theorem d3_83 : decode prog_78_method_3_code 83 = .ok (.lushr, 1) := by decide +kernel
theorem d3_84 : decode prog_78_method_3_code 84 = .ok (.lor, 1) := by decide +kernel
theorem d3_85 : decode prog_78_method_3_code 85 = .ok (.lstore 11, 2) := by decide +kernel
theorem d3_87 : decode prog_78_method_3_code 87 = .ok (.lload_n 1, 1) := by decide +kernel
theorem d3_88 : decode prog_78_method_3_code 88 = .ok (.iconst 1, 1) := by decide +kernel
theorem d3_89 : decode prog_78_method_3_code 89 = .ok (.lshr, 1) := by decide +kernel
theorem d3_90 : decode prog_78_method_3_code 90 = .ok (.bipush 63, 2) := by decide +kernel
theorem d3_92 : decode prog_78_method_3_code 92 = .ok (.iload 8, 2) := by decide +kernel
theorem d3_94 : decode prog_78_method_3_code 94 = .ok (.isub, 1) := by decide +kernel
theorem d3_95 : decode prog_78_method_3_code 95 = .ok (.lshr, 1) := by decide +kernel
theorem d3_96 : decode prog_78_method_3_code 96 = .ok (.lstore 13, 2) := by decide +kernel
theorem d3_98 : decode prog_78_method_3_code 98 = .ok (.aload_n 0, 1) := by decide +kernel
theorem d3_99 : decode prog_78_method_3_code 99 = .ok (.iload 7, 2) := by decide +kernel
theorem d3_101 : decode prog_78_method_3_code 101 = .ok (.iconst 3, 1) := by decide +kernel
theorem d3_102 : decode prog_78_method_3_code 102 = .ok (.iadd, 1) := by decide +kernel
theorem d3_103 : decode prog_78_method_3_code 103 = .ok (.invokevirtual 30, 3) := by decide +kernel
theorem d3_106 : decode prog_78_method_3_code 106 = .ok (.aload_n 0, 1) := by decide +kernel
theorem d3_107 : decode prog_78_method_3_code 107 = .ok (.iload 7, 2) := by decide +kernel
theorem d3_109 : decode prog_78_method_3_code 109 = .ok (.lload 9, 2) := by decide +kernel
theorem d3_111 : decode prog_78_method_3_code 111 = .ok (.lconst 0, 1) := by decide +kernel
theorem d3_112 : decode prog_78_method_3_code 112 = .ok (.invokevirtual 33, 3) := by decide +kernel
theorem d3_115 : decode prog_78_method_3_code 115 = .ok (.lstore 15, 2) := by decide +kernel
theorem d3_117 : decode prog_78_method_3_code 117 = .ok (.aload_n 0, 1) := by decide +kernel
theorem d3_118 : decode prog_78_method_3_code 118 = .ok (.iload 7, 2) := by decide +kernel
theorem d3_120 : decode prog_78_method_3_code 120 = .ok (.iconst 1, 1) := by decide +kernel
theorem d3_121 : decode prog_78_method_3_code 121 = .ok (.iadd, 1) := by decide +kernel
theorem d3_122 : decode prog_78_method_3_code 122 = .ok (.lload 11, 2) := by decide +kernel
theorem d3_124 : decode prog_78_method_3_code 124 = .ok (.lload 15, 2) := by decide +kernel
theorem d3_126 : decode prog_78_method_3_code 126 = .ok (.invokevirtual 33, 3) := by decide +kernel
theorem d3_129 : decode prog_78_method_3_code 129 = .ok (.lstore 15, 2) := by decide +kernel
theorem d3_131 : decode prog_78_method_3_code 131 = .ok (.aload_n 0, 1) := by decide +kernel
theorem d3_132 : decode prog_78_method_3_code 132 = .ok (.iload 7, 2) := by decide +kernel
theorem d3_134 : decode prog_78_method_3_code 134 = .ok (.iconst 2, 1) := by decide +kernel
theorem d3_135 : decode prog_78_method_3_code 135 = .ok (.iadd, 1) := by decide +kernel
theorem d3_136 : decode prog_78_method_3_code 136 = .ok (.lload 13, 2) := by decide +kernel
theorem d3_138 : decode prog_78_method_3_code 138 = .ok (.lload 15, 2) := by decide +kernel
theorem d3_140 : decode prog_78_method_3_code 140 = .ok (.invokevirtual 33, 3) := by decide +kernel
theorem d3_143 : decode prog_78_method_3_code 143 = .ok (.lstore 15, 2) := by decide +kernel
theorem d3_145 : decode prog_78_method_3_code 145 = .ok (.lload 13, 2) := by decide +kernel
theorem d3_147 : decode prog_78_method_3_code 147 = .ok (.bipush 63, 2) := by decide +kernel
theorem d3_149 : decode prog_78_method_3_code 149 = .ok (.lshr, 1) := by decide +kernel
theorem d3_150 : decode prog_78_method_3_code 150 = .ok (.lstore 17, 2) := by decide +kernel
theorem d3_152 : decode prog_78_method_3_code 152 = .ok (.iload 7, 2) := by decide +kernel
theorem d3_154 : decode prog_78_method_3_code 154 = .ok (.iconst 3, 1) := by decide +kernel
theorem d3_155 : decode prog_78_method_3_code 155 = .ok (.iadd, 1) := by decide +kernel
theorem d3_156 : decode prog_78_method_3_code 156 = .ok (.istore 19, 2) := by decide +kernel
theorem d3_158 : decode prog_78_method_3_code 158 = .ok (.iload 19, 2) := by decide +kernel
theorem d3_160 : decode prog_78_method_3_code 160 = .ok (.aload_n 0, 1) := by decide +kernel
theorem d3_161 : decode prog_78_method_3_code 161 = .ok (.getfield 16, 3) := by decide +kernel
theorem d3_164 : decode prog_78_method_3_code 164 = .ok (.if_icmp .ge 31, 3) := by decide +kernel
theorem d3_167 : decode prog_78_method_3_code 167 = .ok (.lload 17, 2) := by decide +kernel
theorem d3_169 : decode prog_78_method_3_code 169 = .ok (.lload 15, 2) := by decide +kernel
theorem d3_171 : decode prog_78_method_3_code 171 = .ok (.ladd, 1) := by decide +kernel
theorem d3_172 : decode prog_78_method_3_code 172 = .ok (.lconst 0, 1) := by decide +kernel
theorem d3_173 : decode prog_78_method_3_code 173 = .ok (.lcmp, 1) := by decide +kernel
theorem d3_174 : decode prog_78_method_3_code 174 = .ok (.ifCond .eq 21, 3) := by decide +kernel
theorem d3_177 : decode prog_78_method_3_code 177 = .ok (.aload_n 0, 1) := by decide +kernel
theorem d3_178 : decode prog_78_method_3_code 178 = .ok (.iload 19, 2) := by decide +kernel
theorem d3_180 : decode prog_78_method_3_code 180 = .ok (.lload 17, 2) := by decide +kernel
theorem d3_182 : decode prog_78_method_3_code 182 = .ok (.lload 15, 2) := by decide +kernel
theorem d3_184 : decode prog_78_method_3_code 184 = .ok (.invokevirtual 33, 3) := by decide +kernel
theorem d3_187 : decode prog_78_method_3_code 187 = .ok (.lstore 15, 2) := by decide +kernel
theorem d3_189 : decode prog_78_method_3_code 189 = .ok (.iinc 19 1, 3) := by decide +kernel
theorem d3_192 : decode prog_78_method_3_code 192 = .ok (.goto (-34), 3) := by decide +kernel
theorem d3_195 : decode prog_78_method_3_code 195 = .ok (.aload_n 0, 1) := by decide +kernel
theorem d3_196 : decode prog_78_method_3_code 196 = .ok (.aload_n 0, 1) := by decide +kernel
theorem d3_197 : decode prog_78_method_3_code 197 = .ok (.getfield 16, 3) := by decide +kernel
theorem d3_200 : decode prog_78_method_3_code 200 = .ok (.iconst 1, 1) := by decide +kernel
theorem d3_201 : decode prog_78_method_3_code 201 = .ok (.isub, 1) := by decide +kernel
theorem d3_202 : decode prog_78_method_3_code 202 = .ok (.invokevirtual 37, 3) := by decide +kernel
theorem d3_205 : decode prog_78_method_3_code 205 = .ok (.ifCond .ne 16, 3) := by decide +kernel
theorem d3_221 : decode prog_78_method_3_code 221 = .ok (.aload_n 0, 1) := by decide +kernel
theorem d3_222 : decode prog_78_method_3_code 222 = .ok (.aload_n 0, 1) := by decide +kernel
theorem d3_223 : decode prog_78_method_3_code 223 = .ok (.getfield 16, 3) := by decide +kernel
theorem d3_226 : decode prog_78_method_3_code 226 = .ok (.iconst 2, 1) := by decide +kernel
theorem d3_227 : decode prog_78_method_3_code 227 = .ok (.isub, 1) := by decide +kernel
theorem d3_228 : decode prog_78_method_3_code 228 = .ok (.invokevirtual 37, 3) := by decide +kernel
theorem d3_231 : decode prog_78_method_3_code 231 = .ok (.ifCond .eq 7, 3) := by decide +kernel
theorem d3_234 : decode prog_78_method_3_code 234 = .ok (.aload_n 0, 1) := by decide +kernel
theorem d3_235 : decode prog_78_method_3_code 235 = .ok (.invokevirtual 23, 3) := by decide +kernel
theorem d3_238 : decode prog_78_method_3_code 238 = .ok (.aload_n 0, 1) := by decide +kernel
theorem d3_239 : decode prog_78_method_3_code 239 = .ok (.getfield 16, 3) := by decide +kernel
theorem d3_242 : decode prog_78_method_3_code 242 = .ok (.ifCond .le 18, 3) := by decide +kernel
theorem d3_245 : decode prog_78_method_3_code 245 = .ok (.aload_n 0, 1) := by decide +kernel
theorem d3_246 : decode prog_78_method_3_code 246 = .ok (.getfield 13, 3) := by decide +kernel
theorem d3_249 : decode prog_78_method_3_code 249 = .ok (.iconst 0, 1) := by decide +kernel
theorem d3_250 : decode prog_78_method_3_code 250 = .ok (.laload, 1) := by decide +kernel
theorem d3_251 : decode prog_78_method_3_code 251 = .ok (.lconst 0, 1) := by decide +kernel
theorem d3_252 : decode prog_78_method_3_code 252 = .ok (.lcmp, 1) := by decide +kernel
theorem d3_253 : decode prog_78_method_3_code 253 = .ok (.ifCond .ne 7, 3) := by decide +kernel
theorem d3_256 : decode prog_78_method_3_code 256 = .ok (.aload_n 0, 1) := by decide +kernel
theorem d3_257 : decode prog_78_method_3_code 257 = .ok (.invokevirtual 23, 3) := by decide +kernel
theorem d3_260 : decode prog_78_method_3_code 260 = .ok (.return_, 1) := by decide +kernel
theorem blR3 {p : Program} {l : Launch} {e : Env} {s : State} {m : MethodId} {args : Array Value} {below : List Frame} {meth : Method} {c : Code} {s₁ : State} {lc : List Loc} (Z : State) (a0 : Array Value) (hw : ∀ d ∈ tables_1, d.before a0 Z = true) (r : Addr) (kr : ClassId) (zc : Int32) (pw : Int32) (tl : List Value) (y0 : Int64) (y1 : Int64) (y2 : Int64) (h00 : Heap) (Ls : Array Slot) (h0 : Heap) (n0 : Nat) (Z0 : n0 ≤ h0.size) (O0 : own_O Z h0 a r kr zc (3 : Int32) pw ((.long y0) :: (.long y1) :: (.long y2) :: tl)) (g_a : n0 ≤ a) (g_r : n0 ≤ r) (hc : own_cap zc tl) (hsz : h00.size ≤ h0.size) (htop : y2 = own_sg y1)
    (X0 : Stand p l e ({ frames := 5, cells := 2, slots := 8, locals := 150 } : Room) s m args below meth c s₁ lc 1 4) (hx : p.tables.exec = Jvm.exec) (hZ : Z.Warmed39 s.vm) (hby : c.code = prog_78_method_3_code) (hml : c.maxLocals = 20) (hown : s.vm.findClass "com/example/eventweir/eventweir/ExactSum" = some m.cls) (hlk : meth.locks = false) (hret : meth.sig.returnType = none) (e0 : s₁.heap = h0) (N0 : Fr n0 lc) (hL0 : Ls[0]? = some (oA a)) (hLs : Ls.size = 20) :
    own_G (tb := p.tables) (e := e) (below := below) (s := s) (P := own_Q_add Z a y0 y1 pw h00 n0) (k := 2) (n := 8) (s₁.setTop (mkF m 195 Ls [])) := by
  obtain ⟨E_a, Fw, Fl, Fp, V⟩ := O0
  have ne_ar : a ≠ r := E_a.neArv V (hw _ (own_m 3 rfl))
  by_cases hA : y1 = own_sg y0
  · show own_G (s₁.setTop (mkF m 195 Ls []))
    by_cases hB : y0 = (0 : Int64)
    · show own_G (s₁.setTop (mkF m 195 Ls []))
      refine up ?_ fun t k => XS.aloadN X0.here hx rfl (hb hby d3_195) hL0 rfl (XS.aloadN X0.here hx rfl (hb hby d3_196) hL0 rfl k)
      show own_G (s₁.setTop (mkF m 197 Ls [(.ref a), (.ref a)]))
      obtain ⟨T677, X677, e677, st677⟩ := getF X0 hx hZ hown (host := "") (Or.inl (hw _ (own_m 20 rfl))) Via.refl e0 Fl (g := (mkF m 197 Ls [(.ref a), (.ref a)])) rfl rfl (hb hby d3_197)
      refine up ?_ st677
      show own_G (T677.setTop (mkF m 200 Ls [(.int (3 : Int32)), (.ref a)]))
      refine up ?_ fun t k => XS.iconst X677.here hx rfl (hb hby d3_200) (XS.isub X677.here hx rfl (hb hby d3_201) rfl k)
      show own_G (T677.setTop (mkF m 202 Ls [(.int (2 : Int32)), (.ref a)]))
      obtain ⟨cq678, q678, q678'⟩ := E_a.cell
      obtain ⟨_, _, ⟨T678, L678, k678, n678⟩, -, X678, ⟨Lc678, hQ678, l678, y678, z678⟩, st678⟩ := X677.privateBack hx (y := (⟨"com/example/eventweir/eventweir/ExactSum", "repeatsSign", "(I)Z"⟩ : MethodName)) hown (mvT hZ (hw _ (own_m 49 rfl))) (mvT hZ (hw _ (own_m 50 rfl))) (own_sel (by decide) (mvT hZ (hw _ (own_m 50 rfl))) (mvP hZ (hw _ (own_m 51 rfl))) (mvT hZ (hw _ (own_m 3 rfl)))) (Cond.privateMethod_at (mvP hZ (hw _ (own_m 51 rfl)) (args := #[]))) (mvT hZ (hw _ (own_m 52 rfl))) (by decide) (backOf (W := 0) (rmrs2 l Z a0 hw [] a r kr zc pw tl y0 y1 y2 (3 : Int32) h0 n0 Z0 ⟨E_a, Fw, Fl, Fp, V⟩ g_a g_r hc ) hZ (hw _ (own_m 52 rfl)) (hw _ (own_m 4 rfl)) (by decide) (by decide)) (g := (mkF m 202 Ls [(.int (2 : Int32)), (.ref a)])) rfl (by rw [hml]; exact hLs) (Steps.refl _) (a := a) (by rw [e677]; exact q678) q678' (argsL := [(.int (2 : Int32))]) (rest := []) (lenOf own_pd5 rfl) rfl (by show 2 * 0 + _ ≤ _; exact Nat.le_of_eq rfl) (hb hby d3_202) (fun _ _ => ⟨rfl, e677, (by decide : 1 + 0 ≤ _), (by decide : 4 + 0 ≤ _)⟩)
      dsimp only [Pt.U, Pt.locs, Pt.cells, Pt.slots] at X678 l678 y678 z678 st678 hQ678
      subst l678 y678 z678
      obtain ⟨rfl, Nq678, e678⟩ := hQ678
      have N678 := Fr.app N0 Nq678
      refine up ?_ (fun t k => st678.trans k)
      show own_G (T678.setTop (mkF m 205 Ls [(.int (if y2 = own_sg y1 then (1 : Int32) else (0 : Int32)))]))
      refine up ?_ fun t k => XS.ifYes X678.here hx rfl (pc0 := 205) (pc' := 221) rfl (hb hby d3_205) rfl ((if0 _ _).trans (feq ((by rw [if_pos htop]; decide) : ¬ ((if y2 = own_sg y1 then (1 : Int32) else (0 : Int32)) = (0 : Int32)))).2) (by decide) (by decide) (XS.aloadN X678.here hx rfl (hb hby d3_221) hL0 rfl (XS.aloadN X678.here hx rfl (hb hby d3_222) hL0 rfl k))
      show own_G (T678.setTop (mkF m 223 Ls [(.ref a), (.ref a)]))
      obtain ⟨T679, X679, e679, st679⟩ := getF X678 hx hZ hown (host := "") (Or.inl (hw _ (own_m 20 rfl))) Via.refl e678 Fl (g := (mkF m 223 Ls [(.ref a), (.ref a)])) rfl rfl (hb hby d3_223)
      refine up ?_ st679
      show own_G (T679.setTop (mkF m 226 Ls [(.int (3 : Int32)), (.ref a)]))
      refine up ?_ fun t k => XS.iconst X679.here hx rfl (hb hby d3_226) (XS.isub X679.here hx rfl (hb hby d3_227) rfl k)
      show own_G (T679.setTop (mkF m 228 Ls [(.int (1 : Int32)), (.ref a)]))
      obtain ⟨cq680, q680, q680'⟩ := E_a.cell
      obtain ⟨_, _, ⟨T680, L680, k680, n680⟩, -, X680, ⟨Lc680, hQ680, l680, y680, z680⟩, st680⟩ := X679.privateBack hx (y := (⟨"com/example/eventweir/eventweir/ExactSum", "repeatsSign", "(I)Z"⟩ : MethodName)) hown (mvT hZ (hw _ (own_m 49 rfl))) (mvT hZ (hw _ (own_m 50 rfl))) (own_sel (by decide) (mvT hZ (hw _ (own_m 50 rfl))) (mvP hZ (hw _ (own_m 51 rfl))) (mvT hZ (hw _ (own_m 3 rfl)))) (Cond.privateMethod_at (mvP hZ (hw _ (own_m 51 rfl)) (args := #[]))) (mvT hZ (hw _ (own_m 52 rfl))) (by decide) (backOf (W := 0) (rmrs1 l Z a0 hw [] a r kr zc pw tl y0 y1 y2 (3 : Int32) h0 n0 Z0 ⟨E_a, Fw, Fl, Fp, V⟩ g_a g_r hc ) hZ (hw _ (own_m 52 rfl)) (hw _ (own_m 4 rfl)) (by decide) (by decide)) (g := (mkF m 228 Ls [(.int (1 : Int32)), (.ref a)])) rfl (by rw [hml]; exact hLs) (Steps.refl _) (a := a) (by rw [e679]; exact q680) q680' (argsL := [(.int (1 : Int32))]) (rest := []) (lenOf own_pd5 rfl) rfl (by show 2 * 0 + _ ≤ _; exact Nat.le_of_eq rfl) (hb hby d3_228) (fun _ _ => ⟨rfl, e679, (by decide : 1 + 0 ≤ _), (by decide : 4 + 0 ≤ _)⟩)
      dsimp only [Pt.U, Pt.locs, Pt.cells, Pt.slots] at X680 l680 y680 z680 st680 hQ680
      subst l680 y680 z680
      obtain ⟨rfl, Nq680, e680⟩ := hQ680
      have N680 := Fr.app N678 Nq680
      refine up ?_ (fun t k => st680.trans k)
      show own_G (T680.setTop (mkF m 231 Ls [(.int (if y1 = own_sg y0 then (1 : Int32) else (0 : Int32)))]))
      refine up ?_ fun t k => XS.ifNo X680.here hx rfl (hb hby d3_231) rfl ((if0 _ _).trans (feq ((by rw [if_pos hA]; decide) : ¬ ((if y1 = own_sg y0 then (1 : Int32) else (0 : Int32)) = (0 : Int32)))).1) (XS.aloadN X680.here hx rfl (hb hby d3_234) hL0 rfl k)
      show own_G (T680.setTop (mkF m 235 Ls [(.ref a)]))
      obtain ⟨cq681, q681, q681'⟩ := E_a.cell
      obtain ⟨_, _, ⟨T681, L681, k681, n681⟩, -, X681, ⟨Lc681, hQ681, l681, y681, z681⟩, st681⟩ := X680.privateBack hx (y := (⟨"com/example/eventweir/eventweir/ExactSum", "normalize", "()V"⟩ : MethodName)) hown (mvT hZ (hw _ (own_m 69 rfl))) (mvT hZ (hw _ (own_m 70 rfl))) (own_sel (by decide) (mvT hZ (hw _ (own_m 70 rfl))) (mvP hZ (hw _ (own_m 71 rfl))) (mvT hZ (hw _ (own_m 3 rfl)))) (Cond.privateMethod_at (mvP hZ (hw _ (own_m 71 rfl)) (args := #[]))) (mvT hZ (hw _ (own_m 72 rfl))) (by decide) (backOf (W := 0) (rmn3z l Z a0 hw [] a r kr zc pw tl y0 y1 y2 h0 n0 Z0 ⟨E_a, Fw, Fl, Fp, V⟩ g_a g_r hc htop hA hB) hZ (hw _ (own_m 72 rfl)) (hw _ (own_m 4 rfl)) (by decide) (by decide)) (g := (mkF m 235 Ls [(.ref a)])) rfl (by rw [hml]; exact hLs) (Steps.refl _) (a := a) (by rw [e680]; exact q681) q681' (argsL := []) (rest := []) (lenOf own_pd7 rfl) rfl (by show 2 * 0 + _ ≤ _; exact Nat.le_of_eq rfl) (hb hby d3_235) (fun _ _ => ⟨rfl, e680, (by decide : 1 + 0 ≤ _), (by decide : 4 + 0 ≤ _)⟩)
      dsimp only [Pt.U, Pt.locs, Pt.cells, Pt.slots] at X681 l681 y681 z681 st681 hQ681
      subst l681 y681 z681
      obtain ⟨rfl, Nq681, hsq681, Eq681, Fwq681, Flq681, Fpq681, Vq681⟩ := hQ681
      have N681 := Fr.app N680 Nq681
      have kq682 := Nat.le_trans hsz hsq681
      have Zs683 : n0 ≤ T681.heap.size := Nat.le_trans Z0 hsq681
      refine up ?_ (fun t k => st681.trans k)
      show own_G (T681.setTop (mkF m 238 Ls []))
      refine up ?_ fun t k => XS.aloadN X681.here hx rfl (hb hby d3_238) hL0 rfl k
      show own_G (T681.setTop (mkF m 239 Ls [(.ref a)]))
      obtain ⟨T684, X684, e684, st684⟩ := getF X681 hx hZ hown (host := "") (Or.inl (hw _ (own_m 20 rfl))) Via.refl rfl Flq681 (g := (mkF m 239 Ls [(.ref a)])) rfl rfl (hb hby d3_239)
      refine up ?_ st684
      show own_G (T684.setTop (mkF m 242 Ls [(.int (0 : Int32))]))
      refine up ?_ fun t k => XS.ifYes X684.here hx rfl (pc0 := 242) (pc' := 260) rfl (hb hby d3_242) rfl ((if0 _ _).trans (flt (by decide : ¬ ((0 : Int32) < (0 : Int32)))).2.2.2) (by decide) (by decide) k
      show own_G (T684.setTop (mkF m 260 Ls []))
      exact own_retV X684 hx hlk hret (hb hby d3_260) (by rw [e684]; exact ⟨rfl, N681, kq682, (own_StZ ⟨Eq681, Fwq681, Flq681, Fpq681, Vq681⟩ g_r hc hB hA)⟩) (by decide) (by decide)
    · show own_G (s₁.setTop (mkF m 195 Ls []))
      refine up ?_ fun t k => XS.aloadN X0.here hx rfl (hb hby d3_195) hL0 rfl (XS.aloadN X0.here hx rfl (hb hby d3_196) hL0 rfl k)
      show own_G (s₁.setTop (mkF m 197 Ls [(.ref a), (.ref a)]))
      obtain ⟨T685, X685, e685, st685⟩ := getF X0 hx hZ hown (host := "") (Or.inl (hw _ (own_m 20 rfl))) Via.refl e0 Fl (g := (mkF m 197 Ls [(.ref a), (.ref a)])) rfl rfl (hb hby d3_197)
      refine up ?_ st685
      show own_G (T685.setTop (mkF m 200 Ls [(.int (3 : Int32)), (.ref a)]))
      refine up ?_ fun t k => XS.iconst X685.here hx rfl (hb hby d3_200) (XS.isub X685.here hx rfl (hb hby d3_201) rfl k)
      show own_G (T685.setTop (mkF m 202 Ls [(.int (2 : Int32)), (.ref a)]))
      obtain ⟨cq686, q686, q686'⟩ := E_a.cell
      obtain ⟨_, _, ⟨T686, L686, k686, n686⟩, -, X686, ⟨Lc686, hQ686, l686, y686, z686⟩, st686⟩ := X685.privateBack hx (y := (⟨"com/example/eventweir/eventweir/ExactSum", "repeatsSign", "(I)Z"⟩ : MethodName)) hown (mvT hZ (hw _ (own_m 49 rfl))) (mvT hZ (hw _ (own_m 50 rfl))) (own_sel (by decide) (mvT hZ (hw _ (own_m 50 rfl))) (mvP hZ (hw _ (own_m 51 rfl))) (mvT hZ (hw _ (own_m 3 rfl)))) (Cond.privateMethod_at (mvP hZ (hw _ (own_m 51 rfl)) (args := #[]))) (mvT hZ (hw _ (own_m 52 rfl))) (by decide) (backOf (W := 0) (rmrs2 l Z a0 hw [] a r kr zc pw tl y0 y1 y2 (3 : Int32) h0 n0 Z0 ⟨E_a, Fw, Fl, Fp, V⟩ g_a g_r hc ) hZ (hw _ (own_m 52 rfl)) (hw _ (own_m 4 rfl)) (by decide) (by decide)) (g := (mkF m 202 Ls [(.int (2 : Int32)), (.ref a)])) rfl (by rw [hml]; exact hLs) (Steps.refl _) (a := a) (by rw [e685]; exact q686) q686' (argsL := [(.int (2 : Int32))]) (rest := []) (lenOf own_pd5 rfl) rfl (by show 2 * 0 + _ ≤ _; exact Nat.le_of_eq rfl) (hb hby d3_202) (fun _ _ => ⟨rfl, e685, (by decide : 1 + 0 ≤ _), (by decide : 4 + 0 ≤ _)⟩)
      dsimp only [Pt.U, Pt.locs, Pt.cells, Pt.slots] at X686 l686 y686 z686 st686 hQ686
      subst l686 y686 z686
      obtain ⟨rfl, Nq686, e686⟩ := hQ686
      have N686 := Fr.app N0 Nq686
      refine up ?_ (fun t k => st686.trans k)
      show own_G (T686.setTop (mkF m 205 Ls [(.int (if y2 = own_sg y1 then (1 : Int32) else (0 : Int32)))]))
      refine up ?_ fun t k => XS.ifYes X686.here hx rfl (pc0 := 205) (pc' := 221) rfl (hb hby d3_205) rfl ((if0 _ _).trans (feq ((by rw [if_pos htop]; decide) : ¬ ((if y2 = own_sg y1 then (1 : Int32) else (0 : Int32)) = (0 : Int32)))).2) (by decide) (by decide) (XS.aloadN X686.here hx rfl (hb hby d3_221) hL0 rfl (XS.aloadN X686.here hx rfl (hb hby d3_222) hL0 rfl k))
      show own_G (T686.setTop (mkF m 223 Ls [(.ref a), (.ref a)]))
      obtain ⟨T687, X687, e687, st687⟩ := getF X686 hx hZ hown (host := "") (Or.inl (hw _ (own_m 20 rfl))) Via.refl e686 Fl (g := (mkF m 223 Ls [(.ref a), (.ref a)])) rfl rfl (hb hby d3_223)
      refine up ?_ st687
      show own_G (T687.setTop (mkF m 226 Ls [(.int (3 : Int32)), (.ref a)]))
      refine up ?_ fun t k => XS.iconst X687.here hx rfl (hb hby d3_226) (XS.isub X687.here hx rfl (hb hby d3_227) rfl k)
      show own_G (T687.setTop (mkF m 228 Ls [(.int (1 : Int32)), (.ref a)]))
      obtain ⟨cq688, q688, q688'⟩ := E_a.cell
      obtain ⟨_, _, ⟨T688, L688, k688, n688⟩, -, X688, ⟨Lc688, hQ688, l688, y688, z688⟩, st688⟩ := X687.privateBack hx (y := (⟨"com/example/eventweir/eventweir/ExactSum", "repeatsSign", "(I)Z"⟩ : MethodName)) hown (mvT hZ (hw _ (own_m 49 rfl))) (mvT hZ (hw _ (own_m 50 rfl))) (own_sel (by decide) (mvT hZ (hw _ (own_m 50 rfl))) (mvP hZ (hw _ (own_m 51 rfl))) (mvT hZ (hw _ (own_m 3 rfl)))) (Cond.privateMethod_at (mvP hZ (hw _ (own_m 51 rfl)) (args := #[]))) (mvT hZ (hw _ (own_m 52 rfl))) (by decide) (backOf (W := 0) (rmrs1 l Z a0 hw [] a r kr zc pw tl y0 y1 y2 (3 : Int32) h0 n0 Z0 ⟨E_a, Fw, Fl, Fp, V⟩ g_a g_r hc ) hZ (hw _ (own_m 52 rfl)) (hw _ (own_m 4 rfl)) (by decide) (by decide)) (g := (mkF m 228 Ls [(.int (1 : Int32)), (.ref a)])) rfl (by rw [hml]; exact hLs) (Steps.refl _) (a := a) (by rw [e687]; exact q688) q688' (argsL := [(.int (1 : Int32))]) (rest := []) (lenOf own_pd5 rfl) rfl (by show 2 * 0 + _ ≤ _; exact Nat.le_of_eq rfl) (hb hby d3_228) (fun _ _ => ⟨rfl, e687, (by decide : 1 + 0 ≤ _), (by decide : 4 + 0 ≤ _)⟩)
      dsimp only [Pt.U, Pt.locs, Pt.cells, Pt.slots] at X688 l688 y688 z688 st688 hQ688
      subst l688 y688 z688
      obtain ⟨rfl, Nq688, e688⟩ := hQ688
      have N688 := Fr.app N686 Nq688
      refine up ?_ (fun t k => st688.trans k)
      show own_G (T688.setTop (mkF m 231 Ls [(.int (if y1 = own_sg y0 then (1 : Int32) else (0 : Int32)))]))
      refine up ?_ fun t k => XS.ifNo X688.here hx rfl (hb hby d3_231) rfl ((if0 _ _).trans (feq ((by rw [if_pos hA]; decide) : ¬ ((if y1 = own_sg y0 then (1 : Int32) else (0 : Int32)) = (0 : Int32)))).1) (XS.aloadN X688.here hx rfl (hb hby d3_234) hL0 rfl k)
      show own_G (T688.setTop (mkF m 235 Ls [(.ref a)]))
      obtain ⟨cq689, q689, q689'⟩ := E_a.cell
      obtain ⟨_, _, ⟨T689, L689, k689, n689⟩, -, X689, ⟨Lc689, hQ689, l689, y689, z689⟩, st689⟩ := X688.privateBack hx (y := (⟨"com/example/eventweir/eventweir/ExactSum", "normalize", "()V"⟩ : MethodName)) hown (mvT hZ (hw _ (own_m 69 rfl))) (mvT hZ (hw _ (own_m 70 rfl))) (own_sel (by decide) (mvT hZ (hw _ (own_m 70 rfl))) (mvP hZ (hw _ (own_m 71 rfl))) (mvT hZ (hw _ (own_m 3 rfl)))) (Cond.privateMethod_at (mvP hZ (hw _ (own_m 71 rfl)) (args := #[]))) (mvT hZ (hw _ (own_m 72 rfl))) (by decide) (backOf (W := 0) (rmn3a l Z a0 hw [] a r kr zc pw tl y0 y1 y2 h0 n0 Z0 ⟨E_a, Fw, Fl, Fp, V⟩ g_a g_r hc htop hA hB) hZ (hw _ (own_m 72 rfl)) (hw _ (own_m 4 rfl)) (by decide) (by decide)) (g := (mkF m 235 Ls [(.ref a)])) rfl (by rw [hml]; exact hLs) (Steps.refl _) (a := a) (by rw [e688]; exact q689) q689' (argsL := []) (rest := []) (lenOf own_pd7 rfl) rfl (by show 2 * 0 + _ ≤ _; exact Nat.le_of_eq rfl) (hb hby d3_235) (fun _ _ => ⟨rfl, e688, (by decide : 1 + 0 ≤ _), (by decide : 4 + 0 ≤ _)⟩)
      dsimp only [Pt.U, Pt.locs, Pt.cells, Pt.slots] at X689 l689 y689 z689 st689 hQ689
      subst l689 y689 z689
      obtain ⟨rfl, Nq689, hsq689, Eq689, Fwq689, Flq689, Fpq689, Vq689⟩ := hQ689
      have N689 := Fr.app N688 Nq689
      have kq690 := Nat.le_trans hsz hsq689
      have Zs691 : n0 ≤ T689.heap.size := Nat.le_trans Z0 hsq689
      refine up ?_ (fun t k => st689.trans k)
      show own_G (T689.setTop (mkF m 238 Ls []))
      refine up ?_ fun t k => XS.aloadN X689.here hx rfl (hb hby d3_238) hL0 rfl k
      show own_G (T689.setTop (mkF m 239 Ls [(.ref a)]))
      obtain ⟨T692, X692, e692, st692⟩ := getF X689 hx hZ hown (host := "") (Or.inl (hw _ (own_m 20 rfl))) Via.refl rfl Flq689 (g := (mkF m 239 Ls [(.ref a)])) rfl rfl (hb hby d3_239)
      refine up ?_ st692
      show own_G (T692.setTop (mkF m 242 Ls [(.int (2 : Int32))]))
      refine up ?_ fun t k => XS.ifNo X692.here hx rfl (hb hby d3_242) rfl ((if0 _ _).trans (tlt (by decide : ((0 : Int32) < (2 : Int32)))).2.2.2) (XS.aloadN X692.here hx rfl (hb hby d3_245) hL0 rfl k)
      show own_G (T692.setTop (mkF m 246 Ls [(.ref a)]))
      obtain ⟨T693, X693, e693, st693⟩ := getF X692 hx hZ hown (host := "") (Or.inl (hw _ (own_m 13 rfl))) Via.refl e692 Fwq689 (g := (mkF m 246 Ls [(.ref a)])) rfl rfl (hb hby d3_246)
      refine up ?_ st693
      show own_G (T693.setTop (mkF m 249 Ls [(.ref r)]))
      refine up ?_ fun t k => XS.iconst X693.here hx rfl (hb hby d3_249) k
      show own_G (T693.setTop (mkF m 250 Ls [(.int (0 : Int32)), (.ref r)]))
      obtain ⟨cl694, Ar694, qa694, Sa694, Na694, Ha694, Ga694⟩ := id Vq689
      have hin694 : ¬ ((0 : Int32) < 0 ∨ cl694.slots.size ≤ ((0 : Int32)).toNatClampNeg) := inb_of Sa694 ⟨by decide, own_i0 hc⟩
      refine up ?_ fun t k => X693.laload hx (j := (0 : Int32)) (v := (.long y0)) (by rw [e693]; exact Ar694.1) (State.isArrayOf_alike hZ.alike Ar694.2.1) Ar694.2.2 hin694 (Ha694.at hin694 rfl) (g := (mkF m 250 Ls [(.int (0 : Int32)), (.ref r)])) rfl rfl (hb hby d3_250) _ (XS.lconst X693.here hx rfl (hb hby d3_251) (XS.lcmp X693.here hx rfl (hb hby d3_252) rfl k))
      show own_G (T693.setTop (mkF m 253 Ls [(.int (lcmpW y0 (0 : Int64)))]))
      refine up ?_ fun t k => XS.ifYes X693.here hx rfl (pc0 := 253) (pc' := 260) rfl (hb hby d3_253) rfl ((if0 _ _).trans (feq (fun q => (hB : ¬ (y0 = (0 : Int64))) ((lw_eq _ _).mp q))).2) (by decide) (by decide) k
      show own_G (T693.setTop (mkF m 260 Ls []))
      exact own_retV X693 hx hlk hret (hb hby d3_260) (by rw [e693]; exact ⟨rfl, N689, kq690, (own_StA ⟨Eq689, Fwq689, Flq689, Fpq689, Vq689⟩ g_r hc hB hA)⟩) (by decide) (by decide)
  · show own_G (s₁.setTop (mkF m 195 Ls []))
    by_cases hB : y0 = (0 : Int64)
    · show own_G (s₁.setTop (mkF m 195 Ls []))
      refine up ?_ fun t k => XS.aloadN X0.here hx rfl (hb hby d3_195) hL0 rfl (XS.aloadN X0.here hx rfl (hb hby d3_196) hL0 rfl k)
      show own_G (s₁.setTop (mkF m 197 Ls [(.ref a), (.ref a)]))
      obtain ⟨T695, X695, e695, st695⟩ := getF X0 hx hZ hown (host := "") (Or.inl (hw _ (own_m 20 rfl))) Via.refl e0 Fl (g := (mkF m 197 Ls [(.ref a), (.ref a)])) rfl rfl (hb hby d3_197)
      refine up ?_ st695
      show own_G (T695.setTop (mkF m 200 Ls [(.int (3 : Int32)), (.ref a)]))
      refine up ?_ fun t k => XS.iconst X695.here hx rfl (hb hby d3_200) (XS.isub X695.here hx rfl (hb hby d3_201) rfl k)
      show own_G (T695.setTop (mkF m 202 Ls [(.int (2 : Int32)), (.ref a)]))
      obtain ⟨cq696, q696, q696'⟩ := E_a.cell
      obtain ⟨_, _, ⟨T696, L696, k696, n696⟩, -, X696, ⟨Lc696, hQ696, l696, y696, z696⟩, st696⟩ := X695.privateBack hx (y := (⟨"com/example/eventweir/eventweir/ExactSum", "repeatsSign", "(I)Z"⟩ : MethodName)) hown (mvT hZ (hw _ (own_m 49 rfl))) (mvT hZ (hw _ (own_m 50 rfl))) (own_sel (by decide) (mvT hZ (hw _ (own_m 50 rfl))) (mvP hZ (hw _ (own_m 51 rfl))) (mvT hZ (hw _ (own_m 3 rfl)))) (Cond.privateMethod_at (mvP hZ (hw _ (own_m 51 rfl)) (args := #[]))) (mvT hZ (hw _ (own_m 52 rfl))) (by decide) (backOf (W := 0) (rmrs2 l Z a0 hw [] a r kr zc pw tl y0 y1 y2 (3 : Int32) h0 n0 Z0 ⟨E_a, Fw, Fl, Fp, V⟩ g_a g_r hc ) hZ (hw _ (own_m 52 rfl)) (hw _ (own_m 4 rfl)) (by decide) (by decide)) (g := (mkF m 202 Ls [(.int (2 : Int32)), (.ref a)])) rfl (by rw [hml]; exact hLs) (Steps.refl _) (a := a) (by rw [e695]; exact q696) q696' (argsL := [(.int (2 : Int32))]) (rest := []) (lenOf own_pd5 rfl) rfl (by show 2 * 0 + _ ≤ _; exact Nat.le_of_eq rfl) (hb hby d3_202) (fun _ _ => ⟨rfl, e695, (by decide : 1 + 0 ≤ _), (by decide : 4 + 0 ≤ _)⟩)
      dsimp only [Pt.U, Pt.locs, Pt.cells, Pt.slots] at X696 l696 y696 z696 st696 hQ696
      subst l696 y696 z696
      obtain ⟨rfl, Nq696, e696⟩ := hQ696
      have N696 := Fr.app N0 Nq696
      refine up ?_ (fun t k => st696.trans k)
      show own_G (T696.setTop (mkF m 205 Ls [(.int (if y2 = own_sg y1 then (1 : Int32) else (0 : Int32)))]))
      refine up ?_ fun t k => XS.ifYes X696.here hx rfl (pc0 := 205) (pc' := 221) rfl (hb hby d3_205) rfl ((if0 _ _).trans (feq ((by rw [if_pos htop]; decide) : ¬ ((if y2 = own_sg y1 then (1 : Int32) else (0 : Int32)) = (0 : Int32)))).2) (by decide) (by decide) (XS.aloadN X696.here hx rfl (hb hby d3_221) hL0 rfl (XS.aloadN X696.here hx rfl (hb hby d3_222) hL0 rfl k))
      show own_G (T696.setTop (mkF m 223 Ls [(.ref a), (.ref a)]))
      obtain ⟨T697, X697, e697, st697⟩ := getF X696 hx hZ hown (host := "") (Or.inl (hw _ (own_m 20 rfl))) Via.refl e696 Fl (g := (mkF m 223 Ls [(.ref a), (.ref a)])) rfl rfl (hb hby d3_223)
      refine up ?_ st697
      show own_G (T697.setTop (mkF m 226 Ls [(.int (3 : Int32)), (.ref a)]))
      refine up ?_ fun t k => XS.iconst X697.here hx rfl (hb hby d3_226) (XS.isub X697.here hx rfl (hb hby d3_227) rfl k)
      show own_G (T697.setTop (mkF m 228 Ls [(.int (1 : Int32)), (.ref a)]))
      obtain ⟨cq698, q698, q698'⟩ := E_a.cell
      obtain ⟨_, _, ⟨T698, L698, k698, n698⟩, -, X698, ⟨Lc698, hQ698, l698, y698, z698⟩, st698⟩ := X697.privateBack hx (y := (⟨"com/example/eventweir/eventweir/ExactSum", "repeatsSign", "(I)Z"⟩ : MethodName)) hown (mvT hZ (hw _ (own_m 49 rfl))) (mvT hZ (hw _ (own_m 50 rfl))) (own_sel (by decide) (mvT hZ (hw _ (own_m 50 rfl))) (mvP hZ (hw _ (own_m 51 rfl))) (mvT hZ (hw _ (own_m 3 rfl)))) (Cond.privateMethod_at (mvP hZ (hw _ (own_m 51 rfl)) (args := #[]))) (mvT hZ (hw _ (own_m 52 rfl))) (by decide) (backOf (W := 0) (rmrs1 l Z a0 hw [] a r kr zc pw tl y0 y1 y2 (3 : Int32) h0 n0 Z0 ⟨E_a, Fw, Fl, Fp, V⟩ g_a g_r hc ) hZ (hw _ (own_m 52 rfl)) (hw _ (own_m 4 rfl)) (by decide) (by decide)) (g := (mkF m 228 Ls [(.int (1 : Int32)), (.ref a)])) rfl (by rw [hml]; exact hLs) (Steps.refl _) (a := a) (by rw [e697]; exact q698) q698' (argsL := [(.int (1 : Int32))]) (rest := []) (lenOf own_pd5 rfl) rfl (by show 2 * 0 + _ ≤ _; exact Nat.le_of_eq rfl) (hb hby d3_228) (fun _ _ => ⟨rfl, e697, (by decide : 1 + 0 ≤ _), (by decide : 4 + 0 ≤ _)⟩)
      dsimp only [Pt.U, Pt.locs, Pt.cells, Pt.slots] at X698 l698 y698 z698 st698 hQ698
      subst l698 y698 z698
      obtain ⟨rfl, Nq698, e698⟩ := hQ698
      have N698 := Fr.app N696 Nq698
      refine up ?_ (fun t k => st698.trans k)
      show own_G (T698.setTop (mkF m 231 Ls [(.int (if y1 = own_sg y0 then (1 : Int32) else (0 : Int32)))]))
      refine up ?_ fun t k => XS.ifYes X698.here hx rfl (pc0 := 231) (pc' := 238) rfl (hb hby d3_231) rfl ((if0 _ _).trans (teq ((by rw [if_neg hA]) : ((if y1 = own_sg y0 then (1 : Int32) else (0 : Int32)) = (0 : Int32)))).1) (by decide) (by decide) (XS.aloadN X698.here hx rfl (hb hby d3_238) hL0 rfl k)
      show own_G (T698.setTop (mkF m 239 Ls [(.ref a)]))
      obtain ⟨T699, X699, e699, st699⟩ := getF X698 hx hZ hown (host := "") (Or.inl (hw _ (own_m 20 rfl))) Via.refl e698 Fl (g := (mkF m 239 Ls [(.ref a)])) rfl rfl (hb hby d3_239)
      refine up ?_ st699
      show own_G (T699.setTop (mkF m 242 Ls [(.int (3 : Int32))]))
      refine up ?_ fun t k => XS.ifNo X699.here hx rfl (hb hby d3_242) rfl ((if0 _ _).trans (tlt (by decide : ((0 : Int32) < (3 : Int32)))).2.2.2) (XS.aloadN X699.here hx rfl (hb hby d3_245) hL0 rfl k)
      show own_G (T699.setTop (mkF m 246 Ls [(.ref a)]))
      obtain ⟨T700, X700, e700, st700⟩ := getF X699 hx hZ hown (host := "") (Or.inl (hw _ (own_m 13 rfl))) Via.refl e699 Fw (g := (mkF m 246 Ls [(.ref a)])) rfl rfl (hb hby d3_246)
      refine up ?_ st700
      show own_G (T700.setTop (mkF m 249 Ls [(.ref r)]))
      refine up ?_ fun t k => XS.iconst X700.here hx rfl (hb hby d3_249) k
      show own_G (T700.setTop (mkF m 250 Ls [(.int (0 : Int32)), (.ref r)]))
      obtain ⟨cl701, Ar701, qa701, Sa701, Na701, Ha701, Ga701⟩ := id V
      have hin701 : ¬ ((0 : Int32) < 0 ∨ cl701.slots.size ≤ ((0 : Int32)).toNatClampNeg) := inb_of Sa701 ⟨by decide, own_i0 hc⟩
      refine up ?_ fun t k => X700.laload hx (j := (0 : Int32)) (v := (.long y0)) (by rw [e700]; exact Ar701.1) (State.isArrayOf_alike hZ.alike Ar701.2.1) Ar701.2.2 hin701 (Ha701.at hin701 rfl) (g := (mkF m 250 Ls [(.int (0 : Int32)), (.ref r)])) rfl rfl (hb hby d3_250) _ (XS.lconst X700.here hx rfl (hb hby d3_251) (XS.lcmp X700.here hx rfl (hb hby d3_252) rfl k))
      show own_G (T700.setTop (mkF m 253 Ls [(.int (lcmpW y0 (0 : Int64)))]))
      refine up ?_ fun t k => XS.ifNo X700.here hx rfl (hb hby d3_253) rfl ((if0 _ _).trans (teq ((lw_eq _ _).mpr (hB : (y0 = (0 : Int64))))).2) (XS.aloadN X700.here hx rfl (hb hby d3_256) hL0 rfl k)
      show own_G (T700.setTop (mkF m 257 Ls [(.ref a)]))
      obtain ⟨cq702, q702, q702'⟩ := E_a.cell
      obtain ⟨_, _, ⟨T702, L702, k702, n702⟩, -, X702, ⟨Lc702, hQ702, l702, y702, z702⟩, st702⟩ := X700.privateBack hx (y := (⟨"com/example/eventweir/eventweir/ExactSum", "normalize", "()V"⟩ : MethodName)) hown (mvT hZ (hw _ (own_m 69 rfl))) (mvT hZ (hw _ (own_m 70 rfl))) (own_sel (by decide) (mvT hZ (hw _ (own_m 70 rfl))) (mvP hZ (hw _ (own_m 71 rfl))) (mvT hZ (hw _ (own_m 3 rfl)))) (Cond.privateMethod_at (mvP hZ (hw _ (own_m 71 rfl)) (args := #[]))) (mvT hZ (hw _ (own_m 72 rfl))) (by decide) (backOf (W := 0) (rmn3b l Z a0 hw [] a r kr zc pw tl y0 y1 y2 h0 n0 Z0 ⟨E_a, Fw, Fl, Fp, V⟩ g_a g_r hc htop hA hB (own_nz1 hB hA)) hZ (hw _ (own_m 72 rfl)) (hw _ (own_m 4 rfl)) (by decide) (by decide)) (g := (mkF m 257 Ls [(.ref a)])) rfl (by rw [hml]; exact hLs) (Steps.refl _) (a := a) (by rw [e700]; exact q702) q702' (argsL := []) (rest := []) (lenOf own_pd7 rfl) rfl (by show 2 * 0 + _ ≤ _; exact Nat.le_of_eq rfl) (hb hby d3_257) (fun _ _ => ⟨rfl, e700, (by decide : 1 + 0 ≤ _), (by decide : 4 + 0 ≤ _)⟩)
      dsimp only [Pt.U, Pt.locs, Pt.cells, Pt.slots] at X702 l702 y702 z702 st702 hQ702
      subst l702 y702 z702
      obtain ⟨rfl, Nq702, hsq702, Eq702, Fwq702, Flq702, Fpq702, Vq702⟩ := hQ702
      have N702 := Fr.app N698 Nq702
      have kq703 := Nat.le_trans hsz hsq702
      have Zs704 : n0 ≤ T702.heap.size := Nat.le_trans Z0 hsq702
      refine up ?_ (fun t k => st702.trans k)
      show own_G (T702.setTop (mkF m 260 Ls []))
      exact own_retV X702 hx hlk hret (hb hby d3_260) ⟨rfl, N702, kq703, (own_StB ⟨Eq702, Fwq702, Flq702, Fpq702, Vq702⟩ g_r hc hB (own_nz1 hB hA))⟩ (by decide) (by decide)
    · show own_G (s₁.setTop (mkF m 195 Ls []))
      refine up ?_ fun t k => XS.aloadN X0.here hx rfl (hb hby d3_195) hL0 rfl (XS.aloadN X0.here hx rfl (hb hby d3_196) hL0 rfl k)
      show own_G (s₁.setTop (mkF m 197 Ls [(.ref a), (.ref a)]))
      obtain ⟨T705, X705, e705, st705⟩ := getF X0 hx hZ hown (host := "") (Or.inl (hw _ (own_m 20 rfl))) Via.refl e0 Fl (g := (mkF m 197 Ls [(.ref a), (.ref a)])) rfl rfl (hb hby d3_197)
      refine up ?_ st705
      show own_G (T705.setTop (mkF m 200 Ls [(.int (3 : Int32)), (.ref a)]))
      refine up ?_ fun t k => XS.iconst X705.here hx rfl (hb hby d3_200) (XS.isub X705.here hx rfl (hb hby d3_201) rfl k)
      show own_G (T705.setTop (mkF m 202 Ls [(.int (2 : Int32)), (.ref a)]))
      obtain ⟨cq706, q706, q706'⟩ := E_a.cell
      obtain ⟨_, _, ⟨T706, L706, k706, n706⟩, -, X706, ⟨Lc706, hQ706, l706, y706, z706⟩, st706⟩ := X705.privateBack hx (y := (⟨"com/example/eventweir/eventweir/ExactSum", "repeatsSign", "(I)Z"⟩ : MethodName)) hown (mvT hZ (hw _ (own_m 49 rfl))) (mvT hZ (hw _ (own_m 50 rfl))) (own_sel (by decide) (mvT hZ (hw _ (own_m 50 rfl))) (mvP hZ (hw _ (own_m 51 rfl))) (mvT hZ (hw _ (own_m 3 rfl)))) (Cond.privateMethod_at (mvP hZ (hw _ (own_m 51 rfl)) (args := #[]))) (mvT hZ (hw _ (own_m 52 rfl))) (by decide) (backOf (W := 0) (rmrs2 l Z a0 hw [] a r kr zc pw tl y0 y1 y2 (3 : Int32) h0 n0 Z0 ⟨E_a, Fw, Fl, Fp, V⟩ g_a g_r hc ) hZ (hw _ (own_m 52 rfl)) (hw _ (own_m 4 rfl)) (by decide) (by decide)) (g := (mkF m 202 Ls [(.int (2 : Int32)), (.ref a)])) rfl (by rw [hml]; exact hLs) (Steps.refl _) (a := a) (by rw [e705]; exact q706) q706' (argsL := [(.int (2 : Int32))]) (rest := []) (lenOf own_pd5 rfl) rfl (by show 2 * 0 + _ ≤ _; exact Nat.le_of_eq rfl) (hb hby d3_202) (fun _ _ => ⟨rfl, e705, (by decide : 1 + 0 ≤ _), (by decide : 4 + 0 ≤ _)⟩)
      dsimp only [Pt.U, Pt.locs, Pt.cells, Pt.slots] at X706 l706 y706 z706 st706 hQ706
      subst l706 y706 z706
      obtain ⟨rfl, Nq706, e706⟩ := hQ706
      have N706 := Fr.app N0 Nq706
      refine up ?_ (fun t k => st706.trans k)
      show own_G (T706.setTop (mkF m 205 Ls [(.int (if y2 = own_sg y1 then (1 : Int32) else (0 : Int32)))]))
      refine up ?_ fun t k => XS.ifYes X706.here hx rfl (pc0 := 205) (pc' := 221) rfl (hb hby d3_205) rfl ((if0 _ _).trans (feq ((by rw [if_pos htop]; decide) : ¬ ((if y2 = own_sg y1 then (1 : Int32) else (0 : Int32)) = (0 : Int32)))).2) (by decide) (by decide) (XS.aloadN X706.here hx rfl (hb hby d3_221) hL0 rfl (XS.aloadN X706.here hx rfl (hb hby d3_222) hL0 rfl k))
      show own_G (T706.setTop (mkF m 223 Ls [(.ref a), (.ref a)]))
      obtain ⟨T707, X707, e707, st707⟩ := getF X706 hx hZ hown (host := "") (Or.inl (hw _ (own_m 20 rfl))) Via.refl e706 Fl (g := (mkF m 223 Ls [(.ref a), (.ref a)])) rfl rfl (hb hby d3_223)
      refine up ?_ st707
      show own_G (T707.setTop (mkF m 226 Ls [(.int (3 : Int32)), (.ref a)]))
      refine up ?_ fun t k => XS.iconst X707.here hx rfl (hb hby d3_226) (XS.isub X707.here hx rfl (hb hby d3_227) rfl k)
      show own_G (T707.setTop (mkF m 228 Ls [(.int (1 : Int32)), (.ref a)]))
      obtain ⟨cq708, q708, q708'⟩ := E_a.cell
      obtain ⟨_, _, ⟨T708, L708, k708, n708⟩, -, X708, ⟨Lc708, hQ708, l708, y708, z708⟩, st708⟩ := X707.privateBack hx (y := (⟨"com/example/eventweir/eventweir/ExactSum", "repeatsSign", "(I)Z"⟩ : MethodName)) hown (mvT hZ (hw _ (own_m 49 rfl))) (mvT hZ (hw _ (own_m 50 rfl))) (own_sel (by decide) (mvT hZ (hw _ (own_m 50 rfl))) (mvP hZ (hw _ (own_m 51 rfl))) (mvT hZ (hw _ (own_m 3 rfl)))) (Cond.privateMethod_at (mvP hZ (hw _ (own_m 51 rfl)) (args := #[]))) (mvT hZ (hw _ (own_m 52 rfl))) (by decide) (backOf (W := 0) (rmrs1 l Z a0 hw [] a r kr zc pw tl y0 y1 y2 (3 : Int32) h0 n0 Z0 ⟨E_a, Fw, Fl, Fp, V⟩ g_a g_r hc ) hZ (hw _ (own_m 52 rfl)) (hw _ (own_m 4 rfl)) (by decide) (by decide)) (g := (mkF m 228 Ls [(.int (1 : Int32)), (.ref a)])) rfl (by rw [hml]; exact hLs) (Steps.refl _) (a := a) (by rw [e707]; exact q708) q708' (argsL := [(.int (1 : Int32))]) (rest := []) (lenOf own_pd5 rfl) rfl (by show 2 * 0 + _ ≤ _; exact Nat.le_of_eq rfl) (hb hby d3_228) (fun _ _ => ⟨rfl, e707, (by decide : 1 + 0 ≤ _), (by decide : 4 + 0 ≤ _)⟩)
      dsimp only [Pt.U, Pt.locs, Pt.cells, Pt.slots] at X708 l708 y708 z708 st708 hQ708
      subst l708 y708 z708
      obtain ⟨rfl, Nq708, e708⟩ := hQ708
      have N708 := Fr.app N706 Nq708
      refine up ?_ (fun t k => st708.trans k)
      show own_G (T708.setTop (mkF m 231 Ls [(.int (if y1 = own_sg y0 then (1 : Int32) else (0 : Int32)))]))
      refine up ?_ fun t k => XS.ifYes X708.here hx rfl (pc0 := 231) (pc' := 238) rfl (hb hby d3_231) rfl ((if0 _ _).trans (teq ((by rw [if_neg hA]) : ((if y1 = own_sg y0 then (1 : Int32) else (0 : Int32)) = (0 : Int32)))).1) (by decide) (by decide) (XS.aloadN X708.here hx rfl (hb hby d3_238) hL0 rfl k)
      show own_G (T708.setTop (mkF m 239 Ls [(.ref a)]))
      obtain ⟨T709, X709, e709, st709⟩ := getF X708 hx hZ hown (host := "") (Or.inl (hw _ (own_m 20 rfl))) Via.refl e708 Fl (g := (mkF m 239 Ls [(.ref a)])) rfl rfl (hb hby d3_239)
      refine up ?_ st709
      show own_G (T709.setTop (mkF m 242 Ls [(.int (3 : Int32))]))
      refine up ?_ fun t k => XS.ifNo X709.here hx rfl (hb hby d3_242) rfl ((if0 _ _).trans (tlt (by decide : ((0 : Int32) < (3 : Int32)))).2.2.2) (XS.aloadN X709.here hx rfl (hb hby d3_245) hL0 rfl k)
      show own_G (T709.setTop (mkF m 246 Ls [(.ref a)]))
      obtain ⟨T710, X710, e710, st710⟩ := getF X709 hx hZ hown (host := "") (Or.inl (hw _ (own_m 13 rfl))) Via.refl e709 Fw (g := (mkF m 246 Ls [(.ref a)])) rfl rfl (hb hby d3_246)
      refine up ?_ st710
      show own_G (T710.setTop (mkF m 249 Ls [(.ref r)]))
      refine up ?_ fun t k => XS.iconst X710.here hx rfl (hb hby d3_249) k
      show own_G (T710.setTop (mkF m 250 Ls [(.int (0 : Int32)), (.ref r)]))
      obtain ⟨cl711, Ar711, qa711, Sa711, Na711, Ha711, Ga711⟩ := id V
      have hin711 : ¬ ((0 : Int32) < 0 ∨ cl711.slots.size ≤ ((0 : Int32)).toNatClampNeg) := inb_of Sa711 ⟨by decide, own_i0 hc⟩
      refine up ?_ fun t k => X710.laload hx (j := (0 : Int32)) (v := (.long y0)) (by rw [e710]; exact Ar711.1) (State.isArrayOf_alike hZ.alike Ar711.2.1) Ar711.2.2 hin711 (Ha711.at hin711 rfl) (g := (mkF m 250 Ls [(.int (0 : Int32)), (.ref r)])) rfl rfl (hb hby d3_250) _ (XS.lconst X710.here hx rfl (hb hby d3_251) (XS.lcmp X710.here hx rfl (hb hby d3_252) rfl k))
      show own_G (T710.setTop (mkF m 253 Ls [(.int (lcmpW y0 (0 : Int64)))]))
      refine up ?_ fun t k => XS.ifYes X710.here hx rfl (pc0 := 253) (pc' := 260) rfl (hb hby d3_253) rfl ((if0 _ _).trans (feq (fun q => (hB : ¬ (y0 = (0 : Int64))) ((lw_eq _ _).mp q))).2) (by decide) (by decide) k
      show own_G (T710.setTop (mkF m 260 Ls []))
      exact own_retV X710 hx hlk hret (hb hby d3_260) (by rw [e710]; exact ⟨rfl, N708, hsz, (own_StC ⟨E_a, Fw, Fl, Fp, V⟩ g_r hc hB hA htop)⟩) (by decide) (by decide)
theorem blR4 {p : Program} {l : Launch} {e : Env} {s : State} {m : MethodId} {args : Array Value} {below : List Frame} {meth : Method} {c : Code} {s₁ : State} {lc : List Loc} (Z : State) (a0 : Array Value) (hw : ∀ d ∈ tables_1, d.before a0 Z = true) (r : Addr) (kr : ClassId) (pw : Int32) (y0 : Int64) (y1 : Int64) (y2 : Int64) (y3 : Int64) (h00 : Heap) (Ls : Array Slot) (h0 : Heap) (n0 : Nat) (Z0 : n0 ≤ h0.size) (O0 : own_O Z h0 a r kr (4 : Int32) (4 : Int32) pw [(.long y0), (.long y1), (.long y2), (.long y3)]) (g_a : n0 ≤ a) (g_r : n0 ≤ r) (hsz : h00.size ≤ h0.size) (htop : y2 = own_sg y1) (htop3 : y3 = own_sg y2)
    (X0 : Stand p l e ({ frames := 5, cells := 2, slots := 8, locals := 150 } : Room) s m args below meth c s₁ lc 1 4) (hx : p.tables.exec = Jvm.exec) (hZ : Z.Warmed39 s.vm) (hby : c.code = prog_78_method_3_code) (hml : c.maxLocals = 20) (hown : s.vm.findClass "com/example/eventweir/eventweir/ExactSum" = some m.cls) (hlk : meth.locks = false) (hret : meth.sig.returnType = none) (e0 : s₁.heap = h0) (N0 : Fr n0 lc) (hL0 : Ls[0]? = some (oA a)) (hLs : Ls.size = 20) :
    own_G (tb := p.tables) (e := e) (below := below) (s := s) (P := own_Q_add Z a y0 y1 pw h00 n0) (k := 2) (n := 8) (s₁.setTop (mkF m 195 Ls [])) := by
  obtain ⟨E_a, Fw, Fl, Fp, V⟩ := O0
  have ne_ar : a ≠ r := E_a.neArv V (hw _ (own_m 3 rfl))
  by_cases hA : y1 = own_sg y0
  · show own_G (s₁.setTop (mkF m 195 Ls []))
    by_cases hB : y0 = (0 : Int64)
    · show own_G (s₁.setTop (mkF m 195 Ls []))
      refine up ?_ fun t k => XS.aloadN X0.here hx rfl (hb hby d3_195) hL0 rfl (XS.aloadN X0.here hx rfl (hb hby d3_196) hL0 rfl k)
      show own_G (s₁.setTop (mkF m 197 Ls [(.ref a), (.ref a)]))
      obtain ⟨T712, X712, e712, st712⟩ := getF X0 hx hZ hown (host := "") (Or.inl (hw _ (own_m 20 rfl))) Via.refl e0 Fl (g := (mkF m 197 Ls [(.ref a), (.ref a)])) rfl rfl (hb hby d3_197)
      refine up ?_ st712
      show own_G (T712.setTop (mkF m 200 Ls [(.int (4 : Int32)), (.ref a)]))
      refine up ?_ fun t k => XS.iconst X712.here hx rfl (hb hby d3_200) (XS.isub X712.here hx rfl (hb hby d3_201) rfl k)
      show own_G (T712.setTop (mkF m 202 Ls [(.int (3 : Int32)), (.ref a)]))
      obtain ⟨cq713, q713, q713'⟩ := E_a.cell
      obtain ⟨_, _, ⟨T713, L713, k713, n713⟩, -, X713, ⟨Lc713, hQ713, l713, y713, z713⟩, st713⟩ := X712.privateBack hx (y := (⟨"com/example/eventweir/eventweir/ExactSum", "repeatsSign", "(I)Z"⟩ : MethodName)) hown (mvT hZ (hw _ (own_m 49 rfl))) (mvT hZ (hw _ (own_m 50 rfl))) (own_sel (by decide) (mvT hZ (hw _ (own_m 50 rfl))) (mvP hZ (hw _ (own_m 51 rfl))) (mvT hZ (hw _ (own_m 3 rfl)))) (Cond.privateMethod_at (mvP hZ (hw _ (own_m 51 rfl)) (args := #[]))) (mvT hZ (hw _ (own_m 52 rfl))) (by decide) (backOf (W := 0) (rmrs3 l Z a0 hw [] a r kr pw y0 y1 y2 y3 (4 : Int32) h0 n0 Z0 ⟨E_a, Fw, Fl, Fp, V⟩ g_a g_r ) hZ (hw _ (own_m 52 rfl)) (hw _ (own_m 4 rfl)) (by decide) (by decide)) (g := (mkF m 202 Ls [(.int (3 : Int32)), (.ref a)])) rfl (by rw [hml]; exact hLs) (Steps.refl _) (a := a) (by rw [e712]; exact q713) q713' (argsL := [(.int (3 : Int32))]) (rest := []) (lenOf own_pd5 rfl) rfl (by show 2 * 0 + _ ≤ _; exact Nat.le_of_eq rfl) (hb hby d3_202) (fun _ _ => ⟨rfl, e712, (by decide : 1 + 0 ≤ _), (by decide : 4 + 0 ≤ _)⟩)
      dsimp only [Pt.U, Pt.locs, Pt.cells, Pt.slots] at X713 l713 y713 z713 st713 hQ713
      subst l713 y713 z713
      obtain ⟨rfl, Nq713, e713⟩ := hQ713
      have N713 := Fr.app N0 Nq713
      refine up ?_ (fun t k => st713.trans k)
      show own_G (T713.setTop (mkF m 205 Ls [(.int (if y3 = own_sg y2 then (1 : Int32) else (0 : Int32)))]))
      refine up ?_ fun t k => XS.ifYes X713.here hx rfl (pc0 := 205) (pc' := 221) rfl (hb hby d3_205) rfl ((if0 _ _).trans (feq ((by rw [if_pos htop3]; decide) : ¬ ((if y3 = own_sg y2 then (1 : Int32) else (0 : Int32)) = (0 : Int32)))).2) (by decide) (by decide) (XS.aloadN X713.here hx rfl (hb hby d3_221) hL0 rfl (XS.aloadN X713.here hx rfl (hb hby d3_222) hL0 rfl k))
      show own_G (T713.setTop (mkF m 223 Ls [(.ref a), (.ref a)]))
      obtain ⟨T714, X714, e714, st714⟩ := getF X713 hx hZ hown (host := "") (Or.inl (hw _ (own_m 20 rfl))) Via.refl e713 Fl (g := (mkF m 223 Ls [(.ref a), (.ref a)])) rfl rfl (hb hby d3_223)
      refine up ?_ st714
      show own_G (T714.setTop (mkF m 226 Ls [(.int (4 : Int32)), (.ref a)]))
      refine up ?_ fun t k => XS.iconst X714.here hx rfl (hb hby d3_226) (XS.isub X714.here hx rfl (hb hby d3_227) rfl k)
      show own_G (T714.setTop (mkF m 228 Ls [(.int (2 : Int32)), (.ref a)]))
      obtain ⟨cq715, q715, q715'⟩ := E_a.cell
      obtain ⟨_, _, ⟨T715, L715, k715, n715⟩, -, X715, ⟨Lc715, hQ715, l715, y715, z715⟩, st715⟩ := X714.privateBack hx (y := (⟨"com/example/eventweir/eventweir/ExactSum", "repeatsSign", "(I)Z"⟩ : MethodName)) hown (mvT hZ (hw _ (own_m 49 rfl))) (mvT hZ (hw _ (own_m 50 rfl))) (own_sel (by decide) (mvT hZ (hw _ (own_m 50 rfl))) (mvP hZ (hw _ (own_m 51 rfl))) (mvT hZ (hw _ (own_m 3 rfl)))) (Cond.privateMethod_at (mvP hZ (hw _ (own_m 51 rfl)) (args := #[]))) (mvT hZ (hw _ (own_m 52 rfl))) (by decide) (backOf (W := 0) (rmrs2 l Z a0 hw [] a r kr (4 : Int32) pw [(.long y3)] y0 y1 y2 (4 : Int32) h0 n0 Z0 ⟨E_a, Fw, Fl, Fp, V⟩ g_a g_r (own_cap4 y3) ) hZ (hw _ (own_m 52 rfl)) (hw _ (own_m 4 rfl)) (by decide) (by decide)) (g := (mkF m 228 Ls [(.int (2 : Int32)), (.ref a)])) rfl (by rw [hml]; exact hLs) (Steps.refl _) (a := a) (by rw [e714]; exact q715) q715' (argsL := [(.int (2 : Int32))]) (rest := []) (lenOf own_pd5 rfl) rfl (by show 2 * 0 + _ ≤ _; exact Nat.le_of_eq rfl) (hb hby d3_228) (fun _ _ => ⟨rfl, e714, (by decide : 1 + 0 ≤ _), (by decide : 4 + 0 ≤ _)⟩)
      dsimp only [Pt.U, Pt.locs, Pt.cells, Pt.slots] at X715 l715 y715 z715 st715 hQ715
      subst l715 y715 z715
      obtain ⟨rfl, Nq715, e715⟩ := hQ715
      have N715 := Fr.app N713 Nq715
      refine up ?_ (fun t k => st715.trans k)
      show own_G (T715.setTop (mkF m 231 Ls [(.int (if y2 = own_sg y1 then (1 : Int32) else (0 : Int32)))]))
      refine up ?_ fun t k => XS.ifNo X715.here hx rfl (hb hby d3_231) rfl ((if0 _ _).trans (feq ((by rw [if_pos htop]; decide) : ¬ ((if y2 = own_sg y1 then (1 : Int32) else (0 : Int32)) = (0 : Int32)))).1) (XS.aloadN X715.here hx rfl (hb hby d3_234) hL0 rfl k)
      show own_G (T715.setTop (mkF m 235 Ls [(.ref a)]))
      obtain ⟨cq716, q716, q716'⟩ := E_a.cell
      obtain ⟨_, _, ⟨T716, L716, k716, n716⟩, -, X716, ⟨Lc716, hQ716, l716, y716, z716⟩, st716⟩ := X715.privateBack hx (y := (⟨"com/example/eventweir/eventweir/ExactSum", "normalize", "()V"⟩ : MethodName)) hown (mvT hZ (hw _ (own_m 69 rfl))) (mvT hZ (hw _ (own_m 70 rfl))) (own_sel (by decide) (mvT hZ (hw _ (own_m 70 rfl))) (mvP hZ (hw _ (own_m 71 rfl))) (mvT hZ (hw _ (own_m 3 rfl)))) (Cond.privateMethod_at (mvP hZ (hw _ (own_m 71 rfl)) (args := #[]))) (mvT hZ (hw _ (own_m 72 rfl))) (by decide) (backOf (W := 0) (rmn4z l Z a0 hw [] a r kr pw y0 y1 y2 y3 h0 n0 Z0 ⟨E_a, Fw, Fl, Fp, V⟩ g_a g_r htop htop3 hA hB) hZ (hw _ (own_m 72 rfl)) (hw _ (own_m 4 rfl)) (by decide) (by decide)) (g := (mkF m 235 Ls [(.ref a)])) rfl (by rw [hml]; exact hLs) (Steps.refl _) (a := a) (by rw [e715]; exact q716) q716' (argsL := []) (rest := []) (lenOf own_pd7 rfl) rfl (by show 2 * 0 + _ ≤ _; exact Nat.le_of_eq rfl) (hb hby d3_235) (fun _ _ => ⟨rfl, e715, (by decide : 1 + 0 ≤ _), (by decide : 4 + 0 ≤ _)⟩)
      dsimp only [Pt.U, Pt.locs, Pt.cells, Pt.slots] at X716 l716 y716 z716 st716 hQ716
      subst l716 y716 z716
      obtain ⟨rfl, Nq716, hsq716, Eq716, Fwq716, Flq716, Fpq716, Vq716⟩ := hQ716
      have N716 := Fr.app N715 Nq716
      have kq717 := Nat.le_trans hsz hsq716
      have Zs718 : n0 ≤ T716.heap.size := Nat.le_trans Z0 hsq716
      refine up ?_ (fun t k => st716.trans k)
      show own_G (T716.setTop (mkF m 238 Ls []))
      refine up ?_ fun t k => XS.aloadN X716.here hx rfl (hb hby d3_238) hL0 rfl k
      show own_G (T716.setTop (mkF m 239 Ls [(.ref a)]))
      obtain ⟨T719, X719, e719, st719⟩ := getF X716 hx hZ hown (host := "") (Or.inl (hw _ (own_m 20 rfl))) Via.refl rfl Flq716 (g := (mkF m 239 Ls [(.ref a)])) rfl rfl (hb hby d3_239)
      refine up ?_ st719
      show own_G (T719.setTop (mkF m 242 Ls [(.int (0 : Int32))]))
      refine up ?_ fun t k => XS.ifYes X719.here hx rfl (pc0 := 242) (pc' := 260) rfl (hb hby d3_242) rfl ((if0 _ _).trans (flt (by decide : ¬ ((0 : Int32) < (0 : Int32)))).2.2.2) (by decide) (by decide) k
      show own_G (T719.setTop (mkF m 260 Ls []))
      exact own_retV X719 hx hlk hret (hb hby d3_260) (by rw [e719]; exact ⟨rfl, N716, kq717, (own_StZ ⟨Eq716, Fwq716, Flq716, Fpq716, Vq716⟩ g_r (own_cap4 y3) hB hA)⟩) (by decide) (by decide)
    · show own_G (s₁.setTop (mkF m 195 Ls []))
      refine up ?_ fun t k => XS.aloadN X0.here hx rfl (hb hby d3_195) hL0 rfl (XS.aloadN X0.here hx rfl (hb hby d3_196) hL0 rfl k)
      show own_G (s₁.setTop (mkF m 197 Ls [(.ref a), (.ref a)]))
      obtain ⟨T720, X720, e720, st720⟩ := getF X0 hx hZ hown (host := "") (Or.inl (hw _ (own_m 20 rfl))) Via.refl e0 Fl (g := (mkF m 197 Ls [(.ref a), (.ref a)])) rfl rfl (hb hby d3_197)
      refine up ?_ st720
      show own_G (T720.setTop (mkF m 200 Ls [(.int (4 : Int32)), (.ref a)]))
      refine up ?_ fun t k => XS.iconst X720.here hx rfl (hb hby d3_200) (XS.isub X720.here hx rfl (hb hby d3_201) rfl k)
      show own_G (T720.setTop (mkF m 202 Ls [(.int (3 : Int32)), (.ref a)]))
      obtain ⟨cq721, q721, q721'⟩ := E_a.cell
      obtain ⟨_, _, ⟨T721, L721, k721, n721⟩, -, X721, ⟨Lc721, hQ721, l721, y721, z721⟩, st721⟩ := X720.privateBack hx (y := (⟨"com/example/eventweir/eventweir/ExactSum", "repeatsSign", "(I)Z"⟩ : MethodName)) hown (mvT hZ (hw _ (own_m 49 rfl))) (mvT hZ (hw _ (own_m 50 rfl))) (own_sel (by decide) (mvT hZ (hw _ (own_m 50 rfl))) (mvP hZ (hw _ (own_m 51 rfl))) (mvT hZ (hw _ (own_m 3 rfl)))) (Cond.privateMethod_at (mvP hZ (hw _ (own_m 51 rfl)) (args := #[]))) (mvT hZ (hw _ (own_m 52 rfl))) (by decide) (backOf (W := 0) (rmrs3 l Z a0 hw [] a r kr pw y0 y1 y2 y3 (4 : Int32) h0 n0 Z0 ⟨E_a, Fw, Fl, Fp, V⟩ g_a g_r ) hZ (hw _ (own_m 52 rfl)) (hw _ (own_m 4 rfl)) (by decide) (by decide)) (g := (mkF m 202 Ls [(.int (3 : Int32)), (.ref a)])) rfl (by rw [hml]; exact hLs) (Steps.refl _) (a := a) (by rw [e720]; exact q721) q721' (argsL := [(.int (3 : Int32))]) (rest := []) (lenOf own_pd5 rfl) rfl (by show 2 * 0 + _ ≤ _; exact Nat.le_of_eq rfl) (hb hby d3_202) (fun _ _ => ⟨rfl, e720, (by decide : 1 + 0 ≤ _), (by decide : 4 + 0 ≤ _)⟩)
      dsimp only [Pt.U, Pt.locs, Pt.cells, Pt.slots] at X721 l721 y721 z721 st721 hQ721
      subst l721 y721 z721
      obtain ⟨rfl, Nq721, e721⟩ := hQ721
      have N721 := Fr.app N0 Nq721
      refine up ?_ (fun t k => st721.trans k)
      show own_G (T721.setTop (mkF m 205 Ls [(.int (if y3 = own_sg y2 then (1 : Int32) else (0 : Int32)))]))
      refine up ?_ fun t k => XS.ifYes X721.here hx rfl (pc0 := 205) (pc' := 221) rfl (hb hby d3_205) rfl ((if0 _ _).trans (feq ((by rw [if_pos htop3]; decide) : ¬ ((if y3 = own_sg y2 then (1 : Int32) else (0 : Int32)) = (0 : Int32)))).2) (by decide) (by decide) (XS.aloadN X721.here hx rfl (hb hby d3_221) hL0 rfl (XS.aloadN X721.here hx rfl (hb hby d3_222) hL0 rfl k))
      show own_G (T721.setTop (mkF m 223 Ls [(.ref a), (.ref a)]))
      obtain ⟨T722, X722, e722, st722⟩ := getF X721 hx hZ hown (host := "") (Or.inl (hw _ (own_m 20 rfl))) Via.refl e721 Fl (g := (mkF m 223 Ls [(.ref a), (.ref a)])) rfl rfl (hb hby d3_223)
      refine up ?_ st722
      show own_G (T722.setTop (mkF m 226 Ls [(.int (4 : Int32)), (.ref a)]))
      refine up ?_ fun t k => XS.iconst X722.here hx rfl (hb hby d3_226) (XS.isub X722.here hx rfl (hb hby d3_227) rfl k)
      show own_G (T722.setTop (mkF m 228 Ls [(.int (2 : Int32)), (.ref a)]))
      obtain ⟨cq723, q723, q723'⟩ := E_a.cell
      obtain ⟨_, _, ⟨T723, L723, k723, n723⟩, -, X723, ⟨Lc723, hQ723, l723, y723, z723⟩, st723⟩ := X722.privateBack hx (y := (⟨"com/example/eventweir/eventweir/ExactSum", "repeatsSign", "(I)Z"⟩ : MethodName)) hown (mvT hZ (hw _ (own_m 49 rfl))) (mvT hZ (hw _ (own_m 50 rfl))) (own_sel (by decide) (mvT hZ (hw _ (own_m 50 rfl))) (mvP hZ (hw _ (own_m 51 rfl))) (mvT hZ (hw _ (own_m 3 rfl)))) (Cond.privateMethod_at (mvP hZ (hw _ (own_m 51 rfl)) (args := #[]))) (mvT hZ (hw _ (own_m 52 rfl))) (by decide) (backOf (W := 0) (rmrs2 l Z a0 hw [] a r kr (4 : Int32) pw [(.long y3)] y0 y1 y2 (4 : Int32) h0 n0 Z0 ⟨E_a, Fw, Fl, Fp, V⟩ g_a g_r (own_cap4 y3) ) hZ (hw _ (own_m 52 rfl)) (hw _ (own_m 4 rfl)) (by decide) (by decide)) (g := (mkF m 228 Ls [(.int (2 : Int32)), (.ref a)])) rfl (by rw [hml]; exact hLs) (Steps.refl _) (a := a) (by rw [e722]; exact q723) q723' (argsL := [(.int (2 : Int32))]) (rest := []) (lenOf own_pd5 rfl) rfl (by show 2 * 0 + _ ≤ _; exact Nat.le_of_eq rfl) (hb hby d3_228) (fun _ _ => ⟨rfl, e722, (by decide : 1 + 0 ≤ _), (by decide : 4 + 0 ≤ _)⟩)
      dsimp only [Pt.U, Pt.locs, Pt.cells, Pt.slots] at X723 l723 y723 z723 st723 hQ723
      subst l723 y723 z723
      obtain ⟨rfl, Nq723, e723⟩ := hQ723
      have N723 := Fr.app N721 Nq723
      refine up ?_ (fun t k => st723.trans k)
      show own_G (T723.setTop (mkF m 231 Ls [(.int (if y2 = own_sg y1 then (1 : Int32) else (0 : Int32)))]))
      refine up ?_ fun t k => XS.ifNo X723.here hx rfl (hb hby d3_231) rfl ((if0 _ _).trans (feq ((by rw [if_pos htop]; decide) : ¬ ((if y2 = own_sg y1 then (1 : Int32) else (0 : Int32)) = (0 : Int32)))).1) (XS.aloadN X723.here hx rfl (hb hby d3_234) hL0 rfl k)
      show own_G (T723.setTop (mkF m 235 Ls [(.ref a)]))
      obtain ⟨cq724, q724, q724'⟩ := E_a.cell
      obtain ⟨_, _, ⟨T724, L724, k724, n724⟩, -, X724, ⟨Lc724, hQ724, l724, y724, z724⟩, st724⟩ := X723.privateBack hx (y := (⟨"com/example/eventweir/eventweir/ExactSum", "normalize", "()V"⟩ : MethodName)) hown (mvT hZ (hw _ (own_m 69 rfl))) (mvT hZ (hw _ (own_m 70 rfl))) (own_sel (by decide) (mvT hZ (hw _ (own_m 70 rfl))) (mvP hZ (hw _ (own_m 71 rfl))) (mvT hZ (hw _ (own_m 3 rfl)))) (Cond.privateMethod_at (mvP hZ (hw _ (own_m 71 rfl)) (args := #[]))) (mvT hZ (hw _ (own_m 72 rfl))) (by decide) (backOf (W := 0) (rmn4a l Z a0 hw [] a r kr pw y0 y1 y2 y3 h0 n0 Z0 ⟨E_a, Fw, Fl, Fp, V⟩ g_a g_r htop htop3 hA hB) hZ (hw _ (own_m 72 rfl)) (hw _ (own_m 4 rfl)) (by decide) (by decide)) (g := (mkF m 235 Ls [(.ref a)])) rfl (by rw [hml]; exact hLs) (Steps.refl _) (a := a) (by rw [e723]; exact q724) q724' (argsL := []) (rest := []) (lenOf own_pd7 rfl) rfl (by show 2 * 0 + _ ≤ _; exact Nat.le_of_eq rfl) (hb hby d3_235) (fun _ _ => ⟨rfl, e723, (by decide : 1 + 0 ≤ _), (by decide : 4 + 0 ≤ _)⟩)
      dsimp only [Pt.U, Pt.locs, Pt.cells, Pt.slots] at X724 l724 y724 z724 st724 hQ724
      subst l724 y724 z724
      obtain ⟨rfl, Nq724, hsq724, Eq724, Fwq724, Flq724, Fpq724, Vq724⟩ := hQ724
      have N724 := Fr.app N723 Nq724
      have kq725 := Nat.le_trans hsz hsq724
      have Zs726 : n0 ≤ T724.heap.size := Nat.le_trans Z0 hsq724
      refine up ?_ (fun t k => st724.trans k)
      show own_G (T724.setTop (mkF m 238 Ls []))
      refine up ?_ fun t k => XS.aloadN X724.here hx rfl (hb hby d3_238) hL0 rfl k
      show own_G (T724.setTop (mkF m 239 Ls [(.ref a)]))
      obtain ⟨T727, X727, e727, st727⟩ := getF X724 hx hZ hown (host := "") (Or.inl (hw _ (own_m 20 rfl))) Via.refl rfl Flq724 (g := (mkF m 239 Ls [(.ref a)])) rfl rfl (hb hby d3_239)
      refine up ?_ st727
      show own_G (T727.setTop (mkF m 242 Ls [(.int (2 : Int32))]))
      refine up ?_ fun t k => XS.ifNo X727.here hx rfl (hb hby d3_242) rfl ((if0 _ _).trans (tlt (by decide : ((0 : Int32) < (2 : Int32)))).2.2.2) (XS.aloadN X727.here hx rfl (hb hby d3_245) hL0 rfl k)
      show own_G (T727.setTop (mkF m 246 Ls [(.ref a)]))
      obtain ⟨T728, X728, e728, st728⟩ := getF X727 hx hZ hown (host := "") (Or.inl (hw _ (own_m 13 rfl))) Via.refl e727 Fwq724 (g := (mkF m 246 Ls [(.ref a)])) rfl rfl (hb hby d3_246)
      refine up ?_ st728
      show own_G (T728.setTop (mkF m 249 Ls [(.ref r)]))
      refine up ?_ fun t k => XS.iconst X728.here hx rfl (hb hby d3_249) k
      show own_G (T728.setTop (mkF m 250 Ls [(.int (0 : Int32)), (.ref r)]))
      obtain ⟨cl729, Ar729, qa729, Sa729, Na729, Ha729, Ga729⟩ := id Vq724
      have hin729 : ¬ ((0 : Int32) < 0 ∨ cl729.slots.size ≤ ((0 : Int32)).toNatClampNeg) := inb_of Sa729 ⟨by decide, by decide⟩
      refine up ?_ fun t k => X728.laload hx (j := (0 : Int32)) (v := (.long y0)) (by rw [e728]; exact Ar729.1) (State.isArrayOf_alike hZ.alike Ar729.2.1) Ar729.2.2 hin729 (Ha729.at hin729 rfl) (g := (mkF m 250 Ls [(.int (0 : Int32)), (.ref r)])) rfl rfl (hb hby d3_250) _ (XS.lconst X728.here hx rfl (hb hby d3_251) (XS.lcmp X728.here hx rfl (hb hby d3_252) rfl k))
      show own_G (T728.setTop (mkF m 253 Ls [(.int (lcmpW y0 (0 : Int64)))]))
      refine up ?_ fun t k => XS.ifYes X728.here hx rfl (pc0 := 253) (pc' := 260) rfl (hb hby d3_253) rfl ((if0 _ _).trans (feq (fun q => (hB : ¬ (y0 = (0 : Int64))) ((lw_eq _ _).mp q))).2) (by decide) (by decide) k
      show own_G (T728.setTop (mkF m 260 Ls []))
      exact own_retV X728 hx hlk hret (hb hby d3_260) (by rw [e728]; exact ⟨rfl, N724, kq725, (own_StA ⟨Eq724, Fwq724, Flq724, Fpq724, Vq724⟩ g_r (own_cap4 y3) hB hA)⟩) (by decide) (by decide)
  · show own_G (s₁.setTop (mkF m 195 Ls []))
    by_cases hB : y0 = (0 : Int64)
    · show own_G (s₁.setTop (mkF m 195 Ls []))
      refine up ?_ fun t k => XS.aloadN X0.here hx rfl (hb hby d3_195) hL0 rfl (XS.aloadN X0.here hx rfl (hb hby d3_196) hL0 rfl k)
      show own_G (s₁.setTop (mkF m 197 Ls [(.ref a), (.ref a)]))
      obtain ⟨T730, X730, e730, st730⟩ := getF X0 hx hZ hown (host := "") (Or.inl (hw _ (own_m 20 rfl))) Via.refl e0 Fl (g := (mkF m 197 Ls [(.ref a), (.ref a)])) rfl rfl (hb hby d3_197)
      refine up ?_ st730
      show own_G (T730.setTop (mkF m 200 Ls [(.int (4 : Int32)), (.ref a)]))
      refine up ?_ fun t k => XS.iconst X730.here hx rfl (hb hby d3_200) (XS.isub X730.here hx rfl (hb hby d3_201) rfl k)
      show own_G (T730.setTop (mkF m 202 Ls [(.int (3 : Int32)), (.ref a)]))
      obtain ⟨cq731, q731, q731'⟩ := E_a.cell
      obtain ⟨_, _, ⟨T731, L731, k731, n731⟩, -, X731, ⟨Lc731, hQ731, l731, y731, z731⟩, st731⟩ := X730.privateBack hx (y := (⟨"com/example/eventweir/eventweir/ExactSum", "repeatsSign", "(I)Z"⟩ : MethodName)) hown (mvT hZ (hw _ (own_m 49 rfl))) (mvT hZ (hw _ (own_m 50 rfl))) (own_sel (by decide) (mvT hZ (hw _ (own_m 50 rfl))) (mvP hZ (hw _ (own_m 51 rfl))) (mvT hZ (hw _ (own_m 3 rfl)))) (Cond.privateMethod_at (mvP hZ (hw _ (own_m 51 rfl)) (args := #[]))) (mvT hZ (hw _ (own_m 52 rfl))) (by decide) (backOf (W := 0) (rmrs3 l Z a0 hw [] a r kr pw y0 y1 y2 y3 (4 : Int32) h0 n0 Z0 ⟨E_a, Fw, Fl, Fp, V⟩ g_a g_r ) hZ (hw _ (own_m 52 rfl)) (hw _ (own_m 4 rfl)) (by decide) (by decide)) (g := (mkF m 202 Ls [(.int (3 : Int32)), (.ref a)])) rfl (by rw [hml]; exact hLs) (Steps.refl _) (a := a) (by rw [e730]; exact q731) q731' (argsL := [(.int (3 : Int32))]) (rest := []) (lenOf own_pd5 rfl) rfl (by show 2 * 0 + _ ≤ _; exact Nat.le_of_eq rfl) (hb hby d3_202) (fun _ _ => ⟨rfl, e730, (by decide : 1 + 0 ≤ _), (by decide : 4 + 0 ≤ _)⟩)
      dsimp only [Pt.U, Pt.locs, Pt.cells, Pt.slots] at X731 l731 y731 z731 st731 hQ731
      subst l731 y731 z731
      obtain ⟨rfl, Nq731, e731⟩ := hQ731
      have N731 := Fr.app N0 Nq731
      refine up ?_ (fun t k => st731.trans k)
      show own_G (T731.setTop (mkF m 205 Ls [(.int (if y3 = own_sg y2 then (1 : Int32) else (0 : Int32)))]))
      refine up ?_ fun t k => XS.ifYes X731.here hx rfl (pc0 := 205) (pc' := 221) rfl (hb hby d3_205) rfl ((if0 _ _).trans (feq ((by rw [if_pos htop3]; decide) : ¬ ((if y3 = own_sg y2 then (1 : Int32) else (0 : Int32)) = (0 : Int32)))).2) (by decide) (by decide) (XS.aloadN X731.here hx rfl (hb hby d3_221) hL0 rfl (XS.aloadN X731.here hx rfl (hb hby d3_222) hL0 rfl k))
      show own_G (T731.setTop (mkF m 223 Ls [(.ref a), (.ref a)]))
      obtain ⟨T732, X732, e732, st732⟩ := getF X731 hx hZ hown (host := "") (Or.inl (hw _ (own_m 20 rfl))) Via.refl e731 Fl (g := (mkF m 223 Ls [(.ref a), (.ref a)])) rfl rfl (hb hby d3_223)
      refine up ?_ st732
      show own_G (T732.setTop (mkF m 226 Ls [(.int (4 : Int32)), (.ref a)]))
      refine up ?_ fun t k => XS.iconst X732.here hx rfl (hb hby d3_226) (XS.isub X732.here hx rfl (hb hby d3_227) rfl k)
      show own_G (T732.setTop (mkF m 228 Ls [(.int (2 : Int32)), (.ref a)]))
      obtain ⟨cq733, q733, q733'⟩ := E_a.cell
      obtain ⟨_, _, ⟨T733, L733, k733, n733⟩, -, X733, ⟨Lc733, hQ733, l733, y733, z733⟩, st733⟩ := X732.privateBack hx (y := (⟨"com/example/eventweir/eventweir/ExactSum", "repeatsSign", "(I)Z"⟩ : MethodName)) hown (mvT hZ (hw _ (own_m 49 rfl))) (mvT hZ (hw _ (own_m 50 rfl))) (own_sel (by decide) (mvT hZ (hw _ (own_m 50 rfl))) (mvP hZ (hw _ (own_m 51 rfl))) (mvT hZ (hw _ (own_m 3 rfl)))) (Cond.privateMethod_at (mvP hZ (hw _ (own_m 51 rfl)) (args := #[]))) (mvT hZ (hw _ (own_m 52 rfl))) (by decide) (backOf (W := 0) (rmrs2 l Z a0 hw [] a r kr (4 : Int32) pw [(.long y3)] y0 y1 y2 (4 : Int32) h0 n0 Z0 ⟨E_a, Fw, Fl, Fp, V⟩ g_a g_r (own_cap4 y3) ) hZ (hw _ (own_m 52 rfl)) (hw _ (own_m 4 rfl)) (by decide) (by decide)) (g := (mkF m 228 Ls [(.int (2 : Int32)), (.ref a)])) rfl (by rw [hml]; exact hLs) (Steps.refl _) (a := a) (by rw [e732]; exact q733) q733' (argsL := [(.int (2 : Int32))]) (rest := []) (lenOf own_pd5 rfl) rfl (by show 2 * 0 + _ ≤ _; exact Nat.le_of_eq rfl) (hb hby d3_228) (fun _ _ => ⟨rfl, e732, (by decide : 1 + 0 ≤ _), (by decide : 4 + 0 ≤ _)⟩)
      dsimp only [Pt.U, Pt.locs, Pt.cells, Pt.slots] at X733 l733 y733 z733 st733 hQ733
      subst l733 y733 z733
      obtain ⟨rfl, Nq733, e733⟩ := hQ733
      have N733 := Fr.app N731 Nq733
      refine up ?_ (fun t k => st733.trans k)
      show own_G (T733.setTop (mkF m 231 Ls [(.int (if y2 = own_sg y1 then (1 : Int32) else (0 : Int32)))]))
      refine up ?_ fun t k => XS.ifNo X733.here hx rfl (hb hby d3_231) rfl ((if0 _ _).trans (feq ((by rw [if_pos htop]; decide) : ¬ ((if y2 = own_sg y1 then (1 : Int32) else (0 : Int32)) = (0 : Int32)))).1) (XS.aloadN X733.here hx rfl (hb hby d3_234) hL0 rfl k)
      show own_G (T733.setTop (mkF m 235 Ls [(.ref a)]))
      obtain ⟨cq734, q734, q734'⟩ := E_a.cell
      obtain ⟨_, _, ⟨T734, L734, k734, n734⟩, -, X734, ⟨Lc734, hQ734, l734, y734, z734⟩, st734⟩ := X733.privateBack hx (y := (⟨"com/example/eventweir/eventweir/ExactSum", "normalize", "()V"⟩ : MethodName)) hown (mvT hZ (hw _ (own_m 69 rfl))) (mvT hZ (hw _ (own_m 70 rfl))) (own_sel (by decide) (mvT hZ (hw _ (own_m 70 rfl))) (mvP hZ (hw _ (own_m 71 rfl))) (mvT hZ (hw _ (own_m 3 rfl)))) (Cond.privateMethod_at (mvP hZ (hw _ (own_m 71 rfl)) (args := #[]))) (mvT hZ (hw _ (own_m 72 rfl))) (by decide) (backOf (W := 0) (rmn4b l Z a0 hw [] a r kr pw y0 y1 y2 y3 h0 n0 Z0 ⟨E_a, Fw, Fl, Fp, V⟩ g_a g_r htop htop3 hA hB (own_nz1 hB hA)) hZ (hw _ (own_m 72 rfl)) (hw _ (own_m 4 rfl)) (by decide) (by decide)) (g := (mkF m 235 Ls [(.ref a)])) rfl (by rw [hml]; exact hLs) (Steps.refl _) (a := a) (by rw [e733]; exact q734) q734' (argsL := []) (rest := []) (lenOf own_pd7 rfl) rfl (by show 2 * 0 + _ ≤ _; exact Nat.le_of_eq rfl) (hb hby d3_235) (fun _ _ => ⟨rfl, e733, (by decide : 1 + 0 ≤ _), (by decide : 4 + 0 ≤ _)⟩)
      dsimp only [Pt.U, Pt.locs, Pt.cells, Pt.slots] at X734 l734 y734 z734 st734 hQ734
      subst l734 y734 z734
      obtain ⟨rfl, Nq734, hsq734, Eq734, Fwq734, Flq734, Fpq734, Vq734⟩ := hQ734
      have N734 := Fr.app N733 Nq734
      have kq735 := Nat.le_trans hsz hsq734
      have Zs736 : n0 ≤ T734.heap.size := Nat.le_trans Z0 hsq734
      refine up ?_ (fun t k => st734.trans k)
      show own_G (T734.setTop (mkF m 238 Ls []))
      refine up ?_ fun t k => XS.aloadN X734.here hx rfl (hb hby d3_238) hL0 rfl k
      show own_G (T734.setTop (mkF m 239 Ls [(.ref a)]))
      obtain ⟨T737, X737, e737, st737⟩ := getF X734 hx hZ hown (host := "") (Or.inl (hw _ (own_m 20 rfl))) Via.refl rfl Flq734 (g := (mkF m 239 Ls [(.ref a)])) rfl rfl (hb hby d3_239)
      refine up ?_ st737
      show own_G (T737.setTop (mkF m 242 Ls [(.int (2 : Int32))]))
      refine up ?_ fun t k => XS.ifNo X737.here hx rfl (hb hby d3_242) rfl ((if0 _ _).trans (tlt (by decide : ((0 : Int32) < (2 : Int32)))).2.2.2) (XS.aloadN X737.here hx rfl (hb hby d3_245) hL0 rfl k)
      show own_G (T737.setTop (mkF m 246 Ls [(.ref a)]))
      obtain ⟨T738, X738, e738, st738⟩ := getF X737 hx hZ hown (host := "") (Or.inl (hw _ (own_m 13 rfl))) Via.refl e737 Fwq734 (g := (mkF m 246 Ls [(.ref a)])) rfl rfl (hb hby d3_246)
      refine up ?_ st738
      show own_G (T738.setTop (mkF m 249 Ls [(.ref r)]))
      refine up ?_ fun t k => XS.iconst X738.here hx rfl (hb hby d3_249) k
      show own_G (T738.setTop (mkF m 250 Ls [(.int (0 : Int32)), (.ref r)]))
      obtain ⟨cl739, Ar739, qa739, Sa739, Na739, Ha739, Ga739⟩ := id Vq734
      have hin739 : ¬ ((0 : Int32) < 0 ∨ cl739.slots.size ≤ ((0 : Int32)).toNatClampNeg) := inb_of Sa739 ⟨by decide, by decide⟩
      refine up ?_ fun t k => X738.laload hx (j := (0 : Int32)) (v := (.long y1)) (by rw [e738]; exact Ar739.1) (State.isArrayOf_alike hZ.alike Ar739.2.1) Ar739.2.2 hin739 (Ha739.at hin739 rfl) (g := (mkF m 250 Ls [(.int (0 : Int32)), (.ref r)])) rfl rfl (hb hby d3_250) _ (XS.lconst X738.here hx rfl (hb hby d3_251) (XS.lcmp X738.here hx rfl (hb hby d3_252) rfl k))
      show own_G (T738.setTop (mkF m 253 Ls [(.int (lcmpW y1 (0 : Int64)))]))
      refine up ?_ fun t k => XS.ifYes X738.here hx rfl (pc0 := 253) (pc' := 260) rfl (hb hby d3_253) rfl ((if0 _ _).trans (feq (fun q => ((own_nz1 hB hA) : ¬ (y1 = (0 : Int64))) ((lw_eq _ _).mp q))).2) (by decide) (by decide) k
      show own_G (T738.setTop (mkF m 260 Ls []))
      exact own_retV X738 hx hlk hret (hb hby d3_260) (by rw [e738]; exact ⟨rfl, N734, kq735, (own_StB ⟨Eq734, Fwq734, Flq734, Fpq734, Vq734⟩ g_r (own_cap4 y3) hB (own_nz1 hB hA))⟩) (by decide) (by decide)
    · show own_G (s₁.setTop (mkF m 195 Ls []))
      refine up ?_ fun t k => XS.aloadN X0.here hx rfl (hb hby d3_195) hL0 rfl (XS.aloadN X0.here hx rfl (hb hby d3_196) hL0 rfl k)
      show own_G (s₁.setTop (mkF m 197 Ls [(.ref a), (.ref a)]))
      obtain ⟨T740, X740, e740, st740⟩ := getF X0 hx hZ hown (host := "") (Or.inl (hw _ (own_m 20 rfl))) Via.refl e0 Fl (g := (mkF m 197 Ls [(.ref a), (.ref a)])) rfl rfl (hb hby d3_197)
      refine up ?_ st740
      show own_G (T740.setTop (mkF m 200 Ls [(.int (4 : Int32)), (.ref a)]))
      refine up ?_ fun t k => XS.iconst X740.here hx rfl (hb hby d3_200) (XS.isub X740.here hx rfl (hb hby d3_201) rfl k)
      show own_G (T740.setTop (mkF m 202 Ls [(.int (3 : Int32)), (.ref a)]))
      obtain ⟨cq741, q741, q741'⟩ := E_a.cell
      obtain ⟨_, _, ⟨T741, L741, k741, n741⟩, -, X741, ⟨Lc741, hQ741, l741, y741, z741⟩, st741⟩ := X740.privateBack hx (y := (⟨"com/example/eventweir/eventweir/ExactSum", "repeatsSign", "(I)Z"⟩ : MethodName)) hown (mvT hZ (hw _ (own_m 49 rfl))) (mvT hZ (hw _ (own_m 50 rfl))) (own_sel (by decide) (mvT hZ (hw _ (own_m 50 rfl))) (mvP hZ (hw _ (own_m 51 rfl))) (mvT hZ (hw _ (own_m 3 rfl)))) (Cond.privateMethod_at (mvP hZ (hw _ (own_m 51 rfl)) (args := #[]))) (mvT hZ (hw _ (own_m 52 rfl))) (by decide) (backOf (W := 0) (rmrs3 l Z a0 hw [] a r kr pw y0 y1 y2 y3 (4 : Int32) h0 n0 Z0 ⟨E_a, Fw, Fl, Fp, V⟩ g_a g_r ) hZ (hw _ (own_m 52 rfl)) (hw _ (own_m 4 rfl)) (by decide) (by decide)) (g := (mkF m 202 Ls [(.int (3 : Int32)), (.ref a)])) rfl (by rw [hml]; exact hLs) (Steps.refl _) (a := a) (by rw [e740]; exact q741) q741' (argsL := [(.int (3 : Int32))]) (rest := []) (lenOf own_pd5 rfl) rfl (by show 2 * 0 + _ ≤ _; exact Nat.le_of_eq rfl) (hb hby d3_202) (fun _ _ => ⟨rfl, e740, (by decide : 1 + 0 ≤ _), (by decide : 4 + 0 ≤ _)⟩)
      dsimp only [Pt.U, Pt.locs, Pt.cells, Pt.slots] at X741 l741 y741 z741 st741 hQ741
      subst l741 y741 z741
      obtain ⟨rfl, Nq741, e741⟩ := hQ741
      have N741 := Fr.app N0 Nq741
      refine up ?_ (fun t k => st741.trans k)
      show own_G (T741.setTop (mkF m 205 Ls [(.int (if y3 = own_sg y2 then (1 : Int32) else (0 : Int32)))]))
      refine up ?_ fun t k => XS.ifYes X741.here hx rfl (pc0 := 205) (pc' := 221) rfl (hb hby d3_205) rfl ((if0 _ _).trans (feq ((by rw [if_pos htop3]; decide) : ¬ ((if y3 = own_sg y2 then (1 : Int32) else (0 : Int32)) = (0 : Int32)))).2) (by decide) (by decide) (XS.aloadN X741.here hx rfl (hb hby d3_221) hL0 rfl (XS.aloadN X741.here hx rfl (hb hby d3_222) hL0 rfl k))
      show own_G (T741.setTop (mkF m 223 Ls [(.ref a), (.ref a)]))
      obtain ⟨T742, X742, e742, st742⟩ := getF X741 hx hZ hown (host := "") (Or.inl (hw _ (own_m 20 rfl))) Via.refl e741 Fl (g := (mkF m 223 Ls [(.ref a), (.ref a)])) rfl rfl (hb hby d3_223)
      refine up ?_ st742
      show own_G (T742.setTop (mkF m 226 Ls [(.int (4 : Int32)), (.ref a)]))
      refine up ?_ fun t k => XS.iconst X742.here hx rfl (hb hby d3_226) (XS.isub X742.here hx rfl (hb hby d3_227) rfl k)
      show own_G (T742.setTop (mkF m 228 Ls [(.int (2 : Int32)), (.ref a)]))
      obtain ⟨cq743, q743, q743'⟩ := E_a.cell
      obtain ⟨_, _, ⟨T743, L743, k743, n743⟩, -, X743, ⟨Lc743, hQ743, l743, y743, z743⟩, st743⟩ := X742.privateBack hx (y := (⟨"com/example/eventweir/eventweir/ExactSum", "repeatsSign", "(I)Z"⟩ : MethodName)) hown (mvT hZ (hw _ (own_m 49 rfl))) (mvT hZ (hw _ (own_m 50 rfl))) (own_sel (by decide) (mvT hZ (hw _ (own_m 50 rfl))) (mvP hZ (hw _ (own_m 51 rfl))) (mvT hZ (hw _ (own_m 3 rfl)))) (Cond.privateMethod_at (mvP hZ (hw _ (own_m 51 rfl)) (args := #[]))) (mvT hZ (hw _ (own_m 52 rfl))) (by decide) (backOf (W := 0) (rmrs2 l Z a0 hw [] a r kr (4 : Int32) pw [(.long y3)] y0 y1 y2 (4 : Int32) h0 n0 Z0 ⟨E_a, Fw, Fl, Fp, V⟩ g_a g_r (own_cap4 y3) ) hZ (hw _ (own_m 52 rfl)) (hw _ (own_m 4 rfl)) (by decide) (by decide)) (g := (mkF m 228 Ls [(.int (2 : Int32)), (.ref a)])) rfl (by rw [hml]; exact hLs) (Steps.refl _) (a := a) (by rw [e742]; exact q743) q743' (argsL := [(.int (2 : Int32))]) (rest := []) (lenOf own_pd5 rfl) rfl (by show 2 * 0 + _ ≤ _; exact Nat.le_of_eq rfl) (hb hby d3_228) (fun _ _ => ⟨rfl, e742, (by decide : 1 + 0 ≤ _), (by decide : 4 + 0 ≤ _)⟩)
      dsimp only [Pt.U, Pt.locs, Pt.cells, Pt.slots] at X743 l743 y743 z743 st743 hQ743
      subst l743 y743 z743
      obtain ⟨rfl, Nq743, e743⟩ := hQ743
      have N743 := Fr.app N741 Nq743
      refine up ?_ (fun t k => st743.trans k)
      show own_G (T743.setTop (mkF m 231 Ls [(.int (if y2 = own_sg y1 then (1 : Int32) else (0 : Int32)))]))
      refine up ?_ fun t k => XS.ifNo X743.here hx rfl (hb hby d3_231) rfl ((if0 _ _).trans (feq ((by rw [if_pos htop]; decide) : ¬ ((if y2 = own_sg y1 then (1 : Int32) else (0 : Int32)) = (0 : Int32)))).1) (XS.aloadN X743.here hx rfl (hb hby d3_234) hL0 rfl k)
      show own_G (T743.setTop (mkF m 235 Ls [(.ref a)]))
      obtain ⟨cq744, q744, q744'⟩ := E_a.cell
      obtain ⟨_, _, ⟨T744, L744, k744, n744⟩, -, X744, ⟨Lc744, hQ744, l744, y744, z744⟩, st744⟩ := X743.privateBack hx (y := (⟨"com/example/eventweir/eventweir/ExactSum", "normalize", "()V"⟩ : MethodName)) hown (mvT hZ (hw _ (own_m 69 rfl))) (mvT hZ (hw _ (own_m 70 rfl))) (own_sel (by decide) (mvT hZ (hw _ (own_m 70 rfl))) (mvP hZ (hw _ (own_m 71 rfl))) (mvT hZ (hw _ (own_m 3 rfl)))) (Cond.privateMethod_at (mvP hZ (hw _ (own_m 71 rfl)) (args := #[]))) (mvT hZ (hw _ (own_m 72 rfl))) (by decide) (backOf (W := 0) (rmn4c l Z a0 hw [] a r kr pw y0 y1 y2 y3 h0 n0 Z0 ⟨E_a, Fw, Fl, Fp, V⟩ g_a g_r htop htop3 hA hB) hZ (hw _ (own_m 72 rfl)) (hw _ (own_m 4 rfl)) (by decide) (by decide)) (g := (mkF m 235 Ls [(.ref a)])) rfl (by rw [hml]; exact hLs) (Steps.refl _) (a := a) (by rw [e743]; exact q744) q744' (argsL := []) (rest := []) (lenOf own_pd7 rfl) rfl (by show 2 * 0 + _ ≤ _; exact Nat.le_of_eq rfl) (hb hby d3_235) (fun _ _ => ⟨rfl, e743, (by decide : 1 + 0 ≤ _), (by decide : 4 + 0 ≤ _)⟩)
      dsimp only [Pt.U, Pt.locs, Pt.cells, Pt.slots] at X744 l744 y744 z744 st744 hQ744
      subst l744 y744 z744
      obtain ⟨rfl, Nq744, hsq744, Eq744, Fwq744, Flq744, Fpq744, Vq744⟩ := hQ744
      have N744 := Fr.app N743 Nq744
      have kq745 := Nat.le_trans hsz hsq744
      have Zs746 : n0 ≤ T744.heap.size := Nat.le_trans Z0 hsq744
      refine up ?_ (fun t k => st744.trans k)
      show own_G (T744.setTop (mkF m 238 Ls []))
      refine up ?_ fun t k => XS.aloadN X744.here hx rfl (hb hby d3_238) hL0 rfl k
      show own_G (T744.setTop (mkF m 239 Ls [(.ref a)]))
      obtain ⟨T747, X747, e747, st747⟩ := getF X744 hx hZ hown (host := "") (Or.inl (hw _ (own_m 20 rfl))) Via.refl rfl Flq744 (g := (mkF m 239 Ls [(.ref a)])) rfl rfl (hb hby d3_239)
      refine up ?_ st747
      show own_G (T747.setTop (mkF m 242 Ls [(.int (3 : Int32))]))
      refine up ?_ fun t k => XS.ifNo X747.here hx rfl (hb hby d3_242) rfl ((if0 _ _).trans (tlt (by decide : ((0 : Int32) < (3 : Int32)))).2.2.2) (XS.aloadN X747.here hx rfl (hb hby d3_245) hL0 rfl k)
      show own_G (T747.setTop (mkF m 246 Ls [(.ref a)]))
      obtain ⟨T748, X748, e748, st748⟩ := getF X747 hx hZ hown (host := "") (Or.inl (hw _ (own_m 13 rfl))) Via.refl e747 Fwq744 (g := (mkF m 246 Ls [(.ref a)])) rfl rfl (hb hby d3_246)
      refine up ?_ st748
      show own_G (T748.setTop (mkF m 249 Ls [(.ref r)]))
      refine up ?_ fun t k => XS.iconst X748.here hx rfl (hb hby d3_249) k
      show own_G (T748.setTop (mkF m 250 Ls [(.int (0 : Int32)), (.ref r)]))
      obtain ⟨cl749, Ar749, qa749, Sa749, Na749, Ha749, Ga749⟩ := id Vq744
      have hin749 : ¬ ((0 : Int32) < 0 ∨ cl749.slots.size ≤ ((0 : Int32)).toNatClampNeg) := inb_of Sa749 ⟨by decide, by decide⟩
      refine up ?_ fun t k => X748.laload hx (j := (0 : Int32)) (v := (.long y0)) (by rw [e748]; exact Ar749.1) (State.isArrayOf_alike hZ.alike Ar749.2.1) Ar749.2.2 hin749 (Ha749.at hin749 rfl) (g := (mkF m 250 Ls [(.int (0 : Int32)), (.ref r)])) rfl rfl (hb hby d3_250) _ (XS.lconst X748.here hx rfl (hb hby d3_251) (XS.lcmp X748.here hx rfl (hb hby d3_252) rfl k))
      show own_G (T748.setTop (mkF m 253 Ls [(.int (lcmpW y0 (0 : Int64)))]))
      refine up ?_ fun t k => XS.ifYes X748.here hx rfl (pc0 := 253) (pc' := 260) rfl (hb hby d3_253) rfl ((if0 _ _).trans (feq (fun q => (hB : ¬ (y0 = (0 : Int64))) ((lw_eq _ _).mp q))).2) (by decide) (by decide) k
      show own_G (T748.setTop (mkF m 260 Ls []))
      exact own_retV X748 hx hlk hret (hb hby d3_260) (by rw [e748]; exact ⟨rfl, N744, kq745, (own_StC ⟨Eq744, Fwq744, Flq744, Fpq744, Vq744⟩ g_r (own_cap4 y3) hB hA rfl)⟩) (by decide) (by decide)
theorem blB3 {p : Program} {l : Launch} {e : Env} {s : State} {m : MethodId} {args : Array Value} {below : List Frame} {meth : Method} {c : Code} {s₁ : State} {lc : List Loc} (Z : State) (a0 : Array Value) (hw : ∀ d ∈ tables_1, d.before a0 Z = true) (r : Addr) (kr : ClassId) (zc : Int32) (pw : Int32) (tl : List Value) (x0 : Int64) (x1 : Int64) (x2 : Int64) (h00 : Heap) (hi : Int64) (lo : Int64) (np : Int32) (of : Int32) (bs : Int32) (f : Int64) (g : Int64) (tt : Int64) (y0 : Int64) (y1 : Int64) (y2 : Int64) (h0 : Heap) (n0 : Nat) (Z0 : n0 ≤ h0.size) (O0 : own_O Z h0 a r kr zc (3 : Int32) pw ((.long x0) :: (.long x1) :: (.long x2) :: tl)) (g_a : n0 ≤ a) (g_r : n0 ≤ r) (hc : own_cap zc tl) (hsz : h00.size ≤ h0.size) (hy0 : ((x0 + f) + (0 : Int64)) = y0) (hy1 : ((x1 + g) + (own_co x0 f y0)) = y1) (hy2 : ((x2 + tt) + (own_co x1 g y1)) = y2) (htop : y2 = own_sg y1)
    (X0 : Stand p l e ({ frames := 5, cells := 2, slots := 8, locals := 150 } : Room) s m args below meth c s₁ lc 1 4) (hx : p.tables.exec = Jvm.exec) (hZ : Z.Warmed39 s.vm) (hby : c.code = prog_78_method_3_code) (hml : c.maxLocals = 20) (hown : s.vm.findClass "com/example/eventweir/eventweir/ExactSum" = some m.cls) (hlk : meth.locks = false) (hret : meth.sig.returnType = none) (e0 : s₁.heap = h0) (N0 : Fr n0 lc) :
    own_G (tb := p.tables) (e := e) (below := below) (s := s) (P := own_Q_add Z a y0 y1 pw h00 n0) (k := 2) (n := 8) (s₁.setTop (mkF m 106 #[oA a, oJ hi, oS, oJ lo, oS, oI np, oI of, oI (0 : Int32), oI bs, oJ f, oS, oJ g, oS, oJ tt, oS, oU, oU, oU, oU, oU] [])) := by
  obtain ⟨E_a, Fw, Fl, Fp, V⟩ := O0
  have ne_ar : a ≠ r := E_a.neArv V (hw _ (own_m 3 rfl))
  refine up ?_ fun t k => XS.aloadN X0.here hx rfl (hb hby d3_106) rfl rfl (XS.iload X0.here hx rfl (hb hby d3_107) rfl (XS.lload X0.here hx rfl (hb hby d3_109) rfl (XS.lconst X0.here hx rfl (hb hby d3_111) k)))
  show own_G (s₁.setTop (mkF m 112 #[oA a, oJ hi, oS, oJ lo, oS, oI np, oI of, oI (0 : Int32), oI bs, oJ f, oS, oJ g, oS, oJ tt, oS, oU, oU, oU, oU, oU] [(.long (0 : Int64)), (.long f), (.int (0 : Int32)), (.ref a)]))
  obtain ⟨cq750, q750, q750'⟩ := E_a.cell
  obtain ⟨_, _, ⟨T750, L750, k750, n750⟩, -, X750, ⟨Lc750, hQ750, l750, y750, z750⟩, st750⟩ := X0.privateBack hx (y := (⟨"com/example/eventweir/eventweir/ExactSum", "addAt", "(IJJ)J"⟩ : MethodName)) hown (mvT hZ (hw _ (own_m 41 rfl))) (mvT hZ (hw _ (own_m 42 rfl))) (own_sel (by decide) (mvT hZ (hw _ (own_m 42 rfl))) (mvP hZ (hw _ (own_m 43 rfl))) (mvT hZ (hw _ (own_m 3 rfl)))) (Cond.privateMethod_at (mvP hZ (hw _ (own_m 43 rfl)) (args := #[]))) (mvT hZ (hw _ (own_m 44 rfl))) (by decide) (backOf (W := 0) (rmad0 l Z a0 hw [] a f (0 : Int64) r kr zc pw tl x0 x1 x2 (3 : Int32) y0 h0 n0 Z0 ⟨E_a, Fw, Fl, Fp, V⟩ g_a g_r hc hy0) hZ (hw _ (own_m 44 rfl)) (hw _ (own_m 4 rfl)) (by decide) (by decide)) (g := (mkF m 112 #[oA a, oJ hi, oS, oJ lo, oS, oI np, oI of, oI (0 : Int32), oI bs, oJ f, oS, oJ g, oS, oJ tt, oS, oU, oU, oU, oU, oU] [(.long (0 : Int64)), (.long f), (.int (0 : Int32)), (.ref a)])) rfl (by rw [hml]; rfl) (Steps.refl _) (a := a) (by rw [e0]; exact q750) q750' (argsL := [(.int (0 : Int32)), (.long f), (.long (0 : Int64))]) (rest := []) (lenOf own_pd8 rfl) rfl (by show 2 * 0 + _ ≤ _; exact Nat.le_of_eq rfl) (hb hby d3_112) (fun _ _ => ⟨rfl, e0, (by decide : 1 + 0 ≤ _), (by decide : 4 + 0 ≤ _)⟩)
  dsimp only [Pt.U, Pt.locs, Pt.cells, Pt.slots] at X750 l750 y750 z750 st750 hQ750
  subst l750 y750 z750
  obtain ⟨rfl, Nq750, hsq750, Eq750, Fwq750, Flq750, Fpq750, Vq750⟩ := hQ750
  have N750 := Fr.app N0 Nq750
  have kq751 := Nat.le_trans hsz hsq750
  have Zs752 : n0 ≤ T750.heap.size := Nat.le_trans Z0 hsq750
  refine up ?_ (fun t k => st750.trans k)
  show own_G (T750.setTop (mkF m 115 #[oA a, oJ hi, oS, oJ lo, oS, oI np, oI of, oI (0 : Int32), oI bs, oJ f, oS, oJ g, oS, oJ tt, oS, oU, oU, oU, oU, oU] [(.long (own_co x0 f y0))]))
  refine up ?_ fun t k => XS.lstore X750.here hx rfl (hb hby d3_115) rfl (l' := #[oA a, oJ hi, oS, oJ lo, oS, oI np, oI of, oI (0 : Int32), oI bs, oJ f, oS, oJ g, oS, oJ tt, oS, oJ (own_co x0 f y0), oS, oU, oU, oU]) rfl (XS.aloadN X750.here hx rfl (hb hby d3_117) rfl rfl (XS.iload X750.here hx rfl (hb hby d3_118) rfl (XS.iconst X750.here hx rfl (hb hby d3_120) (XS.iadd X750.here hx rfl (hb hby d3_121) rfl (XS.lload X750.here hx rfl (hb hby d3_122) rfl (XS.lload X750.here hx rfl (hb hby d3_124) rfl k))))))
  show own_G (T750.setTop (mkF m 126 #[oA a, oJ hi, oS, oJ lo, oS, oI np, oI of, oI (0 : Int32), oI bs, oJ f, oS, oJ g, oS, oJ tt, oS, oJ (own_co x0 f y0), oS, oU, oU, oU] [(.long (own_co x0 f y0)), (.long g), (.int (1 : Int32)), (.ref a)]))
  obtain ⟨cq753, q753, q753'⟩ := Eq750.cell
  obtain ⟨_, _, ⟨T753, L753, k753, n753⟩, -, X753, ⟨Lc753, hQ753, l753, y753, z753⟩, st753⟩ := X750.privateBack hx (y := (⟨"com/example/eventweir/eventweir/ExactSum", "addAt", "(IJJ)J"⟩ : MethodName)) hown (mvT hZ (hw _ (own_m 41 rfl))) (mvT hZ (hw _ (own_m 42 rfl))) (own_sel (by decide) (mvT hZ (hw _ (own_m 42 rfl))) (mvP hZ (hw _ (own_m 43 rfl))) (mvT hZ (hw _ (own_m 3 rfl)))) (Cond.privateMethod_at (mvP hZ (hw _ (own_m 43 rfl)) (args := #[]))) (mvT hZ (hw _ (own_m 44 rfl))) (by decide) (backOf (W := 0) (rmad1 l Z a0 hw [] a g (own_co x0 f y0) r kr zc pw tl y0 x1 x2 (3 : Int32) y1 T750.heap n0 Zs752 ⟨Eq750, Fwq750, Flq750, Fpq750, Vq750⟩ g_a g_r hc hy1) hZ (hw _ (own_m 44 rfl)) (hw _ (own_m 4 rfl)) (by decide) (by decide)) (g := (mkF m 126 #[oA a, oJ hi, oS, oJ lo, oS, oI np, oI of, oI (0 : Int32), oI bs, oJ f, oS, oJ g, oS, oJ tt, oS, oJ (own_co x0 f y0), oS, oU, oU, oU] [(.long (own_co x0 f y0)), (.long g), (.int (1 : Int32)), (.ref a)])) rfl (by rw [hml]; rfl) (Steps.refl _) (a := a) q753 q753' (argsL := [(.int (1 : Int32)), (.long g), (.long (own_co x0 f y0))]) (rest := []) (lenOf own_pd8 rfl) rfl (by show 2 * 0 + _ ≤ _; exact Nat.le_of_eq rfl) (hb hby d3_126) (fun _ _ => ⟨rfl, rfl, (by decide : 1 + 0 ≤ _), (by decide : 4 + 0 ≤ _)⟩)
  dsimp only [Pt.U, Pt.locs, Pt.cells, Pt.slots] at X753 l753 y753 z753 st753 hQ753
  subst l753 y753 z753
  obtain ⟨rfl, Nq753, hsq753, Eq753, Fwq753, Flq753, Fpq753, Vq753⟩ := hQ753
  have N753 := Fr.app N750 Nq753
  have kq754 := Nat.le_trans kq751 hsq753
  have Zs755 : n0 ≤ T753.heap.size := Nat.le_trans Zs752 hsq753
  refine up ?_ (fun t k => st753.trans k)
  show own_G (T753.setTop (mkF m 129 #[oA a, oJ hi, oS, oJ lo, oS, oI np, oI of, oI (0 : Int32), oI bs, oJ f, oS, oJ g, oS, oJ tt, oS, oJ (own_co x0 f y0), oS, oU, oU, oU] [(.long (own_co x1 g y1))]))
  refine up ?_ fun t k => XS.lstore X753.here hx rfl (hb hby d3_129) rfl (l' := #[oA a, oJ hi, oS, oJ lo, oS, oI np, oI of, oI (0 : Int32), oI bs, oJ f, oS, oJ g, oS, oJ tt, oS, oJ (own_co x1 g y1), oS, oU, oU, oU]) rfl (XS.aloadN X753.here hx rfl (hb hby d3_131) rfl rfl (XS.iload X753.here hx rfl (hb hby d3_132) rfl (XS.iconst X753.here hx rfl (hb hby d3_134) (XS.iadd X753.here hx rfl (hb hby d3_135) rfl (XS.lload X753.here hx rfl (hb hby d3_136) rfl (XS.lload X753.here hx rfl (hb hby d3_138) rfl k))))))
  show own_G (T753.setTop (mkF m 140 #[oA a, oJ hi, oS, oJ lo, oS, oI np, oI of, oI (0 : Int32), oI bs, oJ f, oS, oJ g, oS, oJ tt, oS, oJ (own_co x1 g y1), oS, oU, oU, oU] [(.long (own_co x1 g y1)), (.long tt), (.int (2 : Int32)), (.ref a)]))
  obtain ⟨cq756, q756, q756'⟩ := Eq753.cell
  obtain ⟨_, _, ⟨T756, L756, k756, n756⟩, -, X756, ⟨Lc756, hQ756, l756, y756, z756⟩, st756⟩ := X753.privateBack hx (y := (⟨"com/example/eventweir/eventweir/ExactSum", "addAt", "(IJJ)J"⟩ : MethodName)) hown (mvT hZ (hw _ (own_m 41 rfl))) (mvT hZ (hw _ (own_m 42 rfl))) (own_sel (by decide) (mvT hZ (hw _ (own_m 42 rfl))) (mvP hZ (hw _ (own_m 43 rfl))) (mvT hZ (hw _ (own_m 3 rfl)))) (Cond.privateMethod_at (mvP hZ (hw _ (own_m 43 rfl)) (args := #[]))) (mvT hZ (hw _ (own_m 44 rfl))) (by decide) (backOf (W := 0) (rmad2 l Z a0 hw [] a tt (own_co x1 g y1) r kr zc pw tl y0 y1 x2 (3 : Int32) y2 T753.heap n0 Zs755 ⟨Eq753, Fwq753, Flq753, Fpq753, Vq753⟩ g_a g_r hc hy2) hZ (hw _ (own_m 44 rfl)) (hw _ (own_m 4 rfl)) (by decide) (by decide)) (g := (mkF m 140 #[oA a, oJ hi, oS, oJ lo, oS, oI np, oI of, oI (0 : Int32), oI bs, oJ f, oS, oJ g, oS, oJ tt, oS, oJ (own_co x1 g y1), oS, oU, oU, oU] [(.long (own_co x1 g y1)), (.long tt), (.int (2 : Int32)), (.ref a)])) rfl (by rw [hml]; rfl) (Steps.refl _) (a := a) q756 q756' (argsL := [(.int (2 : Int32)), (.long tt), (.long (own_co x1 g y1))]) (rest := []) (lenOf own_pd8 rfl) rfl (by show 2 * 0 + _ ≤ _; exact Nat.le_of_eq rfl) (hb hby d3_140) (fun _ _ => ⟨rfl, rfl, (by decide : 1 + 0 ≤ _), (by decide : 4 + 0 ≤ _)⟩)
  dsimp only [Pt.U, Pt.locs, Pt.cells, Pt.slots] at X756 l756 y756 z756 st756 hQ756
  subst l756 y756 z756
  obtain ⟨rfl, Nq756, hsq756, Eq756, Fwq756, Flq756, Fpq756, Vq756⟩ := hQ756
  have N756 := Fr.app N753 Nq756
  have kq757 := Nat.le_trans kq754 hsq756
  have Zs758 : n0 ≤ T756.heap.size := Nat.le_trans Zs755 hsq756
  refine up ?_ (fun t k => st756.trans k)
  show own_G (T756.setTop (mkF m 143 #[oA a, oJ hi, oS, oJ lo, oS, oI np, oI of, oI (0 : Int32), oI bs, oJ f, oS, oJ g, oS, oJ tt, oS, oJ (own_co x1 g y1), oS, oU, oU, oU] [(.long (own_co x2 tt y2))]))
  refine up ?_ fun t k => XS.lstore X756.here hx rfl (hb hby d3_143) rfl (l' := #[oA a, oJ hi, oS, oJ lo, oS, oI np, oI of, oI (0 : Int32), oI bs, oJ f, oS, oJ g, oS, oJ tt, oS, oJ (own_co x2 tt y2), oS, oU, oU, oU]) rfl (XS.lload X756.here hx rfl (hb hby d3_145) rfl (XS.bipush X756.here hx rfl (hb hby d3_147) (XS.lshr X756.here hx rfl (hb hby d3_149) rfl k)))
  show own_G (T756.setTop (mkF m 150 #[oA a, oJ hi, oS, oJ lo, oS, oI np, oI of, oI (0 : Int32), oI bs, oJ f, oS, oJ g, oS, oJ tt, oS, oJ (own_co x2 tt y2), oS, oU, oU, oU] [(.long (tt >>> ((63 : Int32) &&& 0x3f).toInt64))]))
  show own_G (T756.setTop (mkF m 150 #[oA a, oJ hi, oS, oJ lo, oS, oI np, oI of, oI (0 : Int32), oI bs, oJ f, oS, oJ g, oS, oJ tt, oS, oJ (own_co x2 tt y2), oS, oU, oU, oU] [(.long (own_sg tt))]))
  refine up ?_ fun t k => XS.lstore X756.here hx rfl (hb hby d3_150) rfl (l' := #[oA a, oJ hi, oS, oJ lo, oS, oI np, oI of, oI (0 : Int32), oI bs, oJ f, oS, oJ g, oS, oJ tt, oS, oJ (own_co x2 tt y2), oS, oJ (own_sg tt), oS, oU]) rfl (XS.iload X756.here hx rfl (hb hby d3_152) rfl (XS.iconst X756.here hx rfl (hb hby d3_154) (XS.iadd X756.here hx rfl (hb hby d3_155) rfl (XS.istore X756.here hx rfl (hb hby d3_156) rfl (l' := #[oA a, oJ hi, oS, oJ lo, oS, oI np, oI of, oI (0 : Int32), oI bs, oJ f, oS, oJ g, oS, oJ tt, oS, oJ (own_co x2 tt y2), oS, oJ (own_sg tt), oS, oI (3 : Int32)]) rfl (XS.iload X756.here hx rfl (hb hby d3_158) rfl (XS.aloadN X756.here hx rfl (hb hby d3_160) rfl rfl k))))))
  show own_G (T756.setTop (mkF m 161 #[oA a, oJ hi, oS, oJ lo, oS, oI np, oI of, oI (0 : Int32), oI bs, oJ f, oS, oJ g, oS, oJ tt, oS, oJ (own_co x2 tt y2), oS, oJ (own_sg tt), oS, oI (3 : Int32)] [(.ref a), (.int (3 : Int32))]))
  obtain ⟨T759, X759, e759, st759⟩ := getF X756 hx hZ hown (host := "") (Or.inl (hw _ (own_m 20 rfl))) Via.refl rfl Flq756 (g := (mkF m 161 #[oA a, oJ hi, oS, oJ lo, oS, oI np, oI of, oI (0 : Int32), oI bs, oJ f, oS, oJ g, oS, oJ tt, oS, oJ (own_co x2 tt y2), oS, oJ (own_sg tt), oS, oI (3 : Int32)] [(.ref a), (.int (3 : Int32))])) rfl rfl (hb hby d3_161)
  refine up ?_ st759
  show own_G (T759.setTop (mkF m 164 #[oA a, oJ hi, oS, oJ lo, oS, oI np, oI of, oI (0 : Int32), oI bs, oJ f, oS, oJ g, oS, oJ tt, oS, oJ (own_co x2 tt y2), oS, oJ (own_sg tt), oS, oI (3 : Int32)] [(.int (3 : Int32)), (.int (3 : Int32))]))
  refine up ?_ fun t k => XS.icmpYes X759.here hx rfl (pc0 := 164) (pc' := 195) rfl (hb hby d3_164) rfl (flt (by decide : ¬ ((3 : Int32) < (3 : Int32)))).2.1 (by decide) (by decide) k
  show own_G (T759.setTop (mkF m 195 #[oA a, oJ hi, oS, oJ lo, oS, oI np, oI of, oI (0 : Int32), oI bs, oJ f, oS, oJ g, oS, oJ tt, oS, oJ (own_co x2 tt y2), oS, oJ (own_sg tt), oS, oI (3 : Int32)] []))
  exact blR3 Z a0 hw r kr zc pw tl y0 y1 y2 h00 _ T756.heap n0 Zs758 ⟨Eq756, Fwq756, Flq756, Fpq756, Vq756⟩ g_a g_r hc kq757 htop X759 hx hZ hby hml hown hlk hret e759 N756 rfl rfl
theorem blB4 {p : Program} {l : Launch} {e : Env} {s : State} {m : MethodId} {args : Array Value} {below : List Frame} {meth : Method} {c : Code} {s₁ : State} {lc : List Loc} (Z : State) (a0 : Array Value) (hw : ∀ d ∈ tables_1, d.before a0 Z = true) (r : Addr) (kr : ClassId) (pw : Int32) (x0 : Int64) (x1 : Int64) (x2 : Int64) (x3 : Int64) (h00 : Heap) (hi : Int64) (lo : Int64) (np : Int32) (of : Int32) (bs : Int32) (f : Int64) (g : Int64) (tt : Int64) (y0 : Int64) (y1 : Int64) (y2 : Int64) (y3 : Int64) (h0 : Heap) (n0 : Nat) (Z0 : n0 ≤ h0.size) (O0 : own_O Z h0 a r kr (4 : Int32) (4 : Int32) pw [(.long x0), (.long x1), (.long x2), (.long x3)]) (g_a : n0 ≤ a) (g_r : n0 ≤ r) (hsz : h00.size ≤ h0.size) (hy0 : ((x0 + f) + (0 : Int64)) = y0) (hy1 : ((x1 + g) + (own_co x0 f y0)) = y1) (hy2 : ((x2 + tt) + (own_co x1 g y1)) = y2) (hy3 : ((x3 + (own_sg tt)) + (own_co x2 tt y2)) = y3) (htop : y2 = own_sg y1) (htop3 : y3 = own_sg y2)
    (X0 : Stand p l e ({ frames := 5, cells := 2, slots := 8, locals := 150 } : Room) s m args below meth c s₁ lc 1 4) (hx : p.tables.exec = Jvm.exec) (hZ : Z.Warmed39 s.vm) (hby : c.code = prog_78_method_3_code) (hml : c.maxLocals = 20) (hown : s.vm.findClass "com/example/eventweir/eventweir/ExactSum" = some m.cls) (hlk : meth.locks = false) (hret : meth.sig.returnType = none) (e0 : s₁.heap = h0) (N0 : Fr n0 lc) :
    own_G (tb := p.tables) (e := e) (below := below) (s := s) (P := own_Q_add Z a y0 y1 pw h00 n0) (k := 2) (n := 8) (s₁.setTop (mkF m 106 #[oA a, oJ hi, oS, oJ lo, oS, oI np, oI of, oI (0 : Int32), oI bs, oJ f, oS, oJ g, oS, oJ tt, oS, oU, oU, oU, oU, oU] [])) := by
  obtain ⟨E_a, Fw, Fl, Fp, V⟩ := O0
  have ne_ar : a ≠ r := E_a.neArv V (hw _ (own_m 3 rfl))
  refine up ?_ fun t k => XS.aloadN X0.here hx rfl (hb hby d3_106) rfl rfl (XS.iload X0.here hx rfl (hb hby d3_107) rfl (XS.lload X0.here hx rfl (hb hby d3_109) rfl (XS.lconst X0.here hx rfl (hb hby d3_111) k)))
  show own_G (s₁.setTop (mkF m 112 #[oA a, oJ hi, oS, oJ lo, oS, oI np, oI of, oI (0 : Int32), oI bs, oJ f, oS, oJ g, oS, oJ tt, oS, oU, oU, oU, oU, oU] [(.long (0 : Int64)), (.long f), (.int (0 : Int32)), (.ref a)]))
  obtain ⟨cq760, q760, q760'⟩ := E_a.cell
  obtain ⟨_, _, ⟨T760, L760, k760, n760⟩, -, X760, ⟨Lc760, hQ760, l760, y760, z760⟩, st760⟩ := X0.privateBack hx (y := (⟨"com/example/eventweir/eventweir/ExactSum", "addAt", "(IJJ)J"⟩ : MethodName)) hown (mvT hZ (hw _ (own_m 41 rfl))) (mvT hZ (hw _ (own_m 42 rfl))) (own_sel (by decide) (mvT hZ (hw _ (own_m 42 rfl))) (mvP hZ (hw _ (own_m 43 rfl))) (mvT hZ (hw _ (own_m 3 rfl)))) (Cond.privateMethod_at (mvP hZ (hw _ (own_m 43 rfl)) (args := #[]))) (mvT hZ (hw _ (own_m 44 rfl))) (by decide) (backOf (W := 0) (rmad0 l Z a0 hw [] a f (0 : Int64) r kr (4 : Int32) pw [(.long x3)] x0 x1 x2 (4 : Int32) y0 h0 n0 Z0 ⟨E_a, Fw, Fl, Fp, V⟩ g_a g_r (own_cap4 x3) hy0) hZ (hw _ (own_m 44 rfl)) (hw _ (own_m 4 rfl)) (by decide) (by decide)) (g := (mkF m 112 #[oA a, oJ hi, oS, oJ lo, oS, oI np, oI of, oI (0 : Int32), oI bs, oJ f, oS, oJ g, oS, oJ tt, oS, oU, oU, oU, oU, oU] [(.long (0 : Int64)), (.long f), (.int (0 : Int32)), (.ref a)])) rfl (by rw [hml]; rfl) (Steps.refl _) (a := a) (by rw [e0]; exact q760) q760' (argsL := [(.int (0 : Int32)), (.long f), (.long (0 : Int64))]) (rest := []) (lenOf own_pd8 rfl) rfl (by show 2 * 0 + _ ≤ _; exact Nat.le_of_eq rfl) (hb hby d3_112) (fun _ _ => ⟨rfl, e0, (by decide : 1 + 0 ≤ _), (by decide : 4 + 0 ≤ _)⟩)
  dsimp only [Pt.U, Pt.locs, Pt.cells, Pt.slots] at X760 l760 y760 z760 st760 hQ760
  subst l760 y760 z760
  obtain ⟨rfl, Nq760, hsq760, Eq760, Fwq760, Flq760, Fpq760, Vq760⟩ := hQ760
  have N760 := Fr.app N0 Nq760
  have kq761 := Nat.le_trans hsz hsq760
  have Zs762 : n0 ≤ T760.heap.size := Nat.le_trans Z0 hsq760
  refine up ?_ (fun t k => st760.trans k)
  show own_G (T760.setTop (mkF m 115 #[oA a, oJ hi, oS, oJ lo, oS, oI np, oI of, oI (0 : Int32), oI bs, oJ f, oS, oJ g, oS, oJ tt, oS, oU, oU, oU, oU, oU] [(.long (own_co x0 f y0))]))
  refine up ?_ fun t k => XS.lstore X760.here hx rfl (hb hby d3_115) rfl (l' := #[oA a, oJ hi, oS, oJ lo, oS, oI np, oI of, oI (0 : Int32), oI bs, oJ f, oS, oJ g, oS, oJ tt, oS, oJ (own_co x0 f y0), oS, oU, oU, oU]) rfl (XS.aloadN X760.here hx rfl (hb hby d3_117) rfl rfl (XS.iload X760.here hx rfl (hb hby d3_118) rfl (XS.iconst X760.here hx rfl (hb hby d3_120) (XS.iadd X760.here hx rfl (hb hby d3_121) rfl (XS.lload X760.here hx rfl (hb hby d3_122) rfl (XS.lload X760.here hx rfl (hb hby d3_124) rfl k))))))
  show own_G (T760.setTop (mkF m 126 #[oA a, oJ hi, oS, oJ lo, oS, oI np, oI of, oI (0 : Int32), oI bs, oJ f, oS, oJ g, oS, oJ tt, oS, oJ (own_co x0 f y0), oS, oU, oU, oU] [(.long (own_co x0 f y0)), (.long g), (.int (1 : Int32)), (.ref a)]))
  obtain ⟨cq763, q763, q763'⟩ := Eq760.cell
  obtain ⟨_, _, ⟨T763, L763, k763, n763⟩, -, X763, ⟨Lc763, hQ763, l763, y763, z763⟩, st763⟩ := X760.privateBack hx (y := (⟨"com/example/eventweir/eventweir/ExactSum", "addAt", "(IJJ)J"⟩ : MethodName)) hown (mvT hZ (hw _ (own_m 41 rfl))) (mvT hZ (hw _ (own_m 42 rfl))) (own_sel (by decide) (mvT hZ (hw _ (own_m 42 rfl))) (mvP hZ (hw _ (own_m 43 rfl))) (mvT hZ (hw _ (own_m 3 rfl)))) (Cond.privateMethod_at (mvP hZ (hw _ (own_m 43 rfl)) (args := #[]))) (mvT hZ (hw _ (own_m 44 rfl))) (by decide) (backOf (W := 0) (rmad1 l Z a0 hw [] a g (own_co x0 f y0) r kr (4 : Int32) pw [(.long x3)] y0 x1 x2 (4 : Int32) y1 T760.heap n0 Zs762 ⟨Eq760, Fwq760, Flq760, Fpq760, Vq760⟩ g_a g_r (own_cap4 x3) hy1) hZ (hw _ (own_m 44 rfl)) (hw _ (own_m 4 rfl)) (by decide) (by decide)) (g := (mkF m 126 #[oA a, oJ hi, oS, oJ lo, oS, oI np, oI of, oI (0 : Int32), oI bs, oJ f, oS, oJ g, oS, oJ tt, oS, oJ (own_co x0 f y0), oS, oU, oU, oU] [(.long (own_co x0 f y0)), (.long g), (.int (1 : Int32)), (.ref a)])) rfl (by rw [hml]; rfl) (Steps.refl _) (a := a) q763 q763' (argsL := [(.int (1 : Int32)), (.long g), (.long (own_co x0 f y0))]) (rest := []) (lenOf own_pd8 rfl) rfl (by show 2 * 0 + _ ≤ _; exact Nat.le_of_eq rfl) (hb hby d3_126) (fun _ _ => ⟨rfl, rfl, (by decide : 1 + 0 ≤ _), (by decide : 4 + 0 ≤ _)⟩)
  dsimp only [Pt.U, Pt.locs, Pt.cells, Pt.slots] at X763 l763 y763 z763 st763 hQ763
  subst l763 y763 z763
  obtain ⟨rfl, Nq763, hsq763, Eq763, Fwq763, Flq763, Fpq763, Vq763⟩ := hQ763
  have N763 := Fr.app N760 Nq763
  have kq764 := Nat.le_trans kq761 hsq763
  have Zs765 : n0 ≤ T763.heap.size := Nat.le_trans Zs762 hsq763
  refine up ?_ (fun t k => st763.trans k)
  show own_G (T763.setTop (mkF m 129 #[oA a, oJ hi, oS, oJ lo, oS, oI np, oI of, oI (0 : Int32), oI bs, oJ f, oS, oJ g, oS, oJ tt, oS, oJ (own_co x0 f y0), oS, oU, oU, oU] [(.long (own_co x1 g y1))]))
  refine up ?_ fun t k => XS.lstore X763.here hx rfl (hb hby d3_129) rfl (l' := #[oA a, oJ hi, oS, oJ lo, oS, oI np, oI of, oI (0 : Int32), oI bs, oJ f, oS, oJ g, oS, oJ tt, oS, oJ (own_co x1 g y1), oS, oU, oU, oU]) rfl (XS.aloadN X763.here hx rfl (hb hby d3_131) rfl rfl (XS.iload X763.here hx rfl (hb hby d3_132) rfl (XS.iconst X763.here hx rfl (hb hby d3_134) (XS.iadd X763.here hx rfl (hb hby d3_135) rfl (XS.lload X763.here hx rfl (hb hby d3_136) rfl (XS.lload X763.here hx rfl (hb hby d3_138) rfl k))))))
  show own_G (T763.setTop (mkF m 140 #[oA a, oJ hi, oS, oJ lo, oS, oI np, oI of, oI (0 : Int32), oI bs, oJ f, oS, oJ g, oS, oJ tt, oS, oJ (own_co x1 g y1), oS, oU, oU, oU] [(.long (own_co x1 g y1)), (.long tt), (.int (2 : Int32)), (.ref a)]))
  obtain ⟨cq766, q766, q766'⟩ := Eq763.cell
  obtain ⟨_, _, ⟨T766, L766, k766, n766⟩, -, X766, ⟨Lc766, hQ766, l766, y766, z766⟩, st766⟩ := X763.privateBack hx (y := (⟨"com/example/eventweir/eventweir/ExactSum", "addAt", "(IJJ)J"⟩ : MethodName)) hown (mvT hZ (hw _ (own_m 41 rfl))) (mvT hZ (hw _ (own_m 42 rfl))) (own_sel (by decide) (mvT hZ (hw _ (own_m 42 rfl))) (mvP hZ (hw _ (own_m 43 rfl))) (mvT hZ (hw _ (own_m 3 rfl)))) (Cond.privateMethod_at (mvP hZ (hw _ (own_m 43 rfl)) (args := #[]))) (mvT hZ (hw _ (own_m 44 rfl))) (by decide) (backOf (W := 0) (rmad2 l Z a0 hw [] a tt (own_co x1 g y1) r kr (4 : Int32) pw [(.long x3)] y0 y1 x2 (4 : Int32) y2 T763.heap n0 Zs765 ⟨Eq763, Fwq763, Flq763, Fpq763, Vq763⟩ g_a g_r (own_cap4 x3) hy2) hZ (hw _ (own_m 44 rfl)) (hw _ (own_m 4 rfl)) (by decide) (by decide)) (g := (mkF m 140 #[oA a, oJ hi, oS, oJ lo, oS, oI np, oI of, oI (0 : Int32), oI bs, oJ f, oS, oJ g, oS, oJ tt, oS, oJ (own_co x1 g y1), oS, oU, oU, oU] [(.long (own_co x1 g y1)), (.long tt), (.int (2 : Int32)), (.ref a)])) rfl (by rw [hml]; rfl) (Steps.refl _) (a := a) q766 q766' (argsL := [(.int (2 : Int32)), (.long tt), (.long (own_co x1 g y1))]) (rest := []) (lenOf own_pd8 rfl) rfl (by show 2 * 0 + _ ≤ _; exact Nat.le_of_eq rfl) (hb hby d3_140) (fun _ _ => ⟨rfl, rfl, (by decide : 1 + 0 ≤ _), (by decide : 4 + 0 ≤ _)⟩)
  dsimp only [Pt.U, Pt.locs, Pt.cells, Pt.slots] at X766 l766 y766 z766 st766 hQ766
  subst l766 y766 z766
  obtain ⟨rfl, Nq766, hsq766, Eq766, Fwq766, Flq766, Fpq766, Vq766⟩ := hQ766
  have N766 := Fr.app N763 Nq766
  have kq767 := Nat.le_trans kq764 hsq766
  have Zs768 : n0 ≤ T766.heap.size := Nat.le_trans Zs765 hsq766
  refine up ?_ (fun t k => st766.trans k)
  show own_G (T766.setTop (mkF m 143 #[oA a, oJ hi, oS, oJ lo, oS, oI np, oI of, oI (0 : Int32), oI bs, oJ f, oS, oJ g, oS, oJ tt, oS, oJ (own_co x1 g y1), oS, oU, oU, oU] [(.long (own_co x2 tt y2))]))
  refine up ?_ fun t k => XS.lstore X766.here hx rfl (hb hby d3_143) rfl (l' := #[oA a, oJ hi, oS, oJ lo, oS, oI np, oI of, oI (0 : Int32), oI bs, oJ f, oS, oJ g, oS, oJ tt, oS, oJ (own_co x2 tt y2), oS, oU, oU, oU]) rfl (XS.lload X766.here hx rfl (hb hby d3_145) rfl (XS.bipush X766.here hx rfl (hb hby d3_147) (XS.lshr X766.here hx rfl (hb hby d3_149) rfl k)))
  show own_G (T766.setTop (mkF m 150 #[oA a, oJ hi, oS, oJ lo, oS, oI np, oI of, oI (0 : Int32), oI bs, oJ f, oS, oJ g, oS, oJ tt, oS, oJ (own_co x2 tt y2), oS, oU, oU, oU] [(.long (tt >>> ((63 : Int32) &&& 0x3f).toInt64))]))
  show own_G (T766.setTop (mkF m 150 #[oA a, oJ hi, oS, oJ lo, oS, oI np, oI of, oI (0 : Int32), oI bs, oJ f, oS, oJ g, oS, oJ tt, oS, oJ (own_co x2 tt y2), oS, oU, oU, oU] [(.long (own_sg tt))]))
  refine up ?_ fun t k => XS.lstore X766.here hx rfl (hb hby d3_150) rfl (l' := #[oA a, oJ hi, oS, oJ lo, oS, oI np, oI of, oI (0 : Int32), oI bs, oJ f, oS, oJ g, oS, oJ tt, oS, oJ (own_co x2 tt y2), oS, oJ (own_sg tt), oS, oU]) rfl (XS.iload X766.here hx rfl (hb hby d3_152) rfl (XS.iconst X766.here hx rfl (hb hby d3_154) (XS.iadd X766.here hx rfl (hb hby d3_155) rfl (XS.istore X766.here hx rfl (hb hby d3_156) rfl (l' := #[oA a, oJ hi, oS, oJ lo, oS, oI np, oI of, oI (0 : Int32), oI bs, oJ f, oS, oJ g, oS, oJ tt, oS, oJ (own_co x2 tt y2), oS, oJ (own_sg tt), oS, oI (3 : Int32)]) rfl (XS.iload X766.here hx rfl (hb hby d3_158) rfl (XS.aloadN X766.here hx rfl (hb hby d3_160) rfl rfl k))))))
  show own_G (T766.setTop (mkF m 161 #[oA a, oJ hi, oS, oJ lo, oS, oI np, oI of, oI (0 : Int32), oI bs, oJ f, oS, oJ g, oS, oJ tt, oS, oJ (own_co x2 tt y2), oS, oJ (own_sg tt), oS, oI (3 : Int32)] [(.ref a), (.int (3 : Int32))]))
  obtain ⟨T769, X769, e769, st769⟩ := getF X766 hx hZ hown (host := "") (Or.inl (hw _ (own_m 20 rfl))) Via.refl rfl Flq766 (g := (mkF m 161 #[oA a, oJ hi, oS, oJ lo, oS, oI np, oI of, oI (0 : Int32), oI bs, oJ f, oS, oJ g, oS, oJ tt, oS, oJ (own_co x2 tt y2), oS, oJ (own_sg tt), oS, oI (3 : Int32)] [(.ref a), (.int (3 : Int32))])) rfl rfl (hb hby d3_161)
  refine up ?_ st769
  show own_G (T769.setTop (mkF m 164 #[oA a, oJ hi, oS, oJ lo, oS, oI np, oI of, oI (0 : Int32), oI bs, oJ f, oS, oJ g, oS, oJ tt, oS, oJ (own_co x2 tt y2), oS, oJ (own_sg tt), oS, oI (3 : Int32)] [(.int (4 : Int32)), (.int (3 : Int32))]))
  refine up ?_ fun t k => XS.icmpNo X769.here hx rfl (hb hby d3_164) rfl (tlt (by decide : ((3 : Int32) < (4 : Int32)))).2.1 (XS.lload X769.here hx rfl (hb hby d3_167) rfl (XS.lload X769.here hx rfl (hb hby d3_169) rfl (XS.ladd X769.here hx rfl (hb hby d3_171) rfl (XS.lconst X769.here hx rfl (hb hby d3_172) (XS.lcmp X769.here hx rfl (hb hby d3_173) rfl k)))))
  show own_G (T769.setTop (mkF m 174 #[oA a, oJ hi, oS, oJ lo, oS, oI np, oI of, oI (0 : Int32), oI bs, oJ f, oS, oJ g, oS, oJ tt, oS, oJ (own_co x2 tt y2), oS, oJ (own_sg tt), oS, oI (3 : Int32)] [(.int (lcmpW ((own_sg tt) + (own_co x2 tt y2)) (0 : Int64)))]))
  by_cases hc174_770 : ((own_sg tt) + (own_co x2 tt y2)) = (0 : Int64)
  · refine up ?_ fun t k => XS.ifYes X769.here hx rfl (pc0 := 174) (pc' := 195) rfl (hb hby d3_174) rfl ((if0 _ _).trans (teq ((lw_eq _ _).mpr hc174_770)).1) (by decide) (by decide) k
    show own_G (T769.setTop (mkF m 195 #[oA a, oJ hi, oS, oJ lo, oS, oI np, oI of, oI (0 : Int32), oI bs, oJ f, oS, oJ g, oS, oJ tt, oS, oJ (own_co x2 tt y2), oS, oJ (own_sg tt), oS, oI (3 : Int32)] []))
    have hx3 := own_skip hy3 hc174_770
    rw [hx3] at Vq766
    exact blR4 Z a0 hw r kr pw y0 y1 y2 y3 h00 _ T766.heap n0 Zs768 ⟨Eq766, Fwq766, Flq766, Fpq766, Vq766⟩ g_a g_r kq767 htop htop3 X769 hx hZ hby hml hown hlk hret e769 N766 rfl rfl
  · refine up ?_ fun t k => XS.ifNo X769.here hx rfl (hb hby d3_174) rfl ((if0 _ _).trans (feq (fun q => hc174_770 ((lw_eq _ _).mp q))).1) (XS.aloadN X769.here hx rfl (hb hby d3_177) rfl rfl (XS.iload X769.here hx rfl (hb hby d3_178) rfl (XS.lload X769.here hx rfl (hb hby d3_180) rfl (XS.lload X769.here hx rfl (hb hby d3_182) rfl k))))
    show own_G (T769.setTop (mkF m 184 #[oA a, oJ hi, oS, oJ lo, oS, oI np, oI of, oI (0 : Int32), oI bs, oJ f, oS, oJ g, oS, oJ tt, oS, oJ (own_co x2 tt y2), oS, oJ (own_sg tt), oS, oI (3 : Int32)] [(.long (own_co x2 tt y2)), (.long (own_sg tt)), (.int (3 : Int32)), (.ref a)]))
    obtain ⟨cq771, q771, q771'⟩ := Eq766.cell
    obtain ⟨_, _, ⟨T771, L771, k771, n771⟩, -, X771, ⟨Lc771, hQ771, l771, y771, z771⟩, st771⟩ := X769.privateBack hx (y := (⟨"com/example/eventweir/eventweir/ExactSum", "addAt", "(IJJ)J"⟩ : MethodName)) hown (mvT hZ (hw _ (own_m 41 rfl))) (mvT hZ (hw _ (own_m 42 rfl))) (own_sel (by decide) (mvT hZ (hw _ (own_m 42 rfl))) (mvP hZ (hw _ (own_m 43 rfl))) (mvT hZ (hw _ (own_m 3 rfl)))) (Cond.privateMethod_at (mvP hZ (hw _ (own_m 43 rfl)) (args := #[]))) (mvT hZ (hw _ (own_m 44 rfl))) (by decide) (backOf (W := 0) (rmad3 l Z a0 hw [] a (own_sg tt) (own_co x2 tt y2) r kr pw y0 y1 y2 x3 (4 : Int32) y3 T766.heap n0 Zs768 ⟨Eq766, Fwq766, Flq766, Fpq766, Vq766⟩ g_a g_r hy3) hZ (hw _ (own_m 44 rfl)) (hw _ (own_m 4 rfl)) (by decide) (by decide)) (g := (mkF m 184 #[oA a, oJ hi, oS, oJ lo, oS, oI np, oI of, oI (0 : Int32), oI bs, oJ f, oS, oJ g, oS, oJ tt, oS, oJ (own_co x2 tt y2), oS, oJ (own_sg tt), oS, oI (3 : Int32)] [(.long (own_co x2 tt y2)), (.long (own_sg tt)), (.int (3 : Int32)), (.ref a)])) rfl (by rw [hml]; rfl) (Steps.refl _) (a := a) (by rw [e769]; exact q771) q771' (argsL := [(.int (3 : Int32)), (.long (own_sg tt)), (.long (own_co x2 tt y2))]) (rest := []) (lenOf own_pd8 rfl) rfl (by show 2 * 0 + _ ≤ _; exact Nat.le_of_eq rfl) (hb hby d3_184) (fun _ _ => ⟨rfl, e769, (by decide : 1 + 0 ≤ _), (by decide : 4 + 0 ≤ _)⟩)
    dsimp only [Pt.U, Pt.locs, Pt.cells, Pt.slots] at X771 l771 y771 z771 st771 hQ771
    subst l771 y771 z771
    obtain ⟨rfl, Nq771, hsq771, Eq771, Fwq771, Flq771, Fpq771, Vq771⟩ := hQ771
    have N771 := Fr.app N766 Nq771
    have kq772 := Nat.le_trans kq767 hsq771
    have Zs773 : n0 ≤ T771.heap.size := Nat.le_trans Zs768 hsq771
    refine up ?_ (fun t k => st771.trans k)
    show own_G (T771.setTop (mkF m 187 #[oA a, oJ hi, oS, oJ lo, oS, oI np, oI of, oI (0 : Int32), oI bs, oJ f, oS, oJ g, oS, oJ tt, oS, oJ (own_co x2 tt y2), oS, oJ (own_sg tt), oS, oI (3 : Int32)] [(.long (own_co x3 (own_sg tt) y3))]))
    refine up ?_ fun t k => XS.lstore X771.here hx rfl (hb hby d3_187) rfl (l' := #[oA a, oJ hi, oS, oJ lo, oS, oI np, oI of, oI (0 : Int32), oI bs, oJ f, oS, oJ g, oS, oJ tt, oS, oJ (own_co x3 (own_sg tt) y3), oS, oJ (own_sg tt), oS, oI (3 : Int32)]) rfl (XS.iinc X771.here hx rfl (hb hby d3_189) rfl (l' := #[oA a, oJ hi, oS, oJ lo, oS, oI np, oI of, oI (0 : Int32), oI bs, oJ f, oS, oJ g, oS, oJ tt, oS, oJ (own_co x3 (own_sg tt) y3), oS, oJ (own_sg tt), oS, oI (4 : Int32)]) rfl (XS.goto X771.here hx rfl (pc0 := 192) (pc' := 158) rfl (hb hby d3_192) (by decide) (by decide) (XS.iload X771.here hx rfl (hb hby d3_158) rfl (XS.aloadN X771.here hx rfl (hb hby d3_160) rfl rfl k))))
    show own_G (T771.setTop (mkF m 161 #[oA a, oJ hi, oS, oJ lo, oS, oI np, oI of, oI (0 : Int32), oI bs, oJ f, oS, oJ g, oS, oJ tt, oS, oJ (own_co x3 (own_sg tt) y3), oS, oJ (own_sg tt), oS, oI (4 : Int32)] [(.ref a), (.int (4 : Int32))]))
    obtain ⟨T774, X774, e774, st774⟩ := getF X771 hx hZ hown (host := "") (Or.inl (hw _ (own_m 20 rfl))) Via.refl rfl Flq771 (g := (mkF m 161 #[oA a, oJ hi, oS, oJ lo, oS, oI np, oI of, oI (0 : Int32), oI bs, oJ f, oS, oJ g, oS, oJ tt, oS, oJ (own_co x3 (own_sg tt) y3), oS, oJ (own_sg tt), oS, oI (4 : Int32)] [(.ref a), (.int (4 : Int32))])) rfl rfl (hb hby d3_161)
    refine up ?_ st774
    show own_G (T774.setTop (mkF m 164 #[oA a, oJ hi, oS, oJ lo, oS, oI np, oI of, oI (0 : Int32), oI bs, oJ f, oS, oJ g, oS, oJ tt, oS, oJ (own_co x3 (own_sg tt) y3), oS, oJ (own_sg tt), oS, oI (4 : Int32)] [(.int (4 : Int32)), (.int (4 : Int32))]))
    refine up ?_ fun t k => XS.icmpYes X774.here hx rfl (pc0 := 164) (pc' := 195) rfl (hb hby d3_164) rfl (flt (by decide : ¬ ((4 : Int32) < (4 : Int32)))).2.1 (by decide) (by decide) k
    show own_G (T774.setTop (mkF m 195 #[oA a, oJ hi, oS, oJ lo, oS, oI np, oI of, oI (0 : Int32), oI bs, oJ f, oS, oJ g, oS, oJ tt, oS, oJ (own_co x3 (own_sg tt) y3), oS, oJ (own_sg tt), oS, oI (4 : Int32)] []))
    exact blR4 Z a0 hw r kr pw y0 y1 y2 y3 h00 _ T771.heap n0 Zs773 ⟨Eq771, Fwq771, Flq771, Fpq771, Vq771⟩ g_a g_r kq772 htop htop3 X774 hx hZ hby hml hown hlk hret e774 N771 rfl rfl
theorem own_ef_rma0c (m : MethodId) (x0 : Addr) (x1 : Int64) (x2 : Int64) (x3 : Int32) : entryFrame m #[(.ref x0), (.long x1), (.long x2), (.int x3)] 20 = mkF m 0 #[oA x0, oJ x1, .second, oJ x2, .second, oI x3, .unset, .unset, .unset, .unset, .unset, .unset, .unset, .unset, .unset, .unset, .unset, .unset, .unset, .unset] [] := by first | (simp [entryFrame, mkF, argsToLocals, Value.category]; done) | rfl
theorem rma0c (l : Launch) (Z : State) (a0 : Array Value) (hw : own_W Z a0) (ws : List Jvm.Cond) (a : Addr) (hi : Int64) (lo : Int64) (np : Int32) (r : Addr) (kr : ClassId) (pw : Int32) (y0 : Int64) (y1 : Int64) (y2 : Int64) (h0 : Heap) (n0 : Nat) (Z0 : n0 ≤ h0.size) (O0 : own_O Z h0 a r kr (0 : Int32) (0 : Int32) pw []) (g_a : n0 ≤ a) (hy0 : (((0 : Int64) + (own_s1 lo (0 : Int32))) + (0 : Int64)) = y0) (hy1 : (((0 : Int64) + (own_s2 hi lo (0 : Int32))) + (own_co (0 : Int64) (own_s1 lo (0 : Int32)) y0)) = y1) (hy2 : (((0 : Int64) + (own_s3 hi (0 : Int32))) + (own_co (0 : Int64) (own_s2 hi lo (0 : Int32)) y1)) = y2) (htop : y2 = own_sg y1) :
    own_M l Z (⟨"com/example/eventweir/eventweir/ExactSum", "add", "(JJI)V"⟩ : MethodName) prog_78_method_3_code 20 none ws ({ frames := 5, cells := 2, slots := 8, locals := 150 } : Room) #[(.ref a), (.long hi), (.long lo), (.int np)] h0 (own_Q_add Z a y0 y1 np h0 n0) := by
  refine own_body (plainFor_of_name own_pn0) ?_
  intro p e s m below meth c s₁ hx hZ hby hml hown hnm hlk hret X0 e0
  have N0 := Fr.nil n0
  obtain ⟨E_a, Fw, Fl, Fp, V⟩ := O0
  have ne_ar : a ≠ r := E_a.neArv V (hw _ (own_m 3 rfl))
  refine up (U' := s₁.setTop (mkF m 0 #[oA a, oJ hi, oS, oJ lo, oS, oI np, oU, oU, oU, oU, oU, oU, oU, oU, oU, oU, oU, oU, oU, oU] [])) ?_ (fun t k => castTop (own_ef_rma0c m a hi lo np) k)
  refine up ?_ fun t k => XS.aloadN X0.here hx rfl (hb hby d3_0) rfl rfl k
  show own_G (s₁.setTop (mkF m 1 #[oA a, oJ hi, oS, oJ lo, oS, oI np, oU, oU, oU, oU, oU, oU, oU, oU, oU, oU, oU, oU, oU, oU] [(.ref a)]))
  obtain ⟨T775, X775, e775, st775⟩ := getF X0 hx hZ hown (host := "") (Or.inl (hw _ (own_m 20 rfl))) Via.refl e0 Fl (g := (mkF m 1 #[oA a, oJ hi, oS, oJ lo, oS, oI np, oU, oU, oU, oU, oU, oU, oU, oU, oU, oU, oU, oU, oU, oU] [(.ref a)])) rfl rfl (hb hby d3_1)
  refine up ?_ st775
  show own_G (T775.setTop (mkF m 4 #[oA a, oJ hi, oS, oJ lo, oS, oI np, oU, oU, oU, oU, oU, oU, oU, oU, oU, oU, oU, oU, oU, oU] [(.int (0 : Int32))]))
  refine up ?_ fun t k => XS.ifNo X775.here hx rfl (hb hby d3_4) rfl ((if0 _ _).trans (teq (by decide : ((0 : Int32) = (0 : Int32)))).2) (XS.aloadN X775.here hx rfl (hb hby d3_7) rfl rfl (XS.iload X775.here hx rfl (hb hby d3_8) rfl k))
  show own_G (T775.setTop (mkF m 10 #[oA a, oJ hi, oS, oJ lo, oS, oI np, oU, oU, oU, oU, oU, oU, oU, oU, oU, oU, oU, oU, oU, oU] [(.int np), (.ref a)]))
  obtain ⟨T776, h776, X776, e776, W776, st776⟩ := putF X775 hx hZ hown (host := "") (Or.inl (hw _ (own_m 22 rfl))) Via.refl e775 Fp E_a (Or.inl (hw _ (own_m 23 rfl))) (hw _ (own_m 3 rfl)) (ty := .int) (by decide) rfl rfl (g := (mkF m 10 #[oA a, oJ hi, oS, oJ lo, oS, oI np, oU, oU, oU, oU, oU, oU, oU, oU, oU, oU, oU, oU, oU, oU] [(.int np), (.ref a)])) rfl rfl (hb hby d3_10)
  refine up ?_ st776
  have E_a_c777 := E_a.wr W776
  have Fw_c777 := Fw.other W776 (Or.inr (slot_ne (Or.inl (hw _ (own_m 14 rfl))) (Or.inl (hw _ (own_m 23 rfl))) (by decide) (t := (.array .long)) (t' := .int) (by decide) (by decide)))
  have Fl_c777 := Fl.other W776 (Or.inr (slot_ne (Or.inl (hw _ (own_m 21 rfl))) (Or.inl (hw _ (own_m 23 rfl))) (by decide) (t := .int) (t' := .int) (by decide) (by decide)))
  have V_c777 := V.other W776 (Ne.symm ne_ar)
  have F776 := Fp.same W776
  have N776 := Fr.snoc X776 N0 g_a
  have kq778 := Nat.le_trans (Nat.le_refl h0.size) (Keep.of_wr W776).1
  have Zs779 : n0 ≤ h776.size := Nat.le_trans Z0 (Keep.of_wr W776).1
  show own_G (T776.setTop (mkF m 13 #[oA a, oJ hi, oS, oJ lo, oS, oI np, oU, oU, oU, oU, oU, oU, oU, oU, oU, oU, oU, oU, oU, oU] []))
  refine up ?_ fun t k => XS.goto X776.here hx rfl (pc0 := 13) (pc' := 42) rfl (hb hby d3_13) (by decide) (by decide) (XS.iload X776.here hx rfl (hb hby d3_42) rfl (XS.aloadN X776.here hx rfl (hb hby d3_44) rfl rfl k))
  show own_G (T776.setTop (mkF m 45 #[oA a, oJ hi, oS, oJ lo, oS, oI np, oU, oU, oU, oU, oU, oU, oU, oU, oU, oU, oU, oU, oU, oU] [(.ref a), (.int np)]))
  obtain ⟨T780, X780, e780, st780⟩ := getF X776 hx hZ hown (host := "") (Or.inl (hw _ (own_m 22 rfl))) Via.refl e776 F776 (g := (mkF m 45 #[oA a, oJ hi, oS, oJ lo, oS, oI np, oU, oU, oU, oU, oU, oU, oU, oU, oU, oU, oU, oU, oU, oU] [(.ref a), (.int np)])) rfl rfl (hb hby d3_45)
  refine up ?_ st780
  show own_G (T780.setTop (mkF m 48 #[oA a, oJ hi, oS, oJ lo, oS, oI np, oU, oU, oU, oU, oU, oU, oU, oU, oU, oU, oU, oU, oU, oU] [(.int np), (.int np)]))
  refine up ?_ fun t k => XS.isub X780.here hx rfl (hb hby d3_48) rfl (XS.istore X780.here hx rfl (hb hby d3_49) rfl (l' := #[oA a, oJ hi, oS, oJ lo, oS, oI np, oI (np - np), oU, oU, oU, oU, oU, oU, oU, oU, oU, oU, oU, oU, oU]) rfl k)
  show own_G (T780.setTop (mkF m 51 #[oA a, oJ hi, oS, oJ lo, oS, oI np, oI (np - np), oU, oU, oU, oU, oU, oU, oU, oU, oU, oU, oU, oU, oU] []))
  rw [Int32.sub_self]
  show own_G (T780.setTop (mkF m 51 #[oA a, oJ hi, oS, oJ lo, oS, oI np, oI (0 : Int32), oU, oU, oU, oU, oU, oU, oU, oU, oU, oU, oU, oU, oU] []))
  refine up ?_ fun t k => XS.iload X780.here hx rfl (hb hby d3_51) rfl (XS.bipush X780.here hx rfl (hb hby d3_53) (XS.iushr X780.here hx rfl (hb hby d3_55) rfl (XS.istore X780.here hx rfl (hb hby d3_56) rfl (l' := #[oA a, oJ hi, oS, oJ lo, oS, oI np, oI (0 : Int32), oI (((0 : Int32).toUInt32 >>> ((6 : Int32) &&& 31).toUInt32).toInt32), oU, oU, oU, oU, oU, oU, oU, oU, oU, oU, oU, oU]) rfl k)))
  show own_G (T780.setTop (mkF m 58 #[oA a, oJ hi, oS, oJ lo, oS, oI np, oI (0 : Int32), oI (((0 : Int32).toUInt32 >>> ((6 : Int32) &&& 31).toUInt32).toInt32), oU, oU, oU, oU, oU, oU, oU, oU, oU, oU, oU, oU] []))
  show own_G (T780.setTop (mkF m 58 #[oA a, oJ hi, oS, oJ lo, oS, oI np, oI (0 : Int32), oI (0 : Int32), oU, oU, oU, oU, oU, oU, oU, oU, oU, oU, oU, oU] []))
  refine up ?_ fun t k => XS.iload X780.here hx rfl (hb hby d3_58) rfl (XS.bipush X780.here hx rfl (hb hby d3_60) (XS.iand X780.here hx rfl (hb hby d3_62) rfl (XS.istore X780.here hx rfl (hb hby d3_63) rfl (l' := #[oA a, oJ hi, oS, oJ lo, oS, oI np, oI (0 : Int32), oI (0 : Int32), oI ((0 : Int32) &&& (63 : Int32)), oU, oU, oU, oU, oU, oU, oU, oU, oU, oU, oU]) rfl k)))
  show own_G (T780.setTop (mkF m 65 #[oA a, oJ hi, oS, oJ lo, oS, oI np, oI (0 : Int32), oI (0 : Int32), oI ((0 : Int32) &&& (63 : Int32)), oU, oU, oU, oU, oU, oU, oU, oU, oU, oU, oU] []))
  show own_G (T780.setTop (mkF m 65 #[oA a, oJ hi, oS, oJ lo, oS, oI np, oI (0 : Int32), oI (0 : Int32), oI (0 : Int32), oU, oU, oU, oU, oU, oU, oU, oU, oU, oU, oU] []))
  refine up ?_ fun t k => XS.lloadN X780.here hx rfl (hb hby d3_65) rfl (XS.iload X780.here hx rfl (hb hby d3_66) rfl (XS.lshl X780.here hx rfl (hb hby d3_68) rfl (XS.lstore X780.here hx rfl (hb hby d3_69) rfl (l' := #[oA a, oJ hi, oS, oJ lo, oS, oI np, oI (0 : Int32), oI (0 : Int32), oI (0 : Int32), oJ (lo <<< ((0 : Int32) &&& 0x3f).toInt64), oS, oU, oU, oU, oU, oU, oU, oU, oU, oU]) rfl k)))
  show own_G (T780.setTop (mkF m 71 #[oA a, oJ hi, oS, oJ lo, oS, oI np, oI (0 : Int32), oI (0 : Int32), oI (0 : Int32), oJ (lo <<< ((0 : Int32) &&& 0x3f).toInt64), oS, oU, oU, oU, oU, oU, oU, oU, oU, oU] []))
  show own_G (T780.setTop (mkF m 71 #[oA a, oJ hi, oS, oJ lo, oS, oI np, oI (0 : Int32), oI (0 : Int32), oI (0 : Int32), oJ (own_s1 lo (0 : Int32)), oS, oU, oU, oU, oU, oU, oU, oU, oU, oU] []))
  refine up ?_ fun t k => XS.lloadN X780.here hx rfl (hb hby d3_71) rfl (XS.iload X780.here hx rfl (hb hby d3_72) rfl (XS.lshl X780.here hx rfl (hb hby d3_74) rfl (XS.lloadN X780.here hx rfl (hb hby d3_75) rfl (XS.iconst X780.here hx rfl (hb hby d3_76) (XS.lushr X780.here hx rfl (hb hby d3_77) rfl (XS.bipush X780.here hx rfl (hb hby d3_78) (XS.iload X780.here hx rfl (hb hby d3_80) rfl (XS.isub X780.here hx rfl (hb hby d3_82) rfl (XS.lushr X780.here hx rfl (hb hby d3_83) rfl k)))))))))
  show own_G (T780.setTop (mkF m 84 #[oA a, oJ hi, oS, oJ lo, oS, oI np, oI (0 : Int32), oI (0 : Int32), oI (0 : Int32), oJ (own_s1 lo (0 : Int32)), oS, oU, oU, oU, oU, oU, oU, oU, oU, oU] [(.long ((((lo.toUInt64 >>> ((1 : Int32) &&& 0x3f).toInt64.toUInt64).toInt64).toUInt64 >>> ((63 : Int32) &&& 0x3f).toInt64.toUInt64).toInt64)), (.long (hi <<< ((0 : Int32) &&& 0x3f).toInt64))]))
  refine up ?_ fun t k => XS.lor X780.here hx rfl (hb hby d3_84) rfl (XS.lstore X780.here hx rfl (hb hby d3_85) rfl (l' := #[oA a, oJ hi, oS, oJ lo, oS, oI np, oI (0 : Int32), oI (0 : Int32), oI (0 : Int32), oJ (own_s1 lo (0 : Int32)), oS, oJ ((hi <<< ((0 : Int32) &&& 0x3f).toInt64) ||| ((((lo.toUInt64 >>> ((1 : Int32) &&& 0x3f).toInt64.toUInt64).toInt64).toUInt64 >>> ((63 : Int32) &&& 0x3f).toInt64.toUInt64).toInt64)), oS, oU, oU, oU, oU, oU, oU, oU]) rfl k)
  show own_G (T780.setTop (mkF m 87 #[oA a, oJ hi, oS, oJ lo, oS, oI np, oI (0 : Int32), oI (0 : Int32), oI (0 : Int32), oJ (own_s1 lo (0 : Int32)), oS, oJ ((hi <<< ((0 : Int32) &&& 0x3f).toInt64) ||| ((((lo.toUInt64 >>> ((1 : Int32) &&& 0x3f).toInt64.toUInt64).toInt64).toUInt64 >>> ((63 : Int32) &&& 0x3f).toInt64.toUInt64).toInt64)), oS, oU, oU, oU, oU, oU, oU, oU] []))
  show own_G (T780.setTop (mkF m 87 #[oA a, oJ hi, oS, oJ lo, oS, oI np, oI (0 : Int32), oI (0 : Int32), oI (0 : Int32), oJ (own_s1 lo (0 : Int32)), oS, oJ (own_s2 hi lo (0 : Int32)), oS, oU, oU, oU, oU, oU, oU, oU] []))
  refine up ?_ fun t k => XS.lloadN X780.here hx rfl (hb hby d3_87) rfl (XS.iconst X780.here hx rfl (hb hby d3_88) (XS.lshr X780.here hx rfl (hb hby d3_89) rfl (XS.bipush X780.here hx rfl (hb hby d3_90) (XS.iload X780.here hx rfl (hb hby d3_92) rfl (XS.isub X780.here hx rfl (hb hby d3_94) rfl (XS.lshr X780.here hx rfl (hb hby d3_95) rfl (XS.lstore X780.here hx rfl (hb hby d3_96) rfl (l' := #[oA a, oJ hi, oS, oJ lo, oS, oI np, oI (0 : Int32), oI (0 : Int32), oI (0 : Int32), oJ (own_s1 lo (0 : Int32)), oS, oJ (own_s2 hi lo (0 : Int32)), oS, oJ ((hi >>> ((1 : Int32) &&& 0x3f).toInt64) >>> ((63 : Int32) &&& 0x3f).toInt64), oS, oU, oU, oU, oU, oU]) rfl k)))))))
  show own_G (T780.setTop (mkF m 98 #[oA a, oJ hi, oS, oJ lo, oS, oI np, oI (0 : Int32), oI (0 : Int32), oI (0 : Int32), oJ (own_s1 lo (0 : Int32)), oS, oJ (own_s2 hi lo (0 : Int32)), oS, oJ ((hi >>> ((1 : Int32) &&& 0x3f).toInt64) >>> ((63 : Int32) &&& 0x3f).toInt64), oS, oU, oU, oU, oU, oU] []))
  show own_G (T780.setTop (mkF m 98 #[oA a, oJ hi, oS, oJ lo, oS, oI np, oI (0 : Int32), oI (0 : Int32), oI (0 : Int32), oJ (own_s1 lo (0 : Int32)), oS, oJ (own_s2 hi lo (0 : Int32)), oS, oJ (own_s3 hi (0 : Int32)), oS, oU, oU, oU, oU, oU] []))
  refine up ?_ fun t k => XS.aloadN X780.here hx rfl (hb hby d3_98) rfl rfl (XS.iload X780.here hx rfl (hb hby d3_99) rfl (XS.iconst X780.here hx rfl (hb hby d3_101) (XS.iadd X780.here hx rfl (hb hby d3_102) rfl k)))
  show own_G (T780.setTop (mkF m 103 #[oA a, oJ hi, oS, oJ lo, oS, oI np, oI (0 : Int32), oI (0 : Int32), oI (0 : Int32), oJ (own_s1 lo (0 : Int32)), oS, oJ (own_s2 hi lo (0 : Int32)), oS, oJ (own_s3 hi (0 : Int32)), oS, oU, oU, oU, oU, oU] [(.int (3 : Int32)), (.ref a)]))
  obtain ⟨cq781, q781, q781'⟩ := E_a_c777.cell
  obtain ⟨_, _, ⟨T781, L781, k781, n781⟩, -, X781, ⟨Lc781, hQ781, l781, y781, z781⟩, st781⟩ := X780.privateBack hx (y := (⟨"com/example/eventweir/eventweir/ExactSum", "widen", "(I)V"⟩ : MethodName)) hown (mvT hZ (hw _ (own_m 24 rfl))) (mvT hZ (hw _ (own_m 25 rfl))) (own_sel (by decide) (mvT hZ (hw _ (own_m 25 rfl))) (mvP hZ (hw _ (own_m 26 rfl))) (mvT hZ (hw _ (own_m 3 rfl)))) (Cond.privateMethod_at (mvP hZ (hw _ (own_m 26 rfl)) (args := #[]))) (mvT hZ (hw _ (own_m 27 rfl))) (by decide) (backOf (W := 0) (rmw0c l Z a0 hw [] a r kr np h776 n0 Zs779 ⟨E_a_c777, Fw_c777, Fl_c777, F776, V_c777⟩ g_a) hZ (hw _ (own_m 27 rfl)) (hw _ (own_m 4 rfl)) (by decide) (by decide)) (g := (mkF m 103 #[oA a, oJ hi, oS, oJ lo, oS, oI np, oI (0 : Int32), oI (0 : Int32), oI (0 : Int32), oJ (own_s1 lo (0 : Int32)), oS, oJ (own_s2 hi lo (0 : Int32)), oS, oJ (own_s3 hi (0 : Int32)), oS, oU, oU, oU, oU, oU] [(.int (3 : Int32)), (.ref a)])) rfl (by rw [hml]; rfl) (Steps.refl _) (a := a) (by rw [e780]; exact q781) q781' (argsL := [(.int (3 : Int32))]) (rest := []) (lenOf own_pd6 rfl) rfl (by show 2 * 0 + _ ≤ _; exact Nat.le_of_eq rfl) (hb hby d3_103) (fun _ _ => ⟨rfl, e780, (by decide : 0 + 1 ≤ _), (by decide : 0 + 3 ≤ _)⟩)
  dsimp only [Pt.U, Pt.locs, Pt.cells, Pt.slots] at X781 l781 y781 z781 st781 hQ781
  subst l781 y781 z781
  obtain ⟨rfl, Nq781, hsq781, r781, kr781, gr781, Eq781, Fwq781, Flq781, Fpq781, Vq781⟩ := hQ781
  have N781 := Fr.app N776 Nq781
  have kq782 := Nat.le_trans kq778 hsq781
  have Zs783 : n0 ≤ T781.heap.size := Nat.le_trans Zs779 hsq781
  refine up ?_ (fun t k => st781.trans k)
  show own_G (T781.setTop (mkF m 106 #[oA a, oJ hi, oS, oJ lo, oS, oI np, oI (0 : Int32), oI (0 : Int32), oI (0 : Int32), oJ (own_s1 lo (0 : Int32)), oS, oJ (own_s2 hi lo (0 : Int32)), oS, oJ (own_s3 hi (0 : Int32)), oS, oU, oU, oU, oU, oU] []))
  exact blB3 Z a0 hw r781 kr781 (3 : Int32) np [] (0 : Int64) (0 : Int64) (0 : Int64) h0 hi lo np (0 : Int32) (0 : Int32) (own_s1 lo (0 : Int32)) (own_s2 hi lo (0 : Int32)) (own_s3 hi (0 : Int32)) y0 y1 y2 T781.heap n0 Zs783 ⟨Eq781, Fwq781, Flq781, Fpq781, Vq781⟩ g_a gr781 (Or.inl ⟨rfl, rfl⟩) kq782 hy0 hy1 hy2 htop (X781.mono (by decide) (by decide)) hx hZ hby hml hown hlk hret rfl N781
theorem rma0t (l : Launch) (Z : State) (a0 : Array Value) (hw : own_W Z a0) (ws : List Jvm.Cond) (a : Addr) (hi : Int64) (lo : Int64) (np : Int32) (r : Addr) (kr : ClassId) (zc : Int32) (pw : Int32) (tl : List Value) (x0 : Int64) (x1 : Int64) (x2 : Int64) (y0 : Int64) (y1 : Int64) (y2 : Int64) (h0 : Heap) (n0 : Nat) (Z0 : n0 ≤ h0.size) (O0 : own_O Z h0 a r kr zc (0 : Int32) pw ((.long x0) :: (.long x1) :: (.long x2) :: tl)) (g_a : n0 ≤ a) (g_r : n0 ≤ r) (hc : own_cap zc tl) (hy0 : (((0 : Int64) + (own_s1 lo (0 : Int32))) + (0 : Int64)) = y0) (hy1 : (((0 : Int64) + (own_s2 hi lo (0 : Int32))) + (own_co (0 : Int64) (own_s1 lo (0 : Int32)) y0)) = y1) (hy2 : (((0 : Int64) + (own_s3 hi (0 : Int32))) + (own_co (0 : Int64) (own_s2 hi lo (0 : Int32)) y1)) = y2) (htop : y2 = own_sg y1) :
    own_M l Z (⟨"com/example/eventweir/eventweir/ExactSum", "add", "(JJI)V"⟩ : MethodName) prog_78_method_3_code 20 none ws ({ frames := 5, cells := 2, slots := 8, locals := 150 } : Room) #[(.ref a), (.long hi), (.long lo), (.int np)] h0 (own_Q_add Z a y0 y1 np h0 n0) := by
  refine own_body (plainFor_of_name own_pn0) ?_
  intro p e s m below meth c s₁ hx hZ hby hml hown hnm hlk hret X0 e0
  have N0 := Fr.nil n0
  obtain ⟨E_a, Fw, Fl, Fp, V⟩ := O0
  have ne_ar : a ≠ r := E_a.neArv V (hw _ (own_m 3 rfl))
  refine up (U' := s₁.setTop (mkF m 0 #[oA a, oJ hi, oS, oJ lo, oS, oI np, oU, oU, oU, oU, oU, oU, oU, oU, oU, oU, oU, oU, oU, oU] [])) ?_ (fun t k => castTop (own_ef_rma0c m a hi lo np) k)
  refine up ?_ fun t k => XS.aloadN X0.here hx rfl (hb hby d3_0) rfl rfl k
  show own_G (s₁.setTop (mkF m 1 #[oA a, oJ hi, oS, oJ lo, oS, oI np, oU, oU, oU, oU, oU, oU, oU, oU, oU, oU, oU, oU, oU, oU] [(.ref a)]))
  obtain ⟨T784, X784, e784, st784⟩ := getF X0 hx hZ hown (host := "") (Or.inl (hw _ (own_m 20 rfl))) Via.refl e0 Fl (g := (mkF m 1 #[oA a, oJ hi, oS, oJ lo, oS, oI np, oU, oU, oU, oU, oU, oU, oU, oU, oU, oU, oU, oU, oU, oU] [(.ref a)])) rfl rfl (hb hby d3_1)
  refine up ?_ st784
  show own_G (T784.setTop (mkF m 4 #[oA a, oJ hi, oS, oJ lo, oS, oI np, oU, oU, oU, oU, oU, oU, oU, oU, oU, oU, oU, oU, oU, oU] [(.int (0 : Int32))]))
  refine up ?_ fun t k => XS.ifNo X784.here hx rfl (hb hby d3_4) rfl ((if0 _ _).trans (teq (by decide : ((0 : Int32) = (0 : Int32)))).2) (XS.aloadN X784.here hx rfl (hb hby d3_7) rfl rfl (XS.iload X784.here hx rfl (hb hby d3_8) rfl k))
  show own_G (T784.setTop (mkF m 10 #[oA a, oJ hi, oS, oJ lo, oS, oI np, oU, oU, oU, oU, oU, oU, oU, oU, oU, oU, oU, oU, oU, oU] [(.int np), (.ref a)]))
  obtain ⟨T785, h785, X785, e785, W785, st785⟩ := putF X784 hx hZ hown (host := "") (Or.inl (hw _ (own_m 22 rfl))) Via.refl e784 Fp E_a (Or.inl (hw _ (own_m 23 rfl))) (hw _ (own_m 3 rfl)) (ty := .int) (by decide) rfl rfl (g := (mkF m 10 #[oA a, oJ hi, oS, oJ lo, oS, oI np, oU, oU, oU, oU, oU, oU, oU, oU, oU, oU, oU, oU, oU, oU] [(.int np), (.ref a)])) rfl rfl (hb hby d3_10)
  refine up ?_ st785
  have E_a_c786 := E_a.wr W785
  have Fw_c786 := Fw.other W785 (Or.inr (slot_ne (Or.inl (hw _ (own_m 14 rfl))) (Or.inl (hw _ (own_m 23 rfl))) (by decide) (t := (.array .long)) (t' := .int) (by decide) (by decide)))
  have Fl_c786 := Fl.other W785 (Or.inr (slot_ne (Or.inl (hw _ (own_m 21 rfl))) (Or.inl (hw _ (own_m 23 rfl))) (by decide) (t := .int) (t' := .int) (by decide) (by decide)))
  have V_c786 := V.other W785 (Ne.symm ne_ar)
  have F785 := Fp.same W785
  have N785 := Fr.snoc X785 N0 g_a
  have kq787 := Nat.le_trans (Nat.le_refl h0.size) (Keep.of_wr W785).1
  have Zs788 : n0 ≤ h785.size := Nat.le_trans Z0 (Keep.of_wr W785).1
  show own_G (T785.setTop (mkF m 13 #[oA a, oJ hi, oS, oJ lo, oS, oI np, oU, oU, oU, oU, oU, oU, oU, oU, oU, oU, oU, oU, oU, oU] []))
  refine up ?_ fun t k => XS.goto X785.here hx rfl (pc0 := 13) (pc' := 42) rfl (hb hby d3_13) (by decide) (by decide) (XS.iload X785.here hx rfl (hb hby d3_42) rfl (XS.aloadN X785.here hx rfl (hb hby d3_44) rfl rfl k))
  show own_G (T785.setTop (mkF m 45 #[oA a, oJ hi, oS, oJ lo, oS, oI np, oU, oU, oU, oU, oU, oU, oU, oU, oU, oU, oU, oU, oU, oU] [(.ref a), (.int np)]))
  obtain ⟨T789, X789, e789, st789⟩ := getF X785 hx hZ hown (host := "") (Or.inl (hw _ (own_m 22 rfl))) Via.refl e785 F785 (g := (mkF m 45 #[oA a, oJ hi, oS, oJ lo, oS, oI np, oU, oU, oU, oU, oU, oU, oU, oU, oU, oU, oU, oU, oU, oU] [(.ref a), (.int np)])) rfl rfl (hb hby d3_45)
  refine up ?_ st789
  show own_G (T789.setTop (mkF m 48 #[oA a, oJ hi, oS, oJ lo, oS, oI np, oU, oU, oU, oU, oU, oU, oU, oU, oU, oU, oU, oU, oU, oU] [(.int np), (.int np)]))
  refine up ?_ fun t k => XS.isub X789.here hx rfl (hb hby d3_48) rfl (XS.istore X789.here hx rfl (hb hby d3_49) rfl (l' := #[oA a, oJ hi, oS, oJ lo, oS, oI np, oI (np - np), oU, oU, oU, oU, oU, oU, oU, oU, oU, oU, oU, oU, oU]) rfl k)
  show own_G (T789.setTop (mkF m 51 #[oA a, oJ hi, oS, oJ lo, oS, oI np, oI (np - np), oU, oU, oU, oU, oU, oU, oU, oU, oU, oU, oU, oU, oU] []))
  rw [Int32.sub_self]
  show own_G (T789.setTop (mkF m 51 #[oA a, oJ hi, oS, oJ lo, oS, oI np, oI (0 : Int32), oU, oU, oU, oU, oU, oU, oU, oU, oU, oU, oU, oU, oU] []))
  refine up ?_ fun t k => XS.iload X789.here hx rfl (hb hby d3_51) rfl (XS.bipush X789.here hx rfl (hb hby d3_53) (XS.iushr X789.here hx rfl (hb hby d3_55) rfl (XS.istore X789.here hx rfl (hb hby d3_56) rfl (l' := #[oA a, oJ hi, oS, oJ lo, oS, oI np, oI (0 : Int32), oI (((0 : Int32).toUInt32 >>> ((6 : Int32) &&& 31).toUInt32).toInt32), oU, oU, oU, oU, oU, oU, oU, oU, oU, oU, oU, oU]) rfl k)))
  show own_G (T789.setTop (mkF m 58 #[oA a, oJ hi, oS, oJ lo, oS, oI np, oI (0 : Int32), oI (((0 : Int32).toUInt32 >>> ((6 : Int32) &&& 31).toUInt32).toInt32), oU, oU, oU, oU, oU, oU, oU, oU, oU, oU, oU, oU] []))
  show own_G (T789.setTop (mkF m 58 #[oA a, oJ hi, oS, oJ lo, oS, oI np, oI (0 : Int32), oI (0 : Int32), oU, oU, oU, oU, oU, oU, oU, oU, oU, oU, oU, oU] []))
  refine up ?_ fun t k => XS.iload X789.here hx rfl (hb hby d3_58) rfl (XS.bipush X789.here hx rfl (hb hby d3_60) (XS.iand X789.here hx rfl (hb hby d3_62) rfl (XS.istore X789.here hx rfl (hb hby d3_63) rfl (l' := #[oA a, oJ hi, oS, oJ lo, oS, oI np, oI (0 : Int32), oI (0 : Int32), oI ((0 : Int32) &&& (63 : Int32)), oU, oU, oU, oU, oU, oU, oU, oU, oU, oU, oU]) rfl k)))
  show own_G (T789.setTop (mkF m 65 #[oA a, oJ hi, oS, oJ lo, oS, oI np, oI (0 : Int32), oI (0 : Int32), oI ((0 : Int32) &&& (63 : Int32)), oU, oU, oU, oU, oU, oU, oU, oU, oU, oU, oU] []))
  show own_G (T789.setTop (mkF m 65 #[oA a, oJ hi, oS, oJ lo, oS, oI np, oI (0 : Int32), oI (0 : Int32), oI (0 : Int32), oU, oU, oU, oU, oU, oU, oU, oU, oU, oU, oU] []))
  refine up ?_ fun t k => XS.lloadN X789.here hx rfl (hb hby d3_65) rfl (XS.iload X789.here hx rfl (hb hby d3_66) rfl (XS.lshl X789.here hx rfl (hb hby d3_68) rfl (XS.lstore X789.here hx rfl (hb hby d3_69) rfl (l' := #[oA a, oJ hi, oS, oJ lo, oS, oI np, oI (0 : Int32), oI (0 : Int32), oI (0 : Int32), oJ (lo <<< ((0 : Int32) &&& 0x3f).toInt64), oS, oU, oU, oU, oU, oU, oU, oU, oU, oU]) rfl k)))
  show own_G (T789.setTop (mkF m 71 #[oA a, oJ hi, oS, oJ lo, oS, oI np, oI (0 : Int32), oI (0 : Int32), oI (0 : Int32), oJ (lo <<< ((0 : Int32) &&& 0x3f).toInt64), oS, oU, oU, oU, oU, oU, oU, oU, oU, oU] []))
  show own_G (T789.setTop (mkF m 71 #[oA a, oJ hi, oS, oJ lo, oS, oI np, oI (0 : Int32), oI (0 : Int32), oI (0 : Int32), oJ (own_s1 lo (0 : Int32)), oS, oU, oU, oU, oU, oU, oU, oU, oU, oU] []))
  refine up ?_ fun t k => XS.lloadN X789.here hx rfl (hb hby d3_71) rfl (XS.iload X789.here hx rfl (hb hby d3_72) rfl (XS.lshl X789.here hx rfl (hb hby d3_74) rfl (XS.lloadN X789.here hx rfl (hb hby d3_75) rfl (XS.iconst X789.here hx rfl (hb hby d3_76) (XS.lushr X789.here hx rfl (hb hby d3_77) rfl (XS.bipush X789.here hx rfl (hb hby d3_78) (XS.iload X789.here hx rfl (hb hby d3_80) rfl (XS.isub X789.here hx rfl (hb hby d3_82) rfl (XS.lushr X789.here hx rfl (hb hby d3_83) rfl k)))))))))
  show own_G (T789.setTop (mkF m 84 #[oA a, oJ hi, oS, oJ lo, oS, oI np, oI (0 : Int32), oI (0 : Int32), oI (0 : Int32), oJ (own_s1 lo (0 : Int32)), oS, oU, oU, oU, oU, oU, oU, oU, oU, oU] [(.long ((((lo.toUInt64 >>> ((1 : Int32) &&& 0x3f).toInt64.toUInt64).toInt64).toUInt64 >>> ((63 : Int32) &&& 0x3f).toInt64.toUInt64).toInt64)), (.long (hi <<< ((0 : Int32) &&& 0x3f).toInt64))]))
  refine up ?_ fun t k => XS.lor X789.here hx rfl (hb hby d3_84) rfl (XS.lstore X789.here hx rfl (hb hby d3_85) rfl (l' := #[oA a, oJ hi, oS, oJ lo, oS, oI np, oI (0 : Int32), oI (0 : Int32), oI (0 : Int32), oJ (own_s1 lo (0 : Int32)), oS, oJ ((hi <<< ((0 : Int32) &&& 0x3f).toInt64) ||| ((((lo.toUInt64 >>> ((1 : Int32) &&& 0x3f).toInt64.toUInt64).toInt64).toUInt64 >>> ((63 : Int32) &&& 0x3f).toInt64.toUInt64).toInt64)), oS, oU, oU, oU, oU, oU, oU, oU]) rfl k)
  show own_G (T789.setTop (mkF m 87 #[oA a, oJ hi, oS, oJ lo, oS, oI np, oI (0 : Int32), oI (0 : Int32), oI (0 : Int32), oJ (own_s1 lo (0 : Int32)), oS, oJ ((hi <<< ((0 : Int32) &&& 0x3f).toInt64) ||| ((((lo.toUInt64 >>> ((1 : Int32) &&& 0x3f).toInt64.toUInt64).toInt64).toUInt64 >>> ((63 : Int32) &&& 0x3f).toInt64.toUInt64).toInt64)), oS, oU, oU, oU, oU, oU, oU, oU] []))
  show own_G (T789.setTop (mkF m 87 #[oA a, oJ hi, oS, oJ lo, oS, oI np, oI (0 : Int32), oI (0 : Int32), oI (0 : Int32), oJ (own_s1 lo (0 : Int32)), oS, oJ (own_s2 hi lo (0 : Int32)), oS, oU, oU, oU, oU, oU, oU, oU] []))
  refine up ?_ fun t k => XS.lloadN X789.here hx rfl (hb hby d3_87) rfl (XS.iconst X789.here hx rfl (hb hby d3_88) (XS.lshr X789.here hx rfl (hb hby d3_89) rfl (XS.bipush X789.here hx rfl (hb hby d3_90) (XS.iload X789.here hx rfl (hb hby d3_92) rfl (XS.isub X789.here hx rfl (hb hby d3_94) rfl (XS.lshr X789.here hx rfl (hb hby d3_95) rfl (XS.lstore X789.here hx rfl (hb hby d3_96) rfl (l' := #[oA a, oJ hi, oS, oJ lo, oS, oI np, oI (0 : Int32), oI (0 : Int32), oI (0 : Int32), oJ (own_s1 lo (0 : Int32)), oS, oJ (own_s2 hi lo (0 : Int32)), oS, oJ ((hi >>> ((1 : Int32) &&& 0x3f).toInt64) >>> ((63 : Int32) &&& 0x3f).toInt64), oS, oU, oU, oU, oU, oU]) rfl k)))))))
  show own_G (T789.setTop (mkF m 98 #[oA a, oJ hi, oS, oJ lo, oS, oI np, oI (0 : Int32), oI (0 : Int32), oI (0 : Int32), oJ (own_s1 lo (0 : Int32)), oS, oJ (own_s2 hi lo (0 : Int32)), oS, oJ ((hi >>> ((1 : Int32) &&& 0x3f).toInt64) >>> ((63 : Int32) &&& 0x3f).toInt64), oS, oU, oU, oU, oU, oU] []))
  show own_G (T789.setTop (mkF m 98 #[oA a, oJ hi, oS, oJ lo, oS, oI np, oI (0 : Int32), oI (0 : Int32), oI (0 : Int32), oJ (own_s1 lo (0 : Int32)), oS, oJ (own_s2 hi lo (0 : Int32)), oS, oJ (own_s3 hi (0 : Int32)), oS, oU, oU, oU, oU, oU] []))
  refine up ?_ fun t k => XS.aloadN X789.here hx rfl (hb hby d3_98) rfl rfl (XS.iload X789.here hx rfl (hb hby d3_99) rfl (XS.iconst X789.here hx rfl (hb hby d3_101) (XS.iadd X789.here hx rfl (hb hby d3_102) rfl k)))
  show own_G (T789.setTop (mkF m 103 #[oA a, oJ hi, oS, oJ lo, oS, oI np, oI (0 : Int32), oI (0 : Int32), oI (0 : Int32), oJ (own_s1 lo (0 : Int32)), oS, oJ (own_s2 hi lo (0 : Int32)), oS, oJ (own_s3 hi (0 : Int32)), oS, oU, oU, oU, oU, oU] [(.int (3 : Int32)), (.ref a)]))
  obtain ⟨cq790, q790, q790'⟩ := E_a_c786.cell
  obtain ⟨_, _, ⟨T790, L790, k790, n790⟩, -, X790, ⟨Lc790, hQ790, l790, y790, z790⟩, st790⟩ := X789.privateBack hx (y := (⟨"com/example/eventweir/eventweir/ExactSum", "widen", "(I)V"⟩ : MethodName)) hown (mvT hZ (hw _ (own_m 24 rfl))) (mvT hZ (hw _ (own_m 25 rfl))) (own_sel (by decide) (mvT hZ (hw _ (own_m 25 rfl))) (mvP hZ (hw _ (own_m 26 rfl))) (mvT hZ (hw _ (own_m 3 rfl)))) (Cond.privateMethod_at (mvP hZ (hw _ (own_m 26 rfl)) (args := #[]))) (mvT hZ (hw _ (own_m 27 rfl))) (by decide) (backOf (W := 0) (rmw03 l Z a0 hw [] a r kr zc np tl x0 x1 x2 h785 n0 Zs788 ⟨E_a_c786, Fw_c786, Fl_c786, F785, V_c786⟩ g_a g_r hc ) hZ (hw _ (own_m 27 rfl)) (hw _ (own_m 4 rfl)) (by decide) (by decide)) (g := (mkF m 103 #[oA a, oJ hi, oS, oJ lo, oS, oI np, oI (0 : Int32), oI (0 : Int32), oI (0 : Int32), oJ (own_s1 lo (0 : Int32)), oS, oJ (own_s2 hi lo (0 : Int32)), oS, oJ (own_s3 hi (0 : Int32)), oS, oU, oU, oU, oU, oU] [(.int (3 : Int32)), (.ref a)])) rfl (by rw [hml]; rfl) (Steps.refl _) (a := a) (by rw [e789]; exact q790) q790' (argsL := [(.int (3 : Int32))]) (rest := []) (lenOf own_pd6 rfl) rfl (by show 2 * 0 + _ ≤ _; exact Nat.le_of_eq rfl) (hb hby d3_103) (fun _ _ => ⟨rfl, e789, (by decide : 0 + 0 ≤ _), (by decide : 0 + 0 ≤ _)⟩)
  dsimp only [Pt.U, Pt.locs, Pt.cells, Pt.slots] at X790 l790 y790 z790 st790 hQ790
  subst l790 y790 z790
  obtain ⟨rfl, Nq790, hsq790, Eq790, Fwq790, Flq790, Fpq790, Vq790⟩ := hQ790
  have N790 := Fr.app N785 Nq790
  have kq791 := Nat.le_trans kq787 hsq790
  have Zs792 : n0 ≤ T790.heap.size := Nat.le_trans Zs788 hsq790
  refine up ?_ (fun t k => st790.trans k)
  show own_G (T790.setTop (mkF m 106 #[oA a, oJ hi, oS, oJ lo, oS, oI np, oI (0 : Int32), oI (0 : Int32), oI (0 : Int32), oJ (own_s1 lo (0 : Int32)), oS, oJ (own_s2 hi lo (0 : Int32)), oS, oJ (own_s3 hi (0 : Int32)), oS, oU, oU, oU, oU, oU] []))
  exact blB3 Z a0 hw r kr zc np tl (0 : Int64) (0 : Int64) (0 : Int64) h0 hi lo np (0 : Int32) (0 : Int32) (own_s1 lo (0 : Int32)) (own_s2 hi lo (0 : Int32)) (own_s3 hi (0 : Int32)) y0 y1 y2 T790.heap n0 Zs792 ⟨Eq790, Fwq790, Flq790, Fpq790, Vq790⟩ g_a g_r hc kq791 hy0 hy1 hy2 htop (X790.mono (by decide) (by decide)) hx hZ hby hml hown hlk hret rfl N790
theorem rmaA2 (l : Launch) (Z : State) (a0 : Array Value) (hw : own_W Z a0) (ws : List Jvm.Cond) (a : Addr) (hi : Int64) (lo : Int64) (np : Int32) (r : Addr) (kr : ClassId) (zc : Int32) (pw : Int32) (tl : List Value) (x0 : Int64) (x1 : Int64) (x2 : Int64) (bs : Int32) (y0 : Int64) (y1 : Int64) (y2 : Int64) (h0 : Heap) (n0 : Nat) (Z0 : n0 ≤ h0.size) (O0 : own_O Z h0 a r kr zc (2 : Int32) pw ((.long x0) :: (.long x1) :: (.long x2) :: tl)) (g_a : n0 ≤ a) (g_r : n0 ≤ r) (hc : own_cap zc tl) (hge : ¬ (np < pw)) (hoff : (np - pw) = bs) (hat : ((bs.toUInt32 >>> ((6 : Int32) &&& 31).toUInt32).toInt32) = (0 : Int32)) (hbt : (bs &&& (63 : Int32)) = bs) (hy0 : ((x0 + (own_s1 lo bs)) + (0 : Int64)) = y0) (hy1 : ((x1 + (own_s2 hi lo bs)) + (own_co x0 (own_s1 lo bs) y0)) = y1) (hy2 : (((own_sg x1) + (own_s3 hi bs)) + (own_co x1 (own_s2 hi lo bs) y1)) = y2) (htop : y2 = own_sg y1) :
    own_M l Z (⟨"com/example/eventweir/eventweir/ExactSum", "add", "(JJI)V"⟩ : MethodName) prog_78_method_3_code 20 none ws ({ frames := 5, cells := 2, slots := 8, locals := 150 } : Room) #[(.ref a), (.long hi), (.long lo), (.int np)] h0 (own_Q_add Z a y0 y1 pw h0 n0) := by
  refine own_body (plainFor_of_name own_pn0) ?_
  intro p e s m below meth c s₁ hx hZ hby hml hown hnm hlk hret X0 e0
  have N0 := Fr.nil n0
  obtain ⟨E_a, Fw, Fl, Fp, V⟩ := O0
  have ne_ar : a ≠ r := E_a.neArv V (hw _ (own_m 3 rfl))
  refine up (U' := s₁.setTop (mkF m 0 #[oA a, oJ hi, oS, oJ lo, oS, oI np, oU, oU, oU, oU, oU, oU, oU, oU, oU, oU, oU, oU, oU, oU] [])) ?_ (fun t k => castTop (own_ef_rma0c m a hi lo np) k)
  refine up ?_ fun t k => XS.aloadN X0.here hx rfl (hb hby d3_0) rfl rfl k
  show own_G (s₁.setTop (mkF m 1 #[oA a, oJ hi, oS, oJ lo, oS, oI np, oU, oU, oU, oU, oU, oU, oU, oU, oU, oU, oU, oU, oU, oU] [(.ref a)]))
  obtain ⟨T793, X793, e793, st793⟩ := getF X0 hx hZ hown (host := "") (Or.inl (hw _ (own_m 20 rfl))) Via.refl e0 Fl (g := (mkF m 1 #[oA a, oJ hi, oS, oJ lo, oS, oI np, oU, oU, oU, oU, oU, oU, oU, oU, oU, oU, oU, oU, oU, oU] [(.ref a)])) rfl rfl (hb hby d3_1)
  refine up ?_ st793
  show own_G (T793.setTop (mkF m 4 #[oA a, oJ hi, oS, oJ lo, oS, oI np, oU, oU, oU, oU, oU, oU, oU, oU, oU, oU, oU, oU, oU, oU] [(.int (2 : Int32))]))
  refine up ?_ fun t k => XS.ifYes X793.here hx rfl (pc0 := 4) (pc' := 16) rfl (hb hby d3_4) rfl ((if0 _ _).trans (feq (by decide : ¬ ((2 : Int32) = (0 : Int32)))).2) (by decide) (by decide) (XS.iload X793.here hx rfl (hb hby d3_16) rfl (XS.aloadN X793.here hx rfl (hb hby d3_18) rfl rfl k))
  show own_G (T793.setTop (mkF m 19 #[oA a, oJ hi, oS, oJ lo, oS, oI np, oU, oU, oU, oU, oU, oU, oU, oU, oU, oU, oU, oU, oU, oU] [(.ref a), (.int np)]))
  obtain ⟨T794, X794, e794, st794⟩ := getF X793 hx hZ hown (host := "") (Or.inl (hw _ (own_m 22 rfl))) Via.refl e793 Fp (g := (mkF m 19 #[oA a, oJ hi, oS, oJ lo, oS, oI np, oU, oU, oU, oU, oU, oU, oU, oU, oU, oU, oU, oU, oU, oU] [(.ref a), (.int np)])) rfl rfl (hb hby d3_19)
  refine up ?_ st794
  show own_G (T794.setTop (mkF m 22 #[oA a, oJ hi, oS, oJ lo, oS, oI np, oU, oU, oU, oU, oU, oU, oU, oU, oU, oU, oU, oU, oU, oU] [(.int pw), (.int np)]))
  refine up ?_ fun t k => XS.icmpYes X794.here hx rfl (pc0 := 22) (pc' := 42) rfl (hb hby d3_22) rfl (flt (hge : ¬ (np < pw))).2.1 (by decide) (by decide) (XS.iload X794.here hx rfl (hb hby d3_42) rfl (XS.aloadN X794.here hx rfl (hb hby d3_44) rfl rfl k))
  show own_G (T794.setTop (mkF m 45 #[oA a, oJ hi, oS, oJ lo, oS, oI np, oU, oU, oU, oU, oU, oU, oU, oU, oU, oU, oU, oU, oU, oU] [(.ref a), (.int np)]))
  obtain ⟨T795, X795, e795, st795⟩ := getF X794 hx hZ hown (host := "") (Or.inl (hw _ (own_m 22 rfl))) Via.refl e794 Fp (g := (mkF m 45 #[oA a, oJ hi, oS, oJ lo, oS, oI np, oU, oU, oU, oU, oU, oU, oU, oU, oU, oU, oU, oU, oU, oU] [(.ref a), (.int np)])) rfl rfl (hb hby d3_45)
  refine up ?_ st795
  show own_G (T795.setTop (mkF m 48 #[oA a, oJ hi, oS, oJ lo, oS, oI np, oU, oU, oU, oU, oU, oU, oU, oU, oU, oU, oU, oU, oU, oU] [(.int pw), (.int np)]))
  refine up ?_ fun t k => XS.isub X795.here hx rfl (hb hby d3_48) rfl (XS.istore X795.here hx rfl (hb hby d3_49) rfl (l' := #[oA a, oJ hi, oS, oJ lo, oS, oI np, oI (np - pw), oU, oU, oU, oU, oU, oU, oU, oU, oU, oU, oU, oU, oU]) rfl k)
  show own_G (T795.setTop (mkF m 51 #[oA a, oJ hi, oS, oJ lo, oS, oI np, oI (np - pw), oU, oU, oU, oU, oU, oU, oU, oU, oU, oU, oU, oU, oU] []))
  rw [hoff]
  show own_G (T795.setTop (mkF m 51 #[oA a, oJ hi, oS, oJ lo, oS, oI np, oI bs, oU, oU, oU, oU, oU, oU, oU, oU, oU, oU, oU, oU, oU] []))
  refine up ?_ fun t k => XS.iload X795.here hx rfl (hb hby d3_51) rfl (XS.bipush X795.here hx rfl (hb hby d3_53) (XS.iushr X795.here hx rfl (hb hby d3_55) rfl (XS.istore X795.here hx rfl (hb hby d3_56) rfl (l' := #[oA a, oJ hi, oS, oJ lo, oS, oI np, oI bs, oI ((bs.toUInt32 >>> ((6 : Int32) &&& 31).toUInt32).toInt32), oU, oU, oU, oU, oU, oU, oU, oU, oU, oU, oU, oU]) rfl k)))
  show own_G (T795.setTop (mkF m 58 #[oA a, oJ hi, oS, oJ lo, oS, oI np, oI bs, oI ((bs.toUInt32 >>> ((6 : Int32) &&& 31).toUInt32).toInt32), oU, oU, oU, oU, oU, oU, oU, oU, oU, oU, oU, oU] []))
  rw [hat]
  show own_G (T795.setTop (mkF m 58 #[oA a, oJ hi, oS, oJ lo, oS, oI np, oI bs, oI (0 : Int32), oU, oU, oU, oU, oU, oU, oU, oU, oU, oU, oU, oU] []))
  refine up ?_ fun t k => XS.iload X795.here hx rfl (hb hby d3_58) rfl (XS.bipush X795.here hx rfl (hb hby d3_60) (XS.iand X795.here hx rfl (hb hby d3_62) rfl (XS.istore X795.here hx rfl (hb hby d3_63) rfl (l' := #[oA a, oJ hi, oS, oJ lo, oS, oI np, oI bs, oI (0 : Int32), oI (bs &&& (63 : Int32)), oU, oU, oU, oU, oU, oU, oU, oU, oU, oU, oU]) rfl k)))
  show own_G (T795.setTop (mkF m 65 #[oA a, oJ hi, oS, oJ lo, oS, oI np, oI bs, oI (0 : Int32), oI (bs &&& (63 : Int32)), oU, oU, oU, oU, oU, oU, oU, oU, oU, oU, oU] []))
  rw [hbt]
  show own_G (T795.setTop (mkF m 65 #[oA a, oJ hi, oS, oJ lo, oS, oI np, oI bs, oI (0 : Int32), oI bs, oU, oU, oU, oU, oU, oU, oU, oU, oU, oU, oU] []))
  refine up ?_ fun t k => XS.lloadN X795.here hx rfl (hb hby d3_65) rfl (XS.iload X795.here hx rfl (hb hby d3_66) rfl (XS.lshl X795.here hx rfl (hb hby d3_68) rfl (XS.lstore X795.here hx rfl (hb hby d3_69) rfl (l' := #[oA a, oJ hi, oS, oJ lo, oS, oI np, oI bs, oI (0 : Int32), oI bs, oJ (lo <<< (bs &&& 0x3f).toInt64), oS, oU, oU, oU, oU, oU, oU, oU, oU, oU]) rfl k)))
  show own_G (T795.setTop (mkF m 71 #[oA a, oJ hi, oS, oJ lo, oS, oI np, oI bs, oI (0 : Int32), oI bs, oJ (lo <<< (bs &&& 0x3f).toInt64), oS, oU, oU, oU, oU, oU, oU, oU, oU, oU] []))
  show own_G (T795.setTop (mkF m 71 #[oA a, oJ hi, oS, oJ lo, oS, oI np, oI bs, oI (0 : Int32), oI bs, oJ (own_s1 lo bs), oS, oU, oU, oU, oU, oU, oU, oU, oU, oU] []))
  refine up ?_ fun t k => XS.lloadN X795.here hx rfl (hb hby d3_71) rfl (XS.iload X795.here hx rfl (hb hby d3_72) rfl (XS.lshl X795.here hx rfl (hb hby d3_74) rfl (XS.lloadN X795.here hx rfl (hb hby d3_75) rfl (XS.iconst X795.here hx rfl (hb hby d3_76) (XS.lushr X795.here hx rfl (hb hby d3_77) rfl (XS.bipush X795.here hx rfl (hb hby d3_78) (XS.iload X795.here hx rfl (hb hby d3_80) rfl (XS.isub X795.here hx rfl (hb hby d3_82) rfl (XS.lushr X795.here hx rfl (hb hby d3_83) rfl k)))))))))
  show own_G (T795.setTop (mkF m 84 #[oA a, oJ hi, oS, oJ lo, oS, oI np, oI bs, oI (0 : Int32), oI bs, oJ (own_s1 lo bs), oS, oU, oU, oU, oU, oU, oU, oU, oU, oU] [(.long ((((lo.toUInt64 >>> ((1 : Int32) &&& 0x3f).toInt64.toUInt64).toInt64).toUInt64 >>> (((63 : Int32) - bs) &&& 0x3f).toInt64.toUInt64).toInt64)), (.long (hi <<< (bs &&& 0x3f).toInt64))]))
  refine up ?_ fun t k => XS.lor X795.here hx rfl (hb hby d3_84) rfl (XS.lstore X795.here hx rfl (hb hby d3_85) rfl (l' := #[oA a, oJ hi, oS, oJ lo, oS, oI np, oI bs, oI (0 : Int32), oI bs, oJ (own_s1 lo bs), oS, oJ ((hi <<< (bs &&& 0x3f).toInt64) ||| ((((lo.toUInt64 >>> ((1 : Int32) &&& 0x3f).toInt64.toUInt64).toInt64).toUInt64 >>> (((63 : Int32) - bs) &&& 0x3f).toInt64.toUInt64).toInt64)), oS, oU, oU, oU, oU, oU, oU, oU]) rfl k)
  show own_G (T795.setTop (mkF m 87 #[oA a, oJ hi, oS, oJ lo, oS, oI np, oI bs, oI (0 : Int32), oI bs, oJ (own_s1 lo bs), oS, oJ ((hi <<< (bs &&& 0x3f).toInt64) ||| ((((lo.toUInt64 >>> ((1 : Int32) &&& 0x3f).toInt64.toUInt64).toInt64).toUInt64 >>> (((63 : Int32) - bs) &&& 0x3f).toInt64.toUInt64).toInt64)), oS, oU, oU, oU, oU, oU, oU, oU] []))
  show own_G (T795.setTop (mkF m 87 #[oA a, oJ hi, oS, oJ lo, oS, oI np, oI bs, oI (0 : Int32), oI bs, oJ (own_s1 lo bs), oS, oJ (own_s2 hi lo bs), oS, oU, oU, oU, oU, oU, oU, oU] []))
  refine up ?_ fun t k => XS.lloadN X795.here hx rfl (hb hby d3_87) rfl (XS.iconst X795.here hx rfl (hb hby d3_88) (XS.lshr X795.here hx rfl (hb hby d3_89) rfl (XS.bipush X795.here hx rfl (hb hby d3_90) (XS.iload X795.here hx rfl (hb hby d3_92) rfl (XS.isub X795.here hx rfl (hb hby d3_94) rfl (XS.lshr X795.here hx rfl (hb hby d3_95) rfl (XS.lstore X795.here hx rfl (hb hby d3_96) rfl (l' := #[oA a, oJ hi, oS, oJ lo, oS, oI np, oI bs, oI (0 : Int32), oI bs, oJ (own_s1 lo bs), oS, oJ (own_s2 hi lo bs), oS, oJ ((hi >>> ((1 : Int32) &&& 0x3f).toInt64) >>> (((63 : Int32) - bs) &&& 0x3f).toInt64), oS, oU, oU, oU, oU, oU]) rfl k)))))))
  show own_G (T795.setTop (mkF m 98 #[oA a, oJ hi, oS, oJ lo, oS, oI np, oI bs, oI (0 : Int32), oI bs, oJ (own_s1 lo bs), oS, oJ (own_s2 hi lo bs), oS, oJ ((hi >>> ((1 : Int32) &&& 0x3f).toInt64) >>> (((63 : Int32) - bs) &&& 0x3f).toInt64), oS, oU, oU, oU, oU, oU] []))
  show own_G (T795.setTop (mkF m 98 #[oA a, oJ hi, oS, oJ lo, oS, oI np, oI bs, oI (0 : Int32), oI bs, oJ (own_s1 lo bs), oS, oJ (own_s2 hi lo bs), oS, oJ (own_s3 hi bs), oS, oU, oU, oU, oU, oU] []))
  refine up ?_ fun t k => XS.aloadN X795.here hx rfl (hb hby d3_98) rfl rfl (XS.iload X795.here hx rfl (hb hby d3_99) rfl (XS.iconst X795.here hx rfl (hb hby d3_101) (XS.iadd X795.here hx rfl (hb hby d3_102) rfl k)))
  show own_G (T795.setTop (mkF m 103 #[oA a, oJ hi, oS, oJ lo, oS, oI np, oI bs, oI (0 : Int32), oI bs, oJ (own_s1 lo bs), oS, oJ (own_s2 hi lo bs), oS, oJ (own_s3 hi bs), oS, oU, oU, oU, oU, oU] [(.int (3 : Int32)), (.ref a)]))
  obtain ⟨cq796, q796, q796'⟩ := E_a.cell
  obtain ⟨_, _, ⟨T796, L796, k796, n796⟩, -, X796, ⟨Lc796, hQ796, l796, y796, z796⟩, st796⟩ := X795.privateBack hx (y := (⟨"com/example/eventweir/eventweir/ExactSum", "widen", "(I)V"⟩ : MethodName)) hown (mvT hZ (hw _ (own_m 24 rfl))) (mvT hZ (hw _ (own_m 25 rfl))) (own_sel (by decide) (mvT hZ (hw _ (own_m 25 rfl))) (mvP hZ (hw _ (own_m 26 rfl))) (mvT hZ (hw _ (own_m 3 rfl)))) (Cond.privateMethod_at (mvP hZ (hw _ (own_m 26 rfl)) (args := #[]))) (mvT hZ (hw _ (own_m 27 rfl))) (by decide) (backOf (W := 0) (rmw23 l Z a0 hw [] a r kr zc pw tl x0 x1 x2 h0 n0 Z0 ⟨E_a, Fw, Fl, Fp, V⟩ g_a g_r hc ) hZ (hw _ (own_m 27 rfl)) (hw _ (own_m 4 rfl)) (by decide) (by decide)) (g := (mkF m 103 #[oA a, oJ hi, oS, oJ lo, oS, oI np, oI bs, oI (0 : Int32), oI bs, oJ (own_s1 lo bs), oS, oJ (own_s2 hi lo bs), oS, oJ (own_s3 hi bs), oS, oU, oU, oU, oU, oU] [(.int (3 : Int32)), (.ref a)])) rfl (by rw [hml]; rfl) (Steps.refl _) (a := a) (by rw [e795]; exact q796) q796' (argsL := [(.int (3 : Int32))]) (rest := []) (lenOf own_pd6 rfl) rfl (by show 2 * 0 + _ ≤ _; exact Nat.le_of_eq rfl) (hb hby d3_103) (fun _ _ => ⟨rfl, e795, (by decide : 0 + 0 ≤ _), (by decide : 0 + 0 ≤ _)⟩)
  dsimp only [Pt.U, Pt.locs, Pt.cells, Pt.slots] at X796 l796 y796 z796 st796 hQ796
  subst l796 y796 z796
  obtain ⟨rfl, Nq796, hsq796, Eq796, Fwq796, Flq796, Fpq796, Vq796⟩ := hQ796
  have N796 := Fr.app N0 Nq796
  have kq797 := Nat.le_trans (Nat.le_refl h0.size) hsq796
  have Zs798 : n0 ≤ T796.heap.size := Nat.le_trans Z0 hsq796
  refine up ?_ (fun t k => st796.trans k)
  show own_G (T796.setTop (mkF m 106 #[oA a, oJ hi, oS, oJ lo, oS, oI np, oI bs, oI (0 : Int32), oI bs, oJ (own_s1 lo bs), oS, oJ (own_s2 hi lo bs), oS, oJ (own_s3 hi bs), oS, oU, oU, oU, oU, oU] []))
  exact blB3 Z a0 hw r kr zc pw tl x0 x1 (own_sg x1) h0 hi lo np bs bs (own_s1 lo bs) (own_s2 hi lo bs) (own_s3 hi bs) y0 y1 y2 T796.heap n0 Zs798 ⟨Eq796, Fwq796, Flq796, Fpq796, Vq796⟩ g_a g_r hc kq797 hy0 hy1 hy2 htop (X796.mono (by decide) (by decide)) hx hZ hby hml hown hlk hret rfl N796
theorem rmaA3 (l : Launch) (Z : State) (a0 : Array Value) (hw : own_W Z a0) (ws : List Jvm.Cond) (a : Addr) (hi : Int64) (lo : Int64) (np : Int32) (r : Addr) (kr : ClassId) (zc : Int32) (pw : Int32) (tl : List Value) (x0 : Int64) (x1 : Int64) (x2 : Int64) (bs : Int32) (y0 : Int64) (y1 : Int64) (y2 : Int64) (h0 : Heap) (n0 : Nat) (Z0 : n0 ≤ h0.size) (O0 : own_O Z h0 a r kr zc (3 : Int32) pw ((.long x0) :: (.long x1) :: (.long x2) :: tl)) (g_a : n0 ≤ a) (g_r : n0 ≤ r) (hc : own_cap zc tl) (hge : ¬ (np < pw)) (hoff : (np - pw) = bs) (hat : ((bs.toUInt32 >>> ((6 : Int32) &&& 31).toUInt32).toInt32) = (0 : Int32)) (hbt : (bs &&& (63 : Int32)) = bs) (hy0 : ((x0 + (own_s1 lo bs)) + (0 : Int64)) = y0) (hy1 : ((x1 + (own_s2 hi lo bs)) + (own_co x0 (own_s1 lo bs) y0)) = y1) (hy2 : ((x2 + (own_s3 hi bs)) + (own_co x1 (own_s2 hi lo bs) y1)) = y2) (htop : y2 = own_sg y1) :
    own_M l Z (⟨"com/example/eventweir/eventweir/ExactSum", "add", "(JJI)V"⟩ : MethodName) prog_78_method_3_code 20 none ws ({ frames := 5, cells := 2, slots := 8, locals := 150 } : Room) #[(.ref a), (.long hi), (.long lo), (.int np)] h0 (own_Q_add Z a y0 y1 pw h0 n0) := by
  refine own_body (plainFor_of_name own_pn0) ?_
  intro p e s m below meth c s₁ hx hZ hby hml hown hnm hlk hret X0 e0
  have N0 := Fr.nil n0
  obtain ⟨E_a, Fw, Fl, Fp, V⟩ := O0
  have ne_ar : a ≠ r := E_a.neArv V (hw _ (own_m 3 rfl))
  refine up (U' := s₁.setTop (mkF m 0 #[oA a, oJ hi, oS, oJ lo, oS, oI np, oU, oU, oU, oU, oU, oU, oU, oU, oU, oU, oU, oU, oU, oU] [])) ?_ (fun t k => castTop (own_ef_rma0c m a hi lo np) k)
  refine up ?_ fun t k => XS.aloadN X0.here hx rfl (hb hby d3_0) rfl rfl k
  show own_G (s₁.setTop (mkF m 1 #[oA a, oJ hi, oS, oJ lo, oS, oI np, oU, oU, oU, oU, oU, oU, oU, oU, oU, oU, oU, oU, oU, oU] [(.ref a)]))
  obtain ⟨T799, X799, e799, st799⟩ := getF X0 hx hZ hown (host := "") (Or.inl (hw _ (own_m 20 rfl))) Via.refl e0 Fl (g := (mkF m 1 #[oA a, oJ hi, oS, oJ lo, oS, oI np, oU, oU, oU, oU, oU, oU, oU, oU, oU, oU, oU, oU, oU, oU] [(.ref a)])) rfl rfl (hb hby d3_1)
  refine up ?_ st799
  show own_G (T799.setTop (mkF m 4 #[oA a, oJ hi, oS, oJ lo, oS, oI np, oU, oU, oU, oU, oU, oU, oU, oU, oU, oU, oU, oU, oU, oU] [(.int (3 : Int32))]))
  refine up ?_ fun t k => XS.ifYes X799.here hx rfl (pc0 := 4) (pc' := 16) rfl (hb hby d3_4) rfl ((if0 _ _).trans (feq (by decide : ¬ ((3 : Int32) = (0 : Int32)))).2) (by decide) (by decide) (XS.iload X799.here hx rfl (hb hby d3_16) rfl (XS.aloadN X799.here hx rfl (hb hby d3_18) rfl rfl k))
  show own_G (T799.setTop (mkF m 19 #[oA a, oJ hi, oS, oJ lo, oS, oI np, oU, oU, oU, oU, oU, oU, oU, oU, oU, oU, oU, oU, oU, oU] [(.ref a), (.int np)]))
  obtain ⟨T800, X800, e800, st800⟩ := getF X799 hx hZ hown (host := "") (Or.inl (hw _ (own_m 22 rfl))) Via.refl e799 Fp (g := (mkF m 19 #[oA a, oJ hi, oS, oJ lo, oS, oI np, oU, oU, oU, oU, oU, oU, oU, oU, oU, oU, oU, oU, oU, oU] [(.ref a), (.int np)])) rfl rfl (hb hby d3_19)
  refine up ?_ st800
  show own_G (T800.setTop (mkF m 22 #[oA a, oJ hi, oS, oJ lo, oS, oI np, oU, oU, oU, oU, oU, oU, oU, oU, oU, oU, oU, oU, oU, oU] [(.int pw), (.int np)]))
  refine up ?_ fun t k => XS.icmpYes X800.here hx rfl (pc0 := 22) (pc' := 42) rfl (hb hby d3_22) rfl (flt (hge : ¬ (np < pw))).2.1 (by decide) (by decide) (XS.iload X800.here hx rfl (hb hby d3_42) rfl (XS.aloadN X800.here hx rfl (hb hby d3_44) rfl rfl k))
  show own_G (T800.setTop (mkF m 45 #[oA a, oJ hi, oS, oJ lo, oS, oI np, oU, oU, oU, oU, oU, oU, oU, oU, oU, oU, oU, oU, oU, oU] [(.ref a), (.int np)]))
  obtain ⟨T801, X801, e801, st801⟩ := getF X800 hx hZ hown (host := "") (Or.inl (hw _ (own_m 22 rfl))) Via.refl e800 Fp (g := (mkF m 45 #[oA a, oJ hi, oS, oJ lo, oS, oI np, oU, oU, oU, oU, oU, oU, oU, oU, oU, oU, oU, oU, oU, oU] [(.ref a), (.int np)])) rfl rfl (hb hby d3_45)
  refine up ?_ st801
  show own_G (T801.setTop (mkF m 48 #[oA a, oJ hi, oS, oJ lo, oS, oI np, oU, oU, oU, oU, oU, oU, oU, oU, oU, oU, oU, oU, oU, oU] [(.int pw), (.int np)]))
  refine up ?_ fun t k => XS.isub X801.here hx rfl (hb hby d3_48) rfl (XS.istore X801.here hx rfl (hb hby d3_49) rfl (l' := #[oA a, oJ hi, oS, oJ lo, oS, oI np, oI (np - pw), oU, oU, oU, oU, oU, oU, oU, oU, oU, oU, oU, oU, oU]) rfl k)
  show own_G (T801.setTop (mkF m 51 #[oA a, oJ hi, oS, oJ lo, oS, oI np, oI (np - pw), oU, oU, oU, oU, oU, oU, oU, oU, oU, oU, oU, oU, oU] []))
  rw [hoff]
  show own_G (T801.setTop (mkF m 51 #[oA a, oJ hi, oS, oJ lo, oS, oI np, oI bs, oU, oU, oU, oU, oU, oU, oU, oU, oU, oU, oU, oU, oU] []))
  refine up ?_ fun t k => XS.iload X801.here hx rfl (hb hby d3_51) rfl (XS.bipush X801.here hx rfl (hb hby d3_53) (XS.iushr X801.here hx rfl (hb hby d3_55) rfl (XS.istore X801.here hx rfl (hb hby d3_56) rfl (l' := #[oA a, oJ hi, oS, oJ lo, oS, oI np, oI bs, oI ((bs.toUInt32 >>> ((6 : Int32) &&& 31).toUInt32).toInt32), oU, oU, oU, oU, oU, oU, oU, oU, oU, oU, oU, oU]) rfl k)))
  show own_G (T801.setTop (mkF m 58 #[oA a, oJ hi, oS, oJ lo, oS, oI np, oI bs, oI ((bs.toUInt32 >>> ((6 : Int32) &&& 31).toUInt32).toInt32), oU, oU, oU, oU, oU, oU, oU, oU, oU, oU, oU, oU] []))
  rw [hat]
  show own_G (T801.setTop (mkF m 58 #[oA a, oJ hi, oS, oJ lo, oS, oI np, oI bs, oI (0 : Int32), oU, oU, oU, oU, oU, oU, oU, oU, oU, oU, oU, oU] []))
  refine up ?_ fun t k => XS.iload X801.here hx rfl (hb hby d3_58) rfl (XS.bipush X801.here hx rfl (hb hby d3_60) (XS.iand X801.here hx rfl (hb hby d3_62) rfl (XS.istore X801.here hx rfl (hb hby d3_63) rfl (l' := #[oA a, oJ hi, oS, oJ lo, oS, oI np, oI bs, oI (0 : Int32), oI (bs &&& (63 : Int32)), oU, oU, oU, oU, oU, oU, oU, oU, oU, oU, oU]) rfl k)))
  show own_G (T801.setTop (mkF m 65 #[oA a, oJ hi, oS, oJ lo, oS, oI np, oI bs, oI (0 : Int32), oI (bs &&& (63 : Int32)), oU, oU, oU, oU, oU, oU, oU, oU, oU, oU, oU] []))
  rw [hbt]
  show own_G (T801.setTop (mkF m 65 #[oA a, oJ hi, oS, oJ lo, oS, oI np, oI bs, oI (0 : Int32), oI bs, oU, oU, oU, oU, oU, oU, oU, oU, oU, oU, oU] []))
  refine up ?_ fun t k => XS.lloadN X801.here hx rfl (hb hby d3_65) rfl (XS.iload X801.here hx rfl (hb hby d3_66) rfl (XS.lshl X801.here hx rfl (hb hby d3_68) rfl (XS.lstore X801.here hx rfl (hb hby d3_69) rfl (l' := #[oA a, oJ hi, oS, oJ lo, oS, oI np, oI bs, oI (0 : Int32), oI bs, oJ (lo <<< (bs &&& 0x3f).toInt64), oS, oU, oU, oU, oU, oU, oU, oU, oU, oU]) rfl k)))
  show own_G (T801.setTop (mkF m 71 #[oA a, oJ hi, oS, oJ lo, oS, oI np, oI bs, oI (0 : Int32), oI bs, oJ (lo <<< (bs &&& 0x3f).toInt64), oS, oU, oU, oU, oU, oU, oU, oU, oU, oU] []))
  show own_G (T801.setTop (mkF m 71 #[oA a, oJ hi, oS, oJ lo, oS, oI np, oI bs, oI (0 : Int32), oI bs, oJ (own_s1 lo bs), oS, oU, oU, oU, oU, oU, oU, oU, oU, oU] []))
  refine up ?_ fun t k => XS.lloadN X801.here hx rfl (hb hby d3_71) rfl (XS.iload X801.here hx rfl (hb hby d3_72) rfl (XS.lshl X801.here hx rfl (hb hby d3_74) rfl (XS.lloadN X801.here hx rfl (hb hby d3_75) rfl (XS.iconst X801.here hx rfl (hb hby d3_76) (XS.lushr X801.here hx rfl (hb hby d3_77) rfl (XS.bipush X801.here hx rfl (hb hby d3_78) (XS.iload X801.here hx rfl (hb hby d3_80) rfl (XS.isub X801.here hx rfl (hb hby d3_82) rfl (XS.lushr X801.here hx rfl (hb hby d3_83) rfl k)))))))))
  show own_G (T801.setTop (mkF m 84 #[oA a, oJ hi, oS, oJ lo, oS, oI np, oI bs, oI (0 : Int32), oI bs, oJ (own_s1 lo bs), oS, oU, oU, oU, oU, oU, oU, oU, oU, oU] [(.long ((((lo.toUInt64 >>> ((1 : Int32) &&& 0x3f).toInt64.toUInt64).toInt64).toUInt64 >>> (((63 : Int32) - bs) &&& 0x3f).toInt64.toUInt64).toInt64)), (.long (hi <<< (bs &&& 0x3f).toInt64))]))
  refine up ?_ fun t k => XS.lor X801.here hx rfl (hb hby d3_84) rfl (XS.lstore X801.here hx rfl (hb hby d3_85) rfl (l' := #[oA a, oJ hi, oS, oJ lo, oS, oI np, oI bs, oI (0 : Int32), oI bs, oJ (own_s1 lo bs), oS, oJ ((hi <<< (bs &&& 0x3f).toInt64) ||| ((((lo.toUInt64 >>> ((1 : Int32) &&& 0x3f).toInt64.toUInt64).toInt64).toUInt64 >>> (((63 : Int32) - bs) &&& 0x3f).toInt64.toUInt64).toInt64)), oS, oU, oU, oU, oU, oU, oU, oU]) rfl k)
  show own_G (T801.setTop (mkF m 87 #[oA a, oJ hi, oS, oJ lo, oS, oI np, oI bs, oI (0 : Int32), oI bs, oJ (own_s1 lo bs), oS, oJ ((hi <<< (bs &&& 0x3f).toInt64) ||| ((((lo.toUInt64 >>> ((1 : Int32) &&& 0x3f).toInt64.toUInt64).toInt64).toUInt64 >>> (((63 : Int32) - bs) &&& 0x3f).toInt64.toUInt64).toInt64)), oS, oU, oU, oU, oU, oU, oU, oU] []))
  show own_G (T801.setTop (mkF m 87 #[oA a, oJ hi, oS, oJ lo, oS, oI np, oI bs, oI (0 : Int32), oI bs, oJ (own_s1 lo bs), oS, oJ (own_s2 hi lo bs), oS, oU, oU, oU, oU, oU, oU, oU] []))
  refine up ?_ fun t k => XS.lloadN X801.here hx rfl (hb hby d3_87) rfl (XS.iconst X801.here hx rfl (hb hby d3_88) (XS.lshr X801.here hx rfl (hb hby d3_89) rfl (XS.bipush X801.here hx rfl (hb hby d3_90) (XS.iload X801.here hx rfl (hb hby d3_92) rfl (XS.isub X801.here hx rfl (hb hby d3_94) rfl (XS.lshr X801.here hx rfl (hb hby d3_95) rfl (XS.lstore X801.here hx rfl (hb hby d3_96) rfl (l' := #[oA a, oJ hi, oS, oJ lo, oS, oI np, oI bs, oI (0 : Int32), oI bs, oJ (own_s1 lo bs), oS, oJ (own_s2 hi lo bs), oS, oJ ((hi >>> ((1 : Int32) &&& 0x3f).toInt64) >>> (((63 : Int32) - bs) &&& 0x3f).toInt64), oS, oU, oU, oU, oU, oU]) rfl k)))))))
  show own_G (T801.setTop (mkF m 98 #[oA a, oJ hi, oS, oJ lo, oS, oI np, oI bs, oI (0 : Int32), oI bs, oJ (own_s1 lo bs), oS, oJ (own_s2 hi lo bs), oS, oJ ((hi >>> ((1 : Int32) &&& 0x3f).toInt64) >>> (((63 : Int32) - bs) &&& 0x3f).toInt64), oS, oU, oU, oU, oU, oU] []))
  show own_G (T801.setTop (mkF m 98 #[oA a, oJ hi, oS, oJ lo, oS, oI np, oI bs, oI (0 : Int32), oI bs, oJ (own_s1 lo bs), oS, oJ (own_s2 hi lo bs), oS, oJ (own_s3 hi bs), oS, oU, oU, oU, oU, oU] []))
  refine up ?_ fun t k => XS.aloadN X801.here hx rfl (hb hby d3_98) rfl rfl (XS.iload X801.here hx rfl (hb hby d3_99) rfl (XS.iconst X801.here hx rfl (hb hby d3_101) (XS.iadd X801.here hx rfl (hb hby d3_102) rfl k)))
  show own_G (T801.setTop (mkF m 103 #[oA a, oJ hi, oS, oJ lo, oS, oI np, oI bs, oI (0 : Int32), oI bs, oJ (own_s1 lo bs), oS, oJ (own_s2 hi lo bs), oS, oJ (own_s3 hi bs), oS, oU, oU, oU, oU, oU] [(.int (3 : Int32)), (.ref a)]))
  obtain ⟨cq802, q802, q802'⟩ := E_a.cell
  obtain ⟨_, _, ⟨T802, L802, k802, n802⟩, -, X802, ⟨Lc802, hQ802, l802, y802, z802⟩, st802⟩ := X801.privateBack hx (y := (⟨"com/example/eventweir/eventweir/ExactSum", "widen", "(I)V"⟩ : MethodName)) hown (mvT hZ (hw _ (own_m 24 rfl))) (mvT hZ (hw _ (own_m 25 rfl))) (own_sel (by decide) (mvT hZ (hw _ (own_m 25 rfl))) (mvP hZ (hw _ (own_m 26 rfl))) (mvT hZ (hw _ (own_m 3 rfl)))) (Cond.privateMethod_at (mvP hZ (hw _ (own_m 26 rfl)) (args := #[]))) (mvT hZ (hw _ (own_m 27 rfl))) (by decide) (backOf (W := 0) (rmwr l Z a0 hw [] a (3 : Int32) (3 : Int32) h0 n0 Z0 Fl (by decide)) hZ (hw _ (own_m 27 rfl)) (hw _ (own_m 4 rfl)) (by decide) (by decide)) (g := (mkF m 103 #[oA a, oJ hi, oS, oJ lo, oS, oI np, oI bs, oI (0 : Int32), oI bs, oJ (own_s1 lo bs), oS, oJ (own_s2 hi lo bs), oS, oJ (own_s3 hi bs), oS, oU, oU, oU, oU, oU] [(.int (3 : Int32)), (.ref a)])) rfl (by rw [hml]; rfl) (Steps.refl _) (a := a) (by rw [e801]; exact q802) q802' (argsL := [(.int (3 : Int32))]) (rest := []) (lenOf own_pd6 rfl) rfl (by show 2 * 0 + _ ≤ _; exact Nat.le_of_eq rfl) (hb hby d3_103) (fun _ _ => ⟨rfl, e801, (by decide : 0 + 0 ≤ _), (by decide : 0 + 0 ≤ _)⟩)
  dsimp only [Pt.U, Pt.locs, Pt.cells, Pt.slots] at X802 l802 y802 z802 st802 hQ802
  subst l802 y802 z802
  obtain ⟨rfl, Nq802, e802⟩ := hQ802
  have N802 := Fr.app N0 Nq802
  refine up ?_ (fun t k => st802.trans k)
  show own_G (T802.setTop (mkF m 106 #[oA a, oJ hi, oS, oJ lo, oS, oI np, oI bs, oI (0 : Int32), oI bs, oJ (own_s1 lo bs), oS, oJ (own_s2 hi lo bs), oS, oJ (own_s3 hi bs), oS, oU, oU, oU, oU, oU] []))
  exact blB3 Z a0 hw r kr zc pw tl x0 x1 x2 h0 hi lo np bs bs (own_s1 lo bs) (own_s2 hi lo bs) (own_s3 hi bs) y0 y1 y2 h0 n0 Z0 ⟨E_a, Fw, Fl, Fp, V⟩ g_a g_r hc (Nat.le_refl h0.size) hy0 hy1 hy2 htop (X802.mono (by decide) (by decide)) hx hZ hby hml hown hlk hret e802 N802
theorem rmaSA (l : Launch) (Z : State) (a0 : Array Value) (hw : own_W Z a0) (ws : List Jvm.Cond) (a : Addr) (hi : Int64) (lo : Int64) (np : Int32) (r : Addr) (kr : ClassId) (zc : Int32) (pw : Int32) (tl : List Value) (x0 : Int64) (x1 : Int64) (x2 : Int64) (bits : Int32) (bs : Int32) (y0 : Int64) (y1 : Int64) (y2 : Int64) (h0 : Heap) (n0 : Nat) (Z0 : n0 ≤ h0.size) (O0 : own_O Z h0 a r kr zc (2 : Int32) pw ((.long x0) :: (.long x1) :: (.long x2) :: tl)) (g_a : n0 ≤ a) (g_r : n0 ≤ r) (hc : own_cap zc tl) (hlt : np < pw) (hbt : (pw - np) = bits) (hws : ((bits.toUInt32 >>> ((6 : Int32) &&& 31).toUInt32).toInt32) = (0 : Int32)) (hbs : (bits &&& (63 : Int32)) = bs) (hy0 : (((own_s2 x0 (0 : Int64) bs) + (own_s1 lo (0 : Int32))) + (0 : Int64)) = y0) (hy1 : (((own_s2 x1 x0 bs) + (own_s2 hi lo (0 : Int32))) + (own_co (own_s2 x0 (0 : Int64) bs) (own_s1 lo (0 : Int32)) y0)) = y1) (hy2 : (((own_s2 (own_sg x1) x1 bs) + (own_s3 hi (0 : Int32))) + (own_co (own_s2 x1 x0 bs) (own_s2 hi lo (0 : Int32)) y1)) = y2) (htop : y2 = own_sg y1) :
    own_M l Z (⟨"com/example/eventweir/eventweir/ExactSum", "add", "(JJI)V"⟩ : MethodName) prog_78_method_3_code 20 none ws ({ frames := 5, cells := 2, slots := 8, locals := 150 } : Room) #[(.ref a), (.long hi), (.long lo), (.int np)] h0 (own_Q_add Z a y0 y1 np h0 n0) := by
  refine own_body (plainFor_of_name own_pn0) ?_
  intro p e s m below meth c s₁ hx hZ hby hml hown hnm hlk hret X0 e0
  have N0 := Fr.nil n0
  obtain ⟨E_a, Fw, Fl, Fp, V⟩ := O0
  have ne_ar : a ≠ r := E_a.neArv V (hw _ (own_m 3 rfl))
  refine up (U' := s₁.setTop (mkF m 0 #[oA a, oJ hi, oS, oJ lo, oS, oI np, oU, oU, oU, oU, oU, oU, oU, oU, oU, oU, oU, oU, oU, oU] [])) ?_ (fun t k => castTop (own_ef_rma0c m a hi lo np) k)
  refine up ?_ fun t k => XS.aloadN X0.here hx rfl (hb hby d3_0) rfl rfl k
  show own_G (s₁.setTop (mkF m 1 #[oA a, oJ hi, oS, oJ lo, oS, oI np, oU, oU, oU, oU, oU, oU, oU, oU, oU, oU, oU, oU, oU, oU] [(.ref a)]))
  obtain ⟨T803, X803, e803, st803⟩ := getF X0 hx hZ hown (host := "") (Or.inl (hw _ (own_m 20 rfl))) Via.refl e0 Fl (g := (mkF m 1 #[oA a, oJ hi, oS, oJ lo, oS, oI np, oU, oU, oU, oU, oU, oU, oU, oU, oU, oU, oU, oU, oU, oU] [(.ref a)])) rfl rfl (hb hby d3_1)
  refine up ?_ st803
  show own_G (T803.setTop (mkF m 4 #[oA a, oJ hi, oS, oJ lo, oS, oI np, oU, oU, oU, oU, oU, oU, oU, oU, oU, oU, oU, oU, oU, oU] [(.int (2 : Int32))]))
  refine up ?_ fun t k => XS.ifYes X803.here hx rfl (pc0 := 4) (pc' := 16) rfl (hb hby d3_4) rfl ((if0 _ _).trans (feq (by decide : ¬ ((2 : Int32) = (0 : Int32)))).2) (by decide) (by decide) (XS.iload X803.here hx rfl (hb hby d3_16) rfl (XS.aloadN X803.here hx rfl (hb hby d3_18) rfl rfl k))
  show own_G (T803.setTop (mkF m 19 #[oA a, oJ hi, oS, oJ lo, oS, oI np, oU, oU, oU, oU, oU, oU, oU, oU, oU, oU, oU, oU, oU, oU] [(.ref a), (.int np)]))
  obtain ⟨T804, X804, e804, st804⟩ := getF X803 hx hZ hown (host := "") (Or.inl (hw _ (own_m 22 rfl))) Via.refl e803 Fp (g := (mkF m 19 #[oA a, oJ hi, oS, oJ lo, oS, oI np, oU, oU, oU, oU, oU, oU, oU, oU, oU, oU, oU, oU, oU, oU] [(.ref a), (.int np)])) rfl rfl (hb hby d3_19)
  refine up ?_ st804
  show own_G (T804.setTop (mkF m 22 #[oA a, oJ hi, oS, oJ lo, oS, oI np, oU, oU, oU, oU, oU, oU, oU, oU, oU, oU, oU, oU, oU, oU] [(.int pw), (.int np)]))
  refine up ?_ fun t k => XS.icmpNo X804.here hx rfl (hb hby d3_22) rfl (tlt (hlt : (np < pw))).2.1 (XS.aloadN X804.here hx rfl (hb hby d3_25) rfl rfl (XS.aloadN X804.here hx rfl (hb hby d3_26) rfl rfl k))
  show own_G (T804.setTop (mkF m 27 #[oA a, oJ hi, oS, oJ lo, oS, oI np, oU, oU, oU, oU, oU, oU, oU, oU, oU, oU, oU, oU, oU, oU] [(.ref a), (.ref a)]))
  obtain ⟨T805, X805, e805, st805⟩ := getF X804 hx hZ hown (host := "") (Or.inl (hw _ (own_m 22 rfl))) Via.refl e804 Fp (g := (mkF m 27 #[oA a, oJ hi, oS, oJ lo, oS, oI np, oU, oU, oU, oU, oU, oU, oU, oU, oU, oU, oU, oU, oU, oU] [(.ref a), (.ref a)])) rfl rfl (hb hby d3_27)
  refine up ?_ st805
  show own_G (T805.setTop (mkF m 30 #[oA a, oJ hi, oS, oJ lo, oS, oI np, oU, oU, oU, oU, oU, oU, oU, oU, oU, oU, oU, oU, oU, oU] [(.int pw), (.ref a)]))
  refine up ?_ fun t k => XS.iload X805.here hx rfl (hb hby d3_30) rfl (XS.isub X805.here hx rfl (hb hby d3_32) rfl k)
  show own_G (T805.setTop (mkF m 33 #[oA a, oJ hi, oS, oJ lo, oS, oI np, oU, oU, oU, oU, oU, oU, oU, oU, oU, oU, oU, oU, oU, oU] [(.int (pw - np)), (.ref a)]))
  rw [hbt]
  show own_G (T805.setTop (mkF m 33 #[oA a, oJ hi, oS, oJ lo, oS, oI np, oU, oU, oU, oU, oU, oU, oU, oU, oU, oU, oU, oU, oU, oU] [(.int bits), (.ref a)]))
  obtain ⟨cq806, q806, q806'⟩ := E_a.cell
  obtain ⟨_, _, ⟨T806, L806, k806, n806⟩, -, X806, ⟨Lc806, hQ806, l806, y806, z806⟩, st806⟩ := X805.privateBack hx (y := (⟨"com/example/eventweir/eventweir/ExactSum", "shiftUp", "(I)V"⟩ : MethodName)) hown (mvT hZ (hw _ (own_m 59 rfl))) (mvT hZ (hw _ (own_m 60 rfl))) (own_sel (by decide) (mvT hZ (hw _ (own_m 60 rfl))) (mvP hZ (hw _ (own_m 61 rfl))) (mvT hZ (hw _ (own_m 3 rfl)))) (Cond.privateMethod_at (mvP hZ (hw _ (own_m 61 rfl)) (args := #[]))) (mvT hZ (hw _ (own_m 62 rfl))) (by decide) (backOf (W := 0) (rmsA l Z a0 hw [] a bits r kr zc pw tl x0 x1 x2 bs h0 n0 Z0 ⟨E_a, Fw, Fl, Fp, V⟩ g_a g_r hc hws hbs) hZ (hw _ (own_m 62 rfl)) (hw _ (own_m 4 rfl)) (by decide) (by decide)) (g := (mkF m 33 #[oA a, oJ hi, oS, oJ lo, oS, oI np, oU, oU, oU, oU, oU, oU, oU, oU, oU, oU, oU, oU, oU, oU] [(.int bits), (.ref a)])) rfl (by rw [hml]; rfl) (Steps.refl _) (a := a) (by rw [e805]; exact q806) q806' (argsL := [(.int bits)]) (rest := []) (lenOf own_pd6 rfl) rfl (by show 2 * 0 + _ ≤ _; exact Nat.le_of_eq rfl) (hb hby d3_33) (fun _ _ => ⟨rfl, e805, (by decide : 0 + 0 ≤ _), (by decide : 0 + 0 ≤ _)⟩)
  dsimp only [Pt.U, Pt.locs, Pt.cells, Pt.slots] at X806 l806 y806 z806 st806 hQ806
  subst l806 y806 z806
  obtain ⟨rfl, Nq806, hsq806, Eq806, Fwq806, Flq806, Fpq806, Vq806⟩ := hQ806
  have N806 := Fr.app N0 Nq806
  have kq807 := Nat.le_trans (Nat.le_refl h0.size) hsq806
  have Zs808 : n0 ≤ T806.heap.size := Nat.le_trans Z0 hsq806
  refine up ?_ (fun t k => st806.trans k)
  show own_G (T806.setTop (mkF m 36 #[oA a, oJ hi, oS, oJ lo, oS, oI np, oU, oU, oU, oU, oU, oU, oU, oU, oU, oU, oU, oU, oU, oU] []))
  refine up ?_ fun t k => XS.aloadN X806.here hx rfl (hb hby d3_36) rfl rfl (XS.iload X806.here hx rfl (hb hby d3_37) rfl k)
  show own_G (T806.setTop (mkF m 39 #[oA a, oJ hi, oS, oJ lo, oS, oI np, oU, oU, oU, oU, oU, oU, oU, oU, oU, oU, oU, oU, oU, oU] [(.int np), (.ref a)]))
  obtain ⟨T809, h809, X809, e809, W809, st809⟩ := putF X806 hx hZ hown (host := "") (Or.inl (hw _ (own_m 22 rfl))) Via.refl rfl Fpq806 Eq806 (Or.inl (hw _ (own_m 23 rfl))) (hw _ (own_m 3 rfl)) (ty := .int) (by decide) rfl rfl (g := (mkF m 39 #[oA a, oJ hi, oS, oJ lo, oS, oI np, oU, oU, oU, oU, oU, oU, oU, oU, oU, oU, oU, oU, oU, oU] [(.int np), (.ref a)])) rfl rfl (hb hby d3_39)
  refine up ?_ st809
  have Eq806_c810 := Eq806.wr W809
  have Fwq806_c810 := Fwq806.other W809 (Or.inr (slot_ne (Or.inl (hw _ (own_m 14 rfl))) (Or.inl (hw _ (own_m 23 rfl))) (by decide) (t := (.array .long)) (t' := .int) (by decide) (by decide)))
  have Flq806_c810 := Flq806.other W809 (Or.inr (slot_ne (Or.inl (hw _ (own_m 21 rfl))) (Or.inl (hw _ (own_m 23 rfl))) (by decide) (t := .int) (t' := .int) (by decide) (by decide)))
  have Vq806_c810 := Vq806.other W809 (Ne.symm (Eq806.neArv Vq806 (hw _ (own_m 3 rfl))))
  have F809 := Fpq806.same W809
  have N809 := Fr.snoc X809 N806 g_a
  have kq811 := Nat.le_trans kq807 (Keep.of_wr W809).1
  have Zs812 : n0 ≤ h809.size := Nat.le_trans Zs808 (Keep.of_wr W809).1
  show own_G (T809.setTop (mkF m 42 #[oA a, oJ hi, oS, oJ lo, oS, oI np, oU, oU, oU, oU, oU, oU, oU, oU, oU, oU, oU, oU, oU, oU] []))
  refine up ?_ fun t k => XS.iload X809.here hx rfl (hb hby d3_42) rfl (XS.aloadN X809.here hx rfl (hb hby d3_44) rfl rfl k)
  show own_G (T809.setTop (mkF m 45 #[oA a, oJ hi, oS, oJ lo, oS, oI np, oU, oU, oU, oU, oU, oU, oU, oU, oU, oU, oU, oU, oU, oU] [(.ref a), (.int np)]))
  obtain ⟨T813, X813, e813, st813⟩ := getF X809 hx hZ hown (host := "") (Or.inl (hw _ (own_m 22 rfl))) Via.refl e809 F809 (g := (mkF m 45 #[oA a, oJ hi, oS, oJ lo, oS, oI np, oU, oU, oU, oU, oU, oU, oU, oU, oU, oU, oU, oU, oU, oU] [(.ref a), (.int np)])) rfl rfl (hb hby d3_45)
  refine up ?_ st813
  show own_G (T813.setTop (mkF m 48 #[oA a, oJ hi, oS, oJ lo, oS, oI np, oU, oU, oU, oU, oU, oU, oU, oU, oU, oU, oU, oU, oU, oU] [(.int np), (.int np)]))
  refine up ?_ fun t k => XS.isub X813.here hx rfl (hb hby d3_48) rfl (XS.istore X813.here hx rfl (hb hby d3_49) rfl (l' := #[oA a, oJ hi, oS, oJ lo, oS, oI np, oI (np - np), oU, oU, oU, oU, oU, oU, oU, oU, oU, oU, oU, oU, oU]) rfl k)
  show own_G (T813.setTop (mkF m 51 #[oA a, oJ hi, oS, oJ lo, oS, oI np, oI (np - np), oU, oU, oU, oU, oU, oU, oU, oU, oU, oU, oU, oU, oU] []))
  rw [Int32.sub_self]
  show own_G (T813.setTop (mkF m 51 #[oA a, oJ hi, oS, oJ lo, oS, oI np, oI (0 : Int32), oU, oU, oU, oU, oU, oU, oU, oU, oU, oU, oU, oU, oU] []))
  refine up ?_ fun t k => XS.iload X813.here hx rfl (hb hby d3_51) rfl (XS.bipush X813.here hx rfl (hb hby d3_53) (XS.iushr X813.here hx rfl (hb hby d3_55) rfl (XS.istore X813.here hx rfl (hb hby d3_56) rfl (l' := #[oA a, oJ hi, oS, oJ lo, oS, oI np, oI (0 : Int32), oI (((0 : Int32).toUInt32 >>> ((6 : Int32) &&& 31).toUInt32).toInt32), oU, oU, oU, oU, oU, oU, oU, oU, oU, oU, oU, oU]) rfl k)))
  show own_G (T813.setTop (mkF m 58 #[oA a, oJ hi, oS, oJ lo, oS, oI np, oI (0 : Int32), oI (((0 : Int32).toUInt32 >>> ((6 : Int32) &&& 31).toUInt32).toInt32), oU, oU, oU, oU, oU, oU, oU, oU, oU, oU, oU, oU] []))
  show own_G (T813.setTop (mkF m 58 #[oA a, oJ hi, oS, oJ lo, oS, oI np, oI (0 : Int32), oI (0 : Int32), oU, oU, oU, oU, oU, oU, oU, oU, oU, oU, oU, oU] []))
  refine up ?_ fun t k => XS.iload X813.here hx rfl (hb hby d3_58) rfl (XS.bipush X813.here hx rfl (hb hby d3_60) (XS.iand X813.here hx rfl (hb hby d3_62) rfl (XS.istore X813.here hx rfl (hb hby d3_63) rfl (l' := #[oA a, oJ hi, oS, oJ lo, oS, oI np, oI (0 : Int32), oI (0 : Int32), oI ((0 : Int32) &&& (63 : Int32)), oU, oU, oU, oU, oU, oU, oU, oU, oU, oU, oU]) rfl k)))
  show own_G (T813.setTop (mkF m 65 #[oA a, oJ hi, oS, oJ lo, oS, oI np, oI (0 : Int32), oI (0 : Int32), oI ((0 : Int32) &&& (63 : Int32)), oU, oU, oU, oU, oU, oU, oU, oU, oU, oU, oU] []))
  show own_G (T813.setTop (mkF m 65 #[oA a, oJ hi, oS, oJ lo, oS, oI np, oI (0 : Int32), oI (0 : Int32), oI (0 : Int32), oU, oU, oU, oU, oU, oU, oU, oU, oU, oU, oU] []))
  refine up ?_ fun t k => XS.lloadN X813.here hx rfl (hb hby d3_65) rfl (XS.iload X813.here hx rfl (hb hby d3_66) rfl (XS.lshl X813.here hx rfl (hb hby d3_68) rfl (XS.lstore X813.here hx rfl (hb hby d3_69) rfl (l' := #[oA a, oJ hi, oS, oJ lo, oS, oI np, oI (0 : Int32), oI (0 : Int32), oI (0 : Int32), oJ (lo <<< ((0 : Int32) &&& 0x3f).toInt64), oS, oU, oU, oU, oU, oU, oU, oU, oU, oU]) rfl k)))
  show own_G (T813.setTop (mkF m 71 #[oA a, oJ hi, oS, oJ lo, oS, oI np, oI (0 : Int32), oI (0 : Int32), oI (0 : Int32), oJ (lo <<< ((0 : Int32) &&& 0x3f).toInt64), oS, oU, oU, oU, oU, oU, oU, oU, oU, oU] []))
  show own_G (T813.setTop (mkF m 71 #[oA a, oJ hi, oS, oJ lo, oS, oI np, oI (0 : Int32), oI (0 : Int32), oI (0 : Int32), oJ (own_s1 lo (0 : Int32)), oS, oU, oU, oU, oU, oU, oU, oU, oU, oU] []))
  refine up ?_ fun t k => XS.lloadN X813.here hx rfl (hb hby d3_71) rfl (XS.iload X813.here hx rfl (hb hby d3_72) rfl (XS.lshl X813.here hx rfl (hb hby d3_74) rfl (XS.lloadN X813.here hx rfl (hb hby d3_75) rfl (XS.iconst X813.here hx rfl (hb hby d3_76) (XS.lushr X813.here hx rfl (hb hby d3_77) rfl (XS.bipush X813.here hx rfl (hb hby d3_78) (XS.iload X813.here hx rfl (hb hby d3_80) rfl (XS.isub X813.here hx rfl (hb hby d3_82) rfl (XS.lushr X813.here hx rfl (hb hby d3_83) rfl k)))))))))
  show own_G (T813.setTop (mkF m 84 #[oA a, oJ hi, oS, oJ lo, oS, oI np, oI (0 : Int32), oI (0 : Int32), oI (0 : Int32), oJ (own_s1 lo (0 : Int32)), oS, oU, oU, oU, oU, oU, oU, oU, oU, oU] [(.long ((((lo.toUInt64 >>> ((1 : Int32) &&& 0x3f).toInt64.toUInt64).toInt64).toUInt64 >>> ((63 : Int32) &&& 0x3f).toInt64.toUInt64).toInt64)), (.long (hi <<< ((0 : Int32) &&& 0x3f).toInt64))]))
  refine up ?_ fun t k => XS.lor X813.here hx rfl (hb hby d3_84) rfl (XS.lstore X813.here hx rfl (hb hby d3_85) rfl (l' := #[oA a, oJ hi, oS, oJ lo, oS, oI np, oI (0 : Int32), oI (0 : Int32), oI (0 : Int32), oJ (own_s1 lo (0 : Int32)), oS, oJ ((hi <<< ((0 : Int32) &&& 0x3f).toInt64) ||| ((((lo.toUInt64 >>> ((1 : Int32) &&& 0x3f).toInt64.toUInt64).toInt64).toUInt64 >>> ((63 : Int32) &&& 0x3f).toInt64.toUInt64).toInt64)), oS, oU, oU, oU, oU, oU, oU, oU]) rfl k)
  show own_G (T813.setTop (mkF m 87 #[oA a, oJ hi, oS, oJ lo, oS, oI np, oI (0 : Int32), oI (0 : Int32), oI (0 : Int32), oJ (own_s1 lo (0 : Int32)), oS, oJ ((hi <<< ((0 : Int32) &&& 0x3f).toInt64) ||| ((((lo.toUInt64 >>> ((1 : Int32) &&& 0x3f).toInt64.toUInt64).toInt64).toUInt64 >>> ((63 : Int32) &&& 0x3f).toInt64.toUInt64).toInt64)), oS, oU, oU, oU, oU, oU, oU, oU] []))
  show own_G (T813.setTop (mkF m 87 #[oA a, oJ hi, oS, oJ lo, oS, oI np, oI (0 : Int32), oI (0 : Int32), oI (0 : Int32), oJ (own_s1 lo (0 : Int32)), oS, oJ (own_s2 hi lo (0 : Int32)), oS, oU, oU, oU, oU, oU, oU, oU] []))
  refine up ?_ fun t k => XS.lloadN X813.here hx rfl (hb hby d3_87) rfl (XS.iconst X813.here hx rfl (hb hby d3_88) (XS.lshr X813.here hx rfl (hb hby d3_89) rfl (XS.bipush X813.here hx rfl (hb hby d3_90) (XS.iload X813.here hx rfl (hb hby d3_92) rfl (XS.isub X813.here hx rfl (hb hby d3_94) rfl (XS.lshr X813.here hx rfl (hb hby d3_95) rfl (XS.lstore X813.here hx rfl (hb hby d3_96) rfl (l' := #[oA a, oJ hi, oS, oJ lo, oS, oI np, oI (0 : Int32), oI (0 : Int32), oI (0 : Int32), oJ (own_s1 lo (0 : Int32)), oS, oJ (own_s2 hi lo (0 : Int32)), oS, oJ ((hi >>> ((1 : Int32) &&& 0x3f).toInt64) >>> ((63 : Int32) &&& 0x3f).toInt64), oS, oU, oU, oU, oU, oU]) rfl k)))))))
  show own_G (T813.setTop (mkF m 98 #[oA a, oJ hi, oS, oJ lo, oS, oI np, oI (0 : Int32), oI (0 : Int32), oI (0 : Int32), oJ (own_s1 lo (0 : Int32)), oS, oJ (own_s2 hi lo (0 : Int32)), oS, oJ ((hi >>> ((1 : Int32) &&& 0x3f).toInt64) >>> ((63 : Int32) &&& 0x3f).toInt64), oS, oU, oU, oU, oU, oU] []))
  show own_G (T813.setTop (mkF m 98 #[oA a, oJ hi, oS, oJ lo, oS, oI np, oI (0 : Int32), oI (0 : Int32), oI (0 : Int32), oJ (own_s1 lo (0 : Int32)), oS, oJ (own_s2 hi lo (0 : Int32)), oS, oJ (own_s3 hi (0 : Int32)), oS, oU, oU, oU, oU, oU] []))
  refine up ?_ fun t k => XS.aloadN X813.here hx rfl (hb hby d3_98) rfl rfl (XS.iload X813.here hx rfl (hb hby d3_99) rfl (XS.iconst X813.here hx rfl (hb hby d3_101) (XS.iadd X813.here hx rfl (hb hby d3_102) rfl k)))
  show own_G (T813.setTop (mkF m 103 #[oA a, oJ hi, oS, oJ lo, oS, oI np, oI (0 : Int32), oI (0 : Int32), oI (0 : Int32), oJ (own_s1 lo (0 : Int32)), oS, oJ (own_s2 hi lo (0 : Int32)), oS, oJ (own_s3 hi (0 : Int32)), oS, oU, oU, oU, oU, oU] [(.int (3 : Int32)), (.ref a)]))
  obtain ⟨cq814, q814, q814'⟩ := Eq806_c810.cell
  obtain ⟨_, _, ⟨T814, L814, k814, n814⟩, -, X814, ⟨Lc814, hQ814, l814, y814, z814⟩, st814⟩ := X813.privateBack hx (y := (⟨"com/example/eventweir/eventweir/ExactSum", "widen", "(I)V"⟩ : MethodName)) hown (mvT hZ (hw _ (own_m 24 rfl))) (mvT hZ (hw _ (own_m 25 rfl))) (own_sel (by decide) (mvT hZ (hw _ (own_m 25 rfl))) (mvP hZ (hw _ (own_m 26 rfl))) (mvT hZ (hw _ (own_m 3 rfl)))) (Cond.privateMethod_at (mvP hZ (hw _ (own_m 26 rfl)) (args := #[]))) (mvT hZ (hw _ (own_m 27 rfl))) (by decide) (backOf (W := 0) (rmwr l Z a0 hw [] a (3 : Int32) (3 : Int32) h809 n0 Zs812 Flq806_c810 (by decide)) hZ (hw _ (own_m 27 rfl)) (hw _ (own_m 4 rfl)) (by decide) (by decide)) (g := (mkF m 103 #[oA a, oJ hi, oS, oJ lo, oS, oI np, oI (0 : Int32), oI (0 : Int32), oI (0 : Int32), oJ (own_s1 lo (0 : Int32)), oS, oJ (own_s2 hi lo (0 : Int32)), oS, oJ (own_s3 hi (0 : Int32)), oS, oU, oU, oU, oU, oU] [(.int (3 : Int32)), (.ref a)])) rfl (by rw [hml]; rfl) (Steps.refl _) (a := a) (by rw [e813]; exact q814) q814' (argsL := [(.int (3 : Int32))]) (rest := []) (lenOf own_pd6 rfl) rfl (by show 2 * 0 + _ ≤ _; exact Nat.le_of_eq rfl) (hb hby d3_103) (fun _ _ => ⟨rfl, e813, (by decide : 0 + 0 ≤ _), (by decide : 0 + 0 ≤ _)⟩)
  dsimp only [Pt.U, Pt.locs, Pt.cells, Pt.slots] at X814 l814 y814 z814 st814 hQ814
  subst l814 y814 z814
  obtain ⟨rfl, Nq814, e814⟩ := hQ814
  have N814 := Fr.app N809 Nq814
  refine up ?_ (fun t k => st814.trans k)
  show own_G (T814.setTop (mkF m 106 #[oA a, oJ hi, oS, oJ lo, oS, oI np, oI (0 : Int32), oI (0 : Int32), oI (0 : Int32), oJ (own_s1 lo (0 : Int32)), oS, oJ (own_s2 hi lo (0 : Int32)), oS, oJ (own_s3 hi (0 : Int32)), oS, oU, oU, oU, oU, oU] []))
  exact blB3 Z a0 hw r kr zc np tl (own_s2 x0 (0 : Int64) bs) (own_s2 x1 x0 bs) (own_s2 (own_sg x1) x1 bs) h0 hi lo np (0 : Int32) (0 : Int32) (own_s1 lo (0 : Int32)) (own_s2 hi lo (0 : Int32)) (own_s3 hi (0 : Int32)) y0 y1 y2 h809 n0 Zs812 ⟨Eq806_c810, Fwq806_c810, Flq806_c810, F809, Vq806_c810⟩ g_a g_r hc kq811 hy0 hy1 hy2 htop (X814.mono (by decide) (by decide)) hx hZ hby hml hown hlk hret e814 N814
theorem rmaB3 (l : Launch) (Z : State) (a0 : Array Value) (hw : own_W Z a0) (ws : List Jvm.Cond) (a : Addr) (hi : Int64) (lo : Int64) (np : Int32) (r : Addr) (kr : ClassId) (pw : Int32) (x0 : Int64) (x1 : Int64) (x2 : Int64) (bits : Int32) (bs : Int32) (y0 : Int64) (y1 : Int64) (y2 : Int64) (y3 : Int64) (h0 : Heap) (n0 : Nat) (Z0 : n0 ≤ h0.size) (O0 : own_O Z h0 a r kr (3 : Int32) (3 : Int32) pw [(.long x0), (.long x1), (.long x2)]) (g_a : n0 ≤ a) (g_r : n0 ≤ r) (hlt : np < pw) (hbt : (pw - np) = bits) (hws : ((bits.toUInt32 >>> ((6 : Int32) &&& 31).toUInt32).toInt32) = (0 : Int32)) (hbs : (bits &&& (63 : Int32)) = bs) (hy0 : (((own_s2 x0 (0 : Int64) bs) + (own_s1 lo (0 : Int32))) + (0 : Int64)) = y0) (hy1 : (((own_s2 x1 x0 bs) + (own_s2 hi lo (0 : Int32))) + (own_co (own_s2 x0 (0 : Int64) bs) (own_s1 lo (0 : Int32)) y0)) = y1) (hy2 : (((own_s2 x2 x1 bs) + (own_s3 hi (0 : Int32))) + (own_co (own_s2 x1 x0 bs) (own_s2 hi lo (0 : Int32)) y1)) = y2) (hy3 : (((own_s2 (own_sg x2) x2 bs) + (own_sg (own_s3 hi (0 : Int32)))) + (own_co (own_s2 x2 x1 bs) (own_s3 hi (0 : Int32)) y2)) = y3) (htop : y2 = own_sg y1) (htop3 : y3 = own_sg y2) :
    own_M l Z (⟨"com/example/eventweir/eventweir/ExactSum", "add", "(JJI)V"⟩ : MethodName) prog_78_method_3_code 20 none ws ({ frames := 5, cells := 2, slots := 8, locals := 150 } : Room) #[(.ref a), (.long hi), (.long lo), (.int np)] h0 (own_Q_add Z a y0 y1 np h0 n0) := by
  refine own_body (plainFor_of_name own_pn0) ?_
  intro p e s m below meth c s₁ hx hZ hby hml hown hnm hlk hret X0 e0
  have N0 := Fr.nil n0
  obtain ⟨E_a, Fw, Fl, Fp, V⟩ := O0
  have ne_ar : a ≠ r := E_a.neArv V (hw _ (own_m 3 rfl))
  refine up (U' := s₁.setTop (mkF m 0 #[oA a, oJ hi, oS, oJ lo, oS, oI np, oU, oU, oU, oU, oU, oU, oU, oU, oU, oU, oU, oU, oU, oU] [])) ?_ (fun t k => castTop (own_ef_rma0c m a hi lo np) k)
  refine up ?_ fun t k => XS.aloadN X0.here hx rfl (hb hby d3_0) rfl rfl k
  show own_G (s₁.setTop (mkF m 1 #[oA a, oJ hi, oS, oJ lo, oS, oI np, oU, oU, oU, oU, oU, oU, oU, oU, oU, oU, oU, oU, oU, oU] [(.ref a)]))
  obtain ⟨T815, X815, e815, st815⟩ := getF X0 hx hZ hown (host := "") (Or.inl (hw _ (own_m 20 rfl))) Via.refl e0 Fl (g := (mkF m 1 #[oA a, oJ hi, oS, oJ lo, oS, oI np, oU, oU, oU, oU, oU, oU, oU, oU, oU, oU, oU, oU, oU, oU] [(.ref a)])) rfl rfl (hb hby d3_1)
  refine up ?_ st815
  show own_G (T815.setTop (mkF m 4 #[oA a, oJ hi, oS, oJ lo, oS, oI np, oU, oU, oU, oU, oU, oU, oU, oU, oU, oU, oU, oU, oU, oU] [(.int (3 : Int32))]))
  refine up ?_ fun t k => XS.ifYes X815.here hx rfl (pc0 := 4) (pc' := 16) rfl (hb hby d3_4) rfl ((if0 _ _).trans (feq (by decide : ¬ ((3 : Int32) = (0 : Int32)))).2) (by decide) (by decide) (XS.iload X815.here hx rfl (hb hby d3_16) rfl (XS.aloadN X815.here hx rfl (hb hby d3_18) rfl rfl k))
  show own_G (T815.setTop (mkF m 19 #[oA a, oJ hi, oS, oJ lo, oS, oI np, oU, oU, oU, oU, oU, oU, oU, oU, oU, oU, oU, oU, oU, oU] [(.ref a), (.int np)]))
  obtain ⟨T816, X816, e816, st816⟩ := getF X815 hx hZ hown (host := "") (Or.inl (hw _ (own_m 22 rfl))) Via.refl e815 Fp (g := (mkF m 19 #[oA a, oJ hi, oS, oJ lo, oS, oI np, oU, oU, oU, oU, oU, oU, oU, oU, oU, oU, oU, oU, oU, oU] [(.ref a), (.int np)])) rfl rfl (hb hby d3_19)
  refine up ?_ st816
  show own_G (T816.setTop (mkF m 22 #[oA a, oJ hi, oS, oJ lo, oS, oI np, oU, oU, oU, oU, oU, oU, oU, oU, oU, oU, oU, oU, oU, oU] [(.int pw), (.int np)]))
  refine up ?_ fun t k => XS.icmpNo X816.here hx rfl (hb hby d3_22) rfl (tlt (hlt : (np < pw))).2.1 (XS.aloadN X816.here hx rfl (hb hby d3_25) rfl rfl (XS.aloadN X816.here hx rfl (hb hby d3_26) rfl rfl k))
  show own_G (T816.setTop (mkF m 27 #[oA a, oJ hi, oS, oJ lo, oS, oI np, oU, oU, oU, oU, oU, oU, oU, oU, oU, oU, oU, oU, oU, oU] [(.ref a), (.ref a)]))
  obtain ⟨T817, X817, e817, st817⟩ := getF X816 hx hZ hown (host := "") (Or.inl (hw _ (own_m 22 rfl))) Via.refl e816 Fp (g := (mkF m 27 #[oA a, oJ hi, oS, oJ lo, oS, oI np, oU, oU, oU, oU, oU, oU, oU, oU, oU, oU, oU, oU, oU, oU] [(.ref a), (.ref a)])) rfl rfl (hb hby d3_27)
  refine up ?_ st817
  show own_G (T817.setTop (mkF m 30 #[oA a, oJ hi, oS, oJ lo, oS, oI np, oU, oU, oU, oU, oU, oU, oU, oU, oU, oU, oU, oU, oU, oU] [(.int pw), (.ref a)]))
  refine up ?_ fun t k => XS.iload X817.here hx rfl (hb hby d3_30) rfl (XS.isub X817.here hx rfl (hb hby d3_32) rfl k)
  show own_G (T817.setTop (mkF m 33 #[oA a, oJ hi, oS, oJ lo, oS, oI np, oU, oU, oU, oU, oU, oU, oU, oU, oU, oU, oU, oU, oU, oU] [(.int (pw - np)), (.ref a)]))
  rw [hbt]
  show own_G (T817.setTop (mkF m 33 #[oA a, oJ hi, oS, oJ lo, oS, oI np, oU, oU, oU, oU, oU, oU, oU, oU, oU, oU, oU, oU, oU, oU] [(.int bits), (.ref a)]))
  obtain ⟨cq818, q818, q818'⟩ := E_a.cell
  obtain ⟨_, _, ⟨T818, L818, k818, n818⟩, -, X818, ⟨Lc818, hQ818, l818, y818, z818⟩, st818⟩ := X817.privateBack hx (y := (⟨"com/example/eventweir/eventweir/ExactSum", "shiftUp", "(I)V"⟩ : MethodName)) hown (mvT hZ (hw _ (own_m 59 rfl))) (mvT hZ (hw _ (own_m 60 rfl))) (own_sel (by decide) (mvT hZ (hw _ (own_m 60 rfl))) (mvP hZ (hw _ (own_m 61 rfl))) (mvT hZ (hw _ (own_m 3 rfl)))) (Cond.privateMethod_at (mvP hZ (hw _ (own_m 61 rfl)) (args := #[]))) (mvT hZ (hw _ (own_m 62 rfl))) (by decide) (backOf (W := 0) (rmsB3 l Z a0 hw [] a bits r kr pw x0 x1 x2 bs h0 n0 Z0 ⟨E_a, Fw, Fl, Fp, V⟩ g_a g_r hws hbs) hZ (hw _ (own_m 62 rfl)) (hw _ (own_m 4 rfl)) (by decide) (by decide)) (g := (mkF m 33 #[oA a, oJ hi, oS, oJ lo, oS, oI np, oU, oU, oU, oU, oU, oU, oU, oU, oU, oU, oU, oU, oU, oU] [(.int bits), (.ref a)])) rfl (by rw [hml]; rfl) (Steps.refl _) (a := a) (by rw [e817]; exact q818) q818' (argsL := [(.int bits)]) (rest := []) (lenOf own_pd6 rfl) rfl (by show 2 * 0 + _ ≤ _; exact Nat.le_of_eq rfl) (hb hby d3_33) (fun _ _ => ⟨rfl, e817, (by decide : 0 + 1 ≤ _), (by decide : 0 + 4 ≤ _)⟩)
  dsimp only [Pt.U, Pt.locs, Pt.cells, Pt.slots] at X818 l818 y818 z818 st818 hQ818
  subst l818 y818 z818
  obtain ⟨rfl, Nq818, hsq818, r818, kr818, gr818, Eq818, Fwq818, Flq818, Fpq818, Vq818⟩ := hQ818
  have N818 := Fr.app N0 Nq818
  have kq819 := Nat.le_trans (Nat.le_refl h0.size) hsq818
  have Zs820 : n0 ≤ T818.heap.size := Nat.le_trans Z0 hsq818
  refine up ?_ (fun t k => st818.trans k)
  show own_G (T818.setTop (mkF m 36 #[oA a, oJ hi, oS, oJ lo, oS, oI np, oU, oU, oU, oU, oU, oU, oU, oU, oU, oU, oU, oU, oU, oU] []))
  refine up ?_ fun t k => XS.aloadN X818.here hx rfl (hb hby d3_36) rfl rfl (XS.iload X818.here hx rfl (hb hby d3_37) rfl k)
  show own_G (T818.setTop (mkF m 39 #[oA a, oJ hi, oS, oJ lo, oS, oI np, oU, oU, oU, oU, oU, oU, oU, oU, oU, oU, oU, oU, oU, oU] [(.int np), (.ref a)]))
  obtain ⟨T821, h821, X821, e821, W821, st821⟩ := putF X818 hx hZ hown (host := "") (Or.inl (hw _ (own_m 22 rfl))) Via.refl rfl Fpq818 Eq818 (Or.inl (hw _ (own_m 23 rfl))) (hw _ (own_m 3 rfl)) (ty := .int) (by decide) rfl rfl (g := (mkF m 39 #[oA a, oJ hi, oS, oJ lo, oS, oI np, oU, oU, oU, oU, oU, oU, oU, oU, oU, oU, oU, oU, oU, oU] [(.int np), (.ref a)])) rfl rfl (hb hby d3_39)
  refine up ?_ st821
  have Eq818_c822 := Eq818.wr W821
  have Fwq818_c822 := Fwq818.other W821 (Or.inr (slot_ne (Or.inl (hw _ (own_m 14 rfl))) (Or.inl (hw _ (own_m 23 rfl))) (by decide) (t := (.array .long)) (t' := .int) (by decide) (by decide)))
  have Flq818_c822 := Flq818.other W821 (Or.inr (slot_ne (Or.inl (hw _ (own_m 21 rfl))) (Or.inl (hw _ (own_m 23 rfl))) (by decide) (t := .int) (t' := .int) (by decide) (by decide)))
  have Vq818_c822 := Vq818.other W821 (Ne.symm (Eq818.neArv Vq818 (hw _ (own_m 3 rfl))))
  have F821 := Fpq818.same W821
  have N821 := Fr.snoc X821 N818 g_a
  have kq823 := Nat.le_trans kq819 (Keep.of_wr W821).1
  have Zs824 : n0 ≤ h821.size := Nat.le_trans Zs820 (Keep.of_wr W821).1
  show own_G (T821.setTop (mkF m 42 #[oA a, oJ hi, oS, oJ lo, oS, oI np, oU, oU, oU, oU, oU, oU, oU, oU, oU, oU, oU, oU, oU, oU] []))
  refine up ?_ fun t k => XS.iload X821.here hx rfl (hb hby d3_42) rfl (XS.aloadN X821.here hx rfl (hb hby d3_44) rfl rfl k)
  show own_G (T821.setTop (mkF m 45 #[oA a, oJ hi, oS, oJ lo, oS, oI np, oU, oU, oU, oU, oU, oU, oU, oU, oU, oU, oU, oU, oU, oU] [(.ref a), (.int np)]))
  obtain ⟨T825, X825, e825, st825⟩ := getF X821 hx hZ hown (host := "") (Or.inl (hw _ (own_m 22 rfl))) Via.refl e821 F821 (g := (mkF m 45 #[oA a, oJ hi, oS, oJ lo, oS, oI np, oU, oU, oU, oU, oU, oU, oU, oU, oU, oU, oU, oU, oU, oU] [(.ref a), (.int np)])) rfl rfl (hb hby d3_45)
  refine up ?_ st825
  show own_G (T825.setTop (mkF m 48 #[oA a, oJ hi, oS, oJ lo, oS, oI np, oU, oU, oU, oU, oU, oU, oU, oU, oU, oU, oU, oU, oU, oU] [(.int np), (.int np)]))
  refine up ?_ fun t k => XS.isub X825.here hx rfl (hb hby d3_48) rfl (XS.istore X825.here hx rfl (hb hby d3_49) rfl (l' := #[oA a, oJ hi, oS, oJ lo, oS, oI np, oI (np - np), oU, oU, oU, oU, oU, oU, oU, oU, oU, oU, oU, oU, oU]) rfl k)
  show own_G (T825.setTop (mkF m 51 #[oA a, oJ hi, oS, oJ lo, oS, oI np, oI (np - np), oU, oU, oU, oU, oU, oU, oU, oU, oU, oU, oU, oU, oU] []))
  rw [Int32.sub_self]
  show own_G (T825.setTop (mkF m 51 #[oA a, oJ hi, oS, oJ lo, oS, oI np, oI (0 : Int32), oU, oU, oU, oU, oU, oU, oU, oU, oU, oU, oU, oU, oU] []))
  refine up ?_ fun t k => XS.iload X825.here hx rfl (hb hby d3_51) rfl (XS.bipush X825.here hx rfl (hb hby d3_53) (XS.iushr X825.here hx rfl (hb hby d3_55) rfl (XS.istore X825.here hx rfl (hb hby d3_56) rfl (l' := #[oA a, oJ hi, oS, oJ lo, oS, oI np, oI (0 : Int32), oI (((0 : Int32).toUInt32 >>> ((6 : Int32) &&& 31).toUInt32).toInt32), oU, oU, oU, oU, oU, oU, oU, oU, oU, oU, oU, oU]) rfl k)))
  show own_G (T825.setTop (mkF m 58 #[oA a, oJ hi, oS, oJ lo, oS, oI np, oI (0 : Int32), oI (((0 : Int32).toUInt32 >>> ((6 : Int32) &&& 31).toUInt32).toInt32), oU, oU, oU, oU, oU, oU, oU, oU, oU, oU, oU, oU] []))
  show own_G (T825.setTop (mkF m 58 #[oA a, oJ hi, oS, oJ lo, oS, oI np, oI (0 : Int32), oI (0 : Int32), oU, oU, oU, oU, oU, oU, oU, oU, oU, oU, oU, oU] []))
  refine up ?_ fun t k => XS.iload X825.here hx rfl (hb hby d3_58) rfl (XS.bipush X825.here hx rfl (hb hby d3_60) (XS.iand X825.here hx rfl (hb hby d3_62) rfl (XS.istore X825.here hx rfl (hb hby d3_63) rfl (l' := #[oA a, oJ hi, oS, oJ lo, oS, oI np, oI (0 : Int32), oI (0 : Int32), oI ((0 : Int32) &&& (63 : Int32)), oU, oU, oU, oU, oU, oU, oU, oU, oU, oU, oU]) rfl k)))
  show own_G (T825.setTop (mkF m 65 #[oA a, oJ hi, oS, oJ lo, oS, oI np, oI (0 : Int32), oI (0 : Int32), oI ((0 : Int32) &&& (63 : Int32)), oU, oU, oU, oU, oU, oU, oU, oU, oU, oU, oU] []))
  show own_G (T825.setTop (mkF m 65 #[oA a, oJ hi, oS, oJ lo, oS, oI np, oI (0 : Int32), oI (0 : Int32), oI (0 : Int32), oU, oU, oU, oU, oU, oU, oU, oU, oU, oU, oU] []))
  refine up ?_ fun t k => XS.lloadN X825.here hx rfl (hb hby d3_65) rfl (XS.iload X825.here hx rfl (hb hby d3_66) rfl (XS.lshl X825.here hx rfl (hb hby d3_68) rfl (XS.lstore X825.here hx rfl (hb hby d3_69) rfl (l' := #[oA a, oJ hi, oS, oJ lo, oS, oI np, oI (0 : Int32), oI (0 : Int32), oI (0 : Int32), oJ (lo <<< ((0 : Int32) &&& 0x3f).toInt64), oS, oU, oU, oU, oU, oU, oU, oU, oU, oU]) rfl k)))
  show own_G (T825.setTop (mkF m 71 #[oA a, oJ hi, oS, oJ lo, oS, oI np, oI (0 : Int32), oI (0 : Int32), oI (0 : Int32), oJ (lo <<< ((0 : Int32) &&& 0x3f).toInt64), oS, oU, oU, oU, oU, oU, oU, oU, oU, oU] []))
  show own_G (T825.setTop (mkF m 71 #[oA a, oJ hi, oS, oJ lo, oS, oI np, oI (0 : Int32), oI (0 : Int32), oI (0 : Int32), oJ (own_s1 lo (0 : Int32)), oS, oU, oU, oU, oU, oU, oU, oU, oU, oU] []))
  refine up ?_ fun t k => XS.lloadN X825.here hx rfl (hb hby d3_71) rfl (XS.iload X825.here hx rfl (hb hby d3_72) rfl (XS.lshl X825.here hx rfl (hb hby d3_74) rfl (XS.lloadN X825.here hx rfl (hb hby d3_75) rfl (XS.iconst X825.here hx rfl (hb hby d3_76) (XS.lushr X825.here hx rfl (hb hby d3_77) rfl (XS.bipush X825.here hx rfl (hb hby d3_78) (XS.iload X825.here hx rfl (hb hby d3_80) rfl (XS.isub X825.here hx rfl (hb hby d3_82) rfl (XS.lushr X825.here hx rfl (hb hby d3_83) rfl k)))))))))
  show own_G (T825.setTop (mkF m 84 #[oA a, oJ hi, oS, oJ lo, oS, oI np, oI (0 : Int32), oI (0 : Int32), oI (0 : Int32), oJ (own_s1 lo (0 : Int32)), oS, oU, oU, oU, oU, oU, oU, oU, oU, oU] [(.long ((((lo.toUInt64 >>> ((1 : Int32) &&& 0x3f).toInt64.toUInt64).toInt64).toUInt64 >>> ((63 : Int32) &&& 0x3f).toInt64.toUInt64).toInt64)), (.long (hi <<< ((0 : Int32) &&& 0x3f).toInt64))]))
  refine up ?_ fun t k => XS.lor X825.here hx rfl (hb hby d3_84) rfl (XS.lstore X825.here hx rfl (hb hby d3_85) rfl (l' := #[oA a, oJ hi, oS, oJ lo, oS, oI np, oI (0 : Int32), oI (0 : Int32), oI (0 : Int32), oJ (own_s1 lo (0 : Int32)), oS, oJ ((hi <<< ((0 : Int32) &&& 0x3f).toInt64) ||| ((((lo.toUInt64 >>> ((1 : Int32) &&& 0x3f).toInt64.toUInt64).toInt64).toUInt64 >>> ((63 : Int32) &&& 0x3f).toInt64.toUInt64).toInt64)), oS, oU, oU, oU, oU, oU, oU, oU]) rfl k)
  show own_G (T825.setTop (mkF m 87 #[oA a, oJ hi, oS, oJ lo, oS, oI np, oI (0 : Int32), oI (0 : Int32), oI (0 : Int32), oJ (own_s1 lo (0 : Int32)), oS, oJ ((hi <<< ((0 : Int32) &&& 0x3f).toInt64) ||| ((((lo.toUInt64 >>> ((1 : Int32) &&& 0x3f).toInt64.toUInt64).toInt64).toUInt64 >>> ((63 : Int32) &&& 0x3f).toInt64.toUInt64).toInt64)), oS, oU, oU, oU, oU, oU, oU, oU] []))
  show own_G (T825.setTop (mkF m 87 #[oA a, oJ hi, oS, oJ lo, oS, oI np, oI (0 : Int32), oI (0 : Int32), oI (0 : Int32), oJ (own_s1 lo (0 : Int32)), oS, oJ (own_s2 hi lo (0 : Int32)), oS, oU, oU, oU, oU, oU, oU, oU] []))
  refine up ?_ fun t k => XS.lloadN X825.here hx rfl (hb hby d3_87) rfl (XS.iconst X825.here hx rfl (hb hby d3_88) (XS.lshr X825.here hx rfl (hb hby d3_89) rfl (XS.bipush X825.here hx rfl (hb hby d3_90) (XS.iload X825.here hx rfl (hb hby d3_92) rfl (XS.isub X825.here hx rfl (hb hby d3_94) rfl (XS.lshr X825.here hx rfl (hb hby d3_95) rfl (XS.lstore X825.here hx rfl (hb hby d3_96) rfl (l' := #[oA a, oJ hi, oS, oJ lo, oS, oI np, oI (0 : Int32), oI (0 : Int32), oI (0 : Int32), oJ (own_s1 lo (0 : Int32)), oS, oJ (own_s2 hi lo (0 : Int32)), oS, oJ ((hi >>> ((1 : Int32) &&& 0x3f).toInt64) >>> ((63 : Int32) &&& 0x3f).toInt64), oS, oU, oU, oU, oU, oU]) rfl k)))))))
  show own_G (T825.setTop (mkF m 98 #[oA a, oJ hi, oS, oJ lo, oS, oI np, oI (0 : Int32), oI (0 : Int32), oI (0 : Int32), oJ (own_s1 lo (0 : Int32)), oS, oJ (own_s2 hi lo (0 : Int32)), oS, oJ ((hi >>> ((1 : Int32) &&& 0x3f).toInt64) >>> ((63 : Int32) &&& 0x3f).toInt64), oS, oU, oU, oU, oU, oU] []))
  show own_G (T825.setTop (mkF m 98 #[oA a, oJ hi, oS, oJ lo, oS, oI np, oI (0 : Int32), oI (0 : Int32), oI (0 : Int32), oJ (own_s1 lo (0 : Int32)), oS, oJ (own_s2 hi lo (0 : Int32)), oS, oJ (own_s3 hi (0 : Int32)), oS, oU, oU, oU, oU, oU] []))
  refine up ?_ fun t k => XS.aloadN X825.here hx rfl (hb hby d3_98) rfl rfl (XS.iload X825.here hx rfl (hb hby d3_99) rfl (XS.iconst X825.here hx rfl (hb hby d3_101) (XS.iadd X825.here hx rfl (hb hby d3_102) rfl k)))
  show own_G (T825.setTop (mkF m 103 #[oA a, oJ hi, oS, oJ lo, oS, oI np, oI (0 : Int32), oI (0 : Int32), oI (0 : Int32), oJ (own_s1 lo (0 : Int32)), oS, oJ (own_s2 hi lo (0 : Int32)), oS, oJ (own_s3 hi (0 : Int32)), oS, oU, oU, oU, oU, oU] [(.int (3 : Int32)), (.ref a)]))
  obtain ⟨cq826, q826, q826'⟩ := Eq818_c822.cell
  obtain ⟨_, _, ⟨T826, L826, k826, n826⟩, -, X826, ⟨Lc826, hQ826, l826, y826, z826⟩, st826⟩ := X825.privateBack hx (y := (⟨"com/example/eventweir/eventweir/ExactSum", "widen", "(I)V"⟩ : MethodName)) hown (mvT hZ (hw _ (own_m 24 rfl))) (mvT hZ (hw _ (own_m 25 rfl))) (own_sel (by decide) (mvT hZ (hw _ (own_m 25 rfl))) (mvP hZ (hw _ (own_m 26 rfl))) (mvT hZ (hw _ (own_m 3 rfl)))) (Cond.privateMethod_at (mvP hZ (hw _ (own_m 26 rfl)) (args := #[]))) (mvT hZ (hw _ (own_m 27 rfl))) (by decide) (backOf (W := 0) (rmwr l Z a0 hw [] a (3 : Int32) (4 : Int32) h821 n0 Zs824 Flq818_c822 (by decide)) hZ (hw _ (own_m 27 rfl)) (hw _ (own_m 4 rfl)) (by decide) (by decide)) (g := (mkF m 103 #[oA a, oJ hi, oS, oJ lo, oS, oI np, oI (0 : Int32), oI (0 : Int32), oI (0 : Int32), oJ (own_s1 lo (0 : Int32)), oS, oJ (own_s2 hi lo (0 : Int32)), oS, oJ (own_s3 hi (0 : Int32)), oS, oU, oU, oU, oU, oU] [(.int (3 : Int32)), (.ref a)])) rfl (by rw [hml]; rfl) (Steps.refl _) (a := a) (by rw [e825]; exact q826) q826' (argsL := [(.int (3 : Int32))]) (rest := []) (lenOf own_pd6 rfl) rfl (by show 2 * 0 + _ ≤ _; exact Nat.le_of_eq rfl) (hb hby d3_103) (fun _ _ => ⟨rfl, e825, (by decide : 1 + 0 ≤ _), (by decide : 4 + 0 ≤ _)⟩)
  dsimp only [Pt.U, Pt.locs, Pt.cells, Pt.slots] at X826 l826 y826 z826 st826 hQ826
  subst l826 y826 z826
  obtain ⟨rfl, Nq826, e826⟩ := hQ826
  have N826 := Fr.app N821 Nq826
  refine up ?_ (fun t k => st826.trans k)
  show own_G (T826.setTop (mkF m 106 #[oA a, oJ hi, oS, oJ lo, oS, oI np, oI (0 : Int32), oI (0 : Int32), oI (0 : Int32), oJ (own_s1 lo (0 : Int32)), oS, oJ (own_s2 hi lo (0 : Int32)), oS, oJ (own_s3 hi (0 : Int32)), oS, oU, oU, oU, oU, oU] []))
  exact blB4 Z a0 hw r818 kr818 np (own_s2 x0 (0 : Int64) bs) (own_s2 x1 x0 bs) (own_s2 x2 x1 bs) (own_s2 (own_sg x2) x2 bs) h0 hi lo np (0 : Int32) (0 : Int32) (own_s1 lo (0 : Int32)) (own_s2 hi lo (0 : Int32)) (own_s3 hi (0 : Int32)) y0 y1 y2 y3 h821 n0 Zs824 ⟨Eq818_c822, Fwq818_c822, Flq818_c822, F821, Vq818_c822⟩ g_a gr818 kq823 hy0 hy1 hy2 hy3 htop htop3 (X826.mono (by decide) (by decide)) hx hZ hby hml hown hlk hret e826 N826
theorem rmaB4 (l : Launch) (Z : State) (a0 : Array Value) (hw : own_W Z a0) (ws : List Jvm.Cond) (a : Addr) (hi : Int64) (lo : Int64) (np : Int32) (r : Addr) (kr : ClassId) (pw : Int32) (x0 : Int64) (x1 : Int64) (x2 : Int64) (x3 : Int64) (bits : Int32) (bs : Int32) (y0 : Int64) (y1 : Int64) (y2 : Int64) (y3 : Int64) (h0 : Heap) (n0 : Nat) (Z0 : n0 ≤ h0.size) (O0 : own_O Z h0 a r kr (4 : Int32) (3 : Int32) pw [(.long x0), (.long x1), (.long x2), (.long x3)]) (g_a : n0 ≤ a) (g_r : n0 ≤ r) (hlt : np < pw) (hbt : (pw - np) = bits) (hws : ((bits.toUInt32 >>> ((6 : Int32) &&& 31).toUInt32).toInt32) = (0 : Int32)) (hbs : (bits &&& (63 : Int32)) = bs) (hy0 : (((own_s2 x0 (0 : Int64) bs) + (own_s1 lo (0 : Int32))) + (0 : Int64)) = y0) (hy1 : (((own_s2 x1 x0 bs) + (own_s2 hi lo (0 : Int32))) + (own_co (own_s2 x0 (0 : Int64) bs) (own_s1 lo (0 : Int32)) y0)) = y1) (hy2 : (((own_s2 x2 x1 bs) + (own_s3 hi (0 : Int32))) + (own_co (own_s2 x1 x0 bs) (own_s2 hi lo (0 : Int32)) y1)) = y2) (hy3 : (((own_s2 (own_sg x2) x2 bs) + (own_sg (own_s3 hi (0 : Int32)))) + (own_co (own_s2 x2 x1 bs) (own_s3 hi (0 : Int32)) y2)) = y3) (htop : y2 = own_sg y1) (htop3 : y3 = own_sg y2) :
    own_M l Z (⟨"com/example/eventweir/eventweir/ExactSum", "add", "(JJI)V"⟩ : MethodName) prog_78_method_3_code 20 none ws ({ frames := 5, cells := 2, slots := 8, locals := 150 } : Room) #[(.ref a), (.long hi), (.long lo), (.int np)] h0 (own_Q_add Z a y0 y1 np h0 n0) := by
  refine own_body (plainFor_of_name own_pn0) ?_
  intro p e s m below meth c s₁ hx hZ hby hml hown hnm hlk hret X0 e0
  have N0 := Fr.nil n0
  obtain ⟨E_a, Fw, Fl, Fp, V⟩ := O0
  have ne_ar : a ≠ r := E_a.neArv V (hw _ (own_m 3 rfl))
  refine up (U' := s₁.setTop (mkF m 0 #[oA a, oJ hi, oS, oJ lo, oS, oI np, oU, oU, oU, oU, oU, oU, oU, oU, oU, oU, oU, oU, oU, oU] [])) ?_ (fun t k => castTop (own_ef_rma0c m a hi lo np) k)
  refine up ?_ fun t k => XS.aloadN X0.here hx rfl (hb hby d3_0) rfl rfl k
  show own_G (s₁.setTop (mkF m 1 #[oA a, oJ hi, oS, oJ lo, oS, oI np, oU, oU, oU, oU, oU, oU, oU, oU, oU, oU, oU, oU, oU, oU] [(.ref a)]))
  obtain ⟨T827, X827, e827, st827⟩ := getF X0 hx hZ hown (host := "") (Or.inl (hw _ (own_m 20 rfl))) Via.refl e0 Fl (g := (mkF m 1 #[oA a, oJ hi, oS, oJ lo, oS, oI np, oU, oU, oU, oU, oU, oU, oU, oU, oU, oU, oU, oU, oU, oU] [(.ref a)])) rfl rfl (hb hby d3_1)
  refine up ?_ st827
  show own_G (T827.setTop (mkF m 4 #[oA a, oJ hi, oS, oJ lo, oS, oI np, oU, oU, oU, oU, oU, oU, oU, oU, oU, oU, oU, oU, oU, oU] [(.int (3 : Int32))]))
  refine up ?_ fun t k => XS.ifYes X827.here hx rfl (pc0 := 4) (pc' := 16) rfl (hb hby d3_4) rfl ((if0 _ _).trans (feq (by decide : ¬ ((3 : Int32) = (0 : Int32)))).2) (by decide) (by decide) (XS.iload X827.here hx rfl (hb hby d3_16) rfl (XS.aloadN X827.here hx rfl (hb hby d3_18) rfl rfl k))
  show own_G (T827.setTop (mkF m 19 #[oA a, oJ hi, oS, oJ lo, oS, oI np, oU, oU, oU, oU, oU, oU, oU, oU, oU, oU, oU, oU, oU, oU] [(.ref a), (.int np)]))
  obtain ⟨T828, X828, e828, st828⟩ := getF X827 hx hZ hown (host := "") (Or.inl (hw _ (own_m 22 rfl))) Via.refl e827 Fp (g := (mkF m 19 #[oA a, oJ hi, oS, oJ lo, oS, oI np, oU, oU, oU, oU, oU, oU, oU, oU, oU, oU, oU, oU, oU, oU] [(.ref a), (.int np)])) rfl rfl (hb hby d3_19)
  refine up ?_ st828
  show own_G (T828.setTop (mkF m 22 #[oA a, oJ hi, oS, oJ lo, oS, oI np, oU, oU, oU, oU, oU, oU, oU, oU, oU, oU, oU, oU, oU, oU] [(.int pw), (.int np)]))
  refine up ?_ fun t k => XS.icmpNo X828.here hx rfl (hb hby d3_22) rfl (tlt (hlt : (np < pw))).2.1 (XS.aloadN X828.here hx rfl (hb hby d3_25) rfl rfl (XS.aloadN X828.here hx rfl (hb hby d3_26) rfl rfl k))
  show own_G (T828.setTop (mkF m 27 #[oA a, oJ hi, oS, oJ lo, oS, oI np, oU, oU, oU, oU, oU, oU, oU, oU, oU, oU, oU, oU, oU, oU] [(.ref a), (.ref a)]))
  obtain ⟨T829, X829, e829, st829⟩ := getF X828 hx hZ hown (host := "") (Or.inl (hw _ (own_m 22 rfl))) Via.refl e828 Fp (g := (mkF m 27 #[oA a, oJ hi, oS, oJ lo, oS, oI np, oU, oU, oU, oU, oU, oU, oU, oU, oU, oU, oU, oU, oU, oU] [(.ref a), (.ref a)])) rfl rfl (hb hby d3_27)
  refine up ?_ st829
  show own_G (T829.setTop (mkF m 30 #[oA a, oJ hi, oS, oJ lo, oS, oI np, oU, oU, oU, oU, oU, oU, oU, oU, oU, oU, oU, oU, oU, oU] [(.int pw), (.ref a)]))
  refine up ?_ fun t k => XS.iload X829.here hx rfl (hb hby d3_30) rfl (XS.isub X829.here hx rfl (hb hby d3_32) rfl k)
  show own_G (T829.setTop (mkF m 33 #[oA a, oJ hi, oS, oJ lo, oS, oI np, oU, oU, oU, oU, oU, oU, oU, oU, oU, oU, oU, oU, oU, oU] [(.int (pw - np)), (.ref a)]))
  rw [hbt]
  show own_G (T829.setTop (mkF m 33 #[oA a, oJ hi, oS, oJ lo, oS, oI np, oU, oU, oU, oU, oU, oU, oU, oU, oU, oU, oU, oU, oU, oU] [(.int bits), (.ref a)]))
  obtain ⟨cq830, q830, q830'⟩ := E_a.cell
  obtain ⟨_, _, ⟨T830, L830, k830, n830⟩, -, X830, ⟨Lc830, hQ830, l830, y830, z830⟩, st830⟩ := X829.privateBack hx (y := (⟨"com/example/eventweir/eventweir/ExactSum", "shiftUp", "(I)V"⟩ : MethodName)) hown (mvT hZ (hw _ (own_m 59 rfl))) (mvT hZ (hw _ (own_m 60 rfl))) (own_sel (by decide) (mvT hZ (hw _ (own_m 60 rfl))) (mvP hZ (hw _ (own_m 61 rfl))) (mvT hZ (hw _ (own_m 3 rfl)))) (Cond.privateMethod_at (mvP hZ (hw _ (own_m 61 rfl)) (args := #[]))) (mvT hZ (hw _ (own_m 62 rfl))) (by decide) (backOf (W := 0) (rmsB4 l Z a0 hw [] a bits r kr pw x0 x1 x2 x3 bs h0 n0 Z0 ⟨E_a, Fw, Fl, Fp, V⟩ g_a g_r hws hbs) hZ (hw _ (own_m 62 rfl)) (hw _ (own_m 4 rfl)) (by decide) (by decide)) (g := (mkF m 33 #[oA a, oJ hi, oS, oJ lo, oS, oI np, oU, oU, oU, oU, oU, oU, oU, oU, oU, oU, oU, oU, oU, oU] [(.int bits), (.ref a)])) rfl (by rw [hml]; rfl) (Steps.refl _) (a := a) (by rw [e829]; exact q830) q830' (argsL := [(.int bits)]) (rest := []) (lenOf own_pd6 rfl) rfl (by show 2 * 0 + _ ≤ _; exact Nat.le_of_eq rfl) (hb hby d3_33) (fun _ _ => ⟨rfl, e829, (by decide : 0 + 0 ≤ _), (by decide : 0 + 0 ≤ _)⟩)
  dsimp only [Pt.U, Pt.locs, Pt.cells, Pt.slots] at X830 l830 y830 z830 st830 hQ830
  subst l830 y830 z830
  obtain ⟨rfl, Nq830, hsq830, Eq830, Fwq830, Flq830, Fpq830, Vq830⟩ := hQ830
  have N830 := Fr.app N0 Nq830
  have kq831 := Nat.le_trans (Nat.le_refl h0.size) hsq830
  have Zs832 : n0 ≤ T830.heap.size := Nat.le_trans Z0 hsq830
  refine up ?_ (fun t k => st830.trans k)
  show own_G (T830.setTop (mkF m 36 #[oA a, oJ hi, oS, oJ lo, oS, oI np, oU, oU, oU, oU, oU, oU, oU, oU, oU, oU, oU, oU, oU, oU] []))
  refine up ?_ fun t k => XS.aloadN X830.here hx rfl (hb hby d3_36) rfl rfl (XS.iload X830.here hx rfl (hb hby d3_37) rfl k)
  show own_G (T830.setTop (mkF m 39 #[oA a, oJ hi, oS, oJ lo, oS, oI np, oU, oU, oU, oU, oU, oU, oU, oU, oU, oU, oU, oU, oU, oU] [(.int np), (.ref a)]))
  obtain ⟨T833, h833, X833, e833, W833, st833⟩ := putF X830 hx hZ hown (host := "") (Or.inl (hw _ (own_m 22 rfl))) Via.refl rfl Fpq830 Eq830 (Or.inl (hw _ (own_m 23 rfl))) (hw _ (own_m 3 rfl)) (ty := .int) (by decide) rfl rfl (g := (mkF m 39 #[oA a, oJ hi, oS, oJ lo, oS, oI np, oU, oU, oU, oU, oU, oU, oU, oU, oU, oU, oU, oU, oU, oU] [(.int np), (.ref a)])) rfl rfl (hb hby d3_39)
  refine up ?_ st833
  have Eq830_c834 := Eq830.wr W833
  have Fwq830_c834 := Fwq830.other W833 (Or.inr (slot_ne (Or.inl (hw _ (own_m 14 rfl))) (Or.inl (hw _ (own_m 23 rfl))) (by decide) (t := (.array .long)) (t' := .int) (by decide) (by decide)))
  have Flq830_c834 := Flq830.other W833 (Or.inr (slot_ne (Or.inl (hw _ (own_m 21 rfl))) (Or.inl (hw _ (own_m 23 rfl))) (by decide) (t := .int) (t' := .int) (by decide) (by decide)))
  have Vq830_c834 := Vq830.other W833 (Ne.symm (Eq830.neArv Vq830 (hw _ (own_m 3 rfl))))
  have F833 := Fpq830.same W833
  have N833 := Fr.snoc X833 N830 g_a
  have kq835 := Nat.le_trans kq831 (Keep.of_wr W833).1
  have Zs836 : n0 ≤ h833.size := Nat.le_trans Zs832 (Keep.of_wr W833).1
  show own_G (T833.setTop (mkF m 42 #[oA a, oJ hi, oS, oJ lo, oS, oI np, oU, oU, oU, oU, oU, oU, oU, oU, oU, oU, oU, oU, oU, oU] []))
  refine up ?_ fun t k => XS.iload X833.here hx rfl (hb hby d3_42) rfl (XS.aloadN X833.here hx rfl (hb hby d3_44) rfl rfl k)
  show own_G (T833.setTop (mkF m 45 #[oA a, oJ hi, oS, oJ lo, oS, oI np, oU, oU, oU, oU, oU, oU, oU, oU, oU, oU, oU, oU, oU, oU] [(.ref a), (.int np)]))
  obtain ⟨T837, X837, e837, st837⟩ := getF X833 hx hZ hown (host := "") (Or.inl (hw _ (own_m 22 rfl))) Via.refl e833 F833 (g := (mkF m 45 #[oA a, oJ hi, oS, oJ lo, oS, oI np, oU, oU, oU, oU, oU, oU, oU, oU, oU, oU, oU, oU, oU, oU] [(.ref a), (.int np)])) rfl rfl (hb hby d3_45)
  refine up ?_ st837
  show own_G (T837.setTop (mkF m 48 #[oA a, oJ hi, oS, oJ lo, oS, oI np, oU, oU, oU, oU, oU, oU, oU, oU, oU, oU, oU, oU, oU, oU] [(.int np), (.int np)]))
  refine up ?_ fun t k => XS.isub X837.here hx rfl (hb hby d3_48) rfl (XS.istore X837.here hx rfl (hb hby d3_49) rfl (l' := #[oA a, oJ hi, oS, oJ lo, oS, oI np, oI (np - np), oU, oU, oU, oU, oU, oU, oU, oU, oU, oU, oU, oU, oU]) rfl k)
  show own_G (T837.setTop (mkF m 51 #[oA a, oJ hi, oS, oJ lo, oS, oI np, oI (np - np), oU, oU, oU, oU, oU, oU, oU, oU, oU, oU, oU, oU, oU] []))
  rw [Int32.sub_self]
  show own_G (T837.setTop (mkF m 51 #[oA a, oJ hi, oS, oJ lo, oS, oI np, oI (0 : Int32), oU, oU, oU, oU, oU, oU, oU, oU, oU, oU, oU, oU, oU] []))
  refine up ?_ fun t k => XS.iload X837.here hx rfl (hb hby d3_51) rfl (XS.bipush X837.here hx rfl (hb hby d3_53) (XS.iushr X837.here hx rfl (hb hby d3_55) rfl (XS.istore X837.here hx rfl (hb hby d3_56) rfl (l' := #[oA a, oJ hi, oS, oJ lo, oS, oI np, oI (0 : Int32), oI (((0 : Int32).toUInt32 >>> ((6 : Int32) &&& 31).toUInt32).toInt32), oU, oU, oU, oU, oU, oU, oU, oU, oU, oU, oU, oU]) rfl k)))
  show own_G (T837.setTop (mkF m 58 #[oA a, oJ hi, oS, oJ lo, oS, oI np, oI (0 : Int32), oI (((0 : Int32).toUInt32 >>> ((6 : Int32) &&& 31).toUInt32).toInt32), oU, oU, oU, oU, oU, oU, oU, oU, oU, oU, oU, oU] []))
  show own_G (T837.setTop (mkF m 58 #[oA a, oJ hi, oS, oJ lo, oS, oI np, oI (0 : Int32), oI (0 : Int32), oU, oU, oU, oU, oU, oU, oU, oU, oU, oU, oU, oU] []))
  refine up ?_ fun t k => XS.iload X837.here hx rfl (hb hby d3_58) rfl (XS.bipush X837.here hx rfl (hb hby d3_60) (XS.iand X837.here hx rfl (hb hby d3_62) rfl (XS.istore X837.here hx rfl (hb hby d3_63) rfl (l' := #[oA a, oJ hi, oS, oJ lo, oS, oI np, oI (0 : Int32), oI (0 : Int32), oI ((0 : Int32) &&& (63 : Int32)), oU, oU, oU, oU, oU, oU, oU, oU, oU, oU, oU]) rfl k)))
  show own_G (T837.setTop (mkF m 65 #[oA a, oJ hi, oS, oJ lo, oS, oI np, oI (0 : Int32), oI (0 : Int32), oI ((0 : Int32) &&& (63 : Int32)), oU, oU, oU, oU, oU, oU, oU, oU, oU, oU, oU] []))
  show own_G (T837.setTop (mkF m 65 #[oA a, oJ hi, oS, oJ lo, oS, oI np, oI (0 : Int32), oI (0 : Int32), oI (0 : Int32), oU, oU, oU, oU, oU, oU, oU, oU, oU, oU, oU] []))
  refine up ?_ fun t k => XS.lloadN X837.here hx rfl (hb hby d3_65) rfl (XS.iload X837.here hx rfl (hb hby d3_66) rfl (XS.lshl X837.here hx rfl (hb hby d3_68) rfl (XS.lstore X837.here hx rfl (hb hby d3_69) rfl (l' := #[oA a, oJ hi, oS, oJ lo, oS, oI np, oI (0 : Int32), oI (0 : Int32), oI (0 : Int32), oJ (lo <<< ((0 : Int32) &&& 0x3f).toInt64), oS, oU, oU, oU, oU, oU, oU, oU, oU, oU]) rfl k)))
  show own_G (T837.setTop (mkF m 71 #[oA a, oJ hi, oS, oJ lo, oS, oI np, oI (0 : Int32), oI (0 : Int32), oI (0 : Int32), oJ (lo <<< ((0 : Int32) &&& 0x3f).toInt64), oS, oU, oU, oU, oU, oU, oU, oU, oU, oU] []))
  show own_G (T837.setTop (mkF m 71 #[oA a, oJ hi, oS, oJ lo, oS, oI np, oI (0 : Int32), oI (0 : Int32), oI (0 : Int32), oJ (own_s1 lo (0 : Int32)), oS, oU, oU, oU, oU, oU, oU, oU, oU, oU] []))
  refine up ?_ fun t k => XS.lloadN X837.here hx rfl (hb hby d3_71) rfl (XS.iload X837.here hx rfl (hb hby d3_72) rfl (XS.lshl X837.here hx rfl (hb hby d3_74) rfl (XS.lloadN X837.here hx rfl (hb hby d3_75) rfl (XS.iconst X837.here hx rfl (hb hby d3_76) (XS.lushr X837.here hx rfl (hb hby d3_77) rfl (XS.bipush X837.here hx rfl (hb hby d3_78) (XS.iload X837.here hx rfl (hb hby d3_80) rfl (XS.isub X837.here hx rfl (hb hby d3_82) rfl (XS.lushr X837.here hx rfl (hb hby d3_83) rfl k)))))))))
  show own_G (T837.setTop (mkF m 84 #[oA a, oJ hi, oS, oJ lo, oS, oI np, oI (0 : Int32), oI (0 : Int32), oI (0 : Int32), oJ (own_s1 lo (0 : Int32)), oS, oU, oU, oU, oU, oU, oU, oU, oU, oU] [(.long ((((lo.toUInt64 >>> ((1 : Int32) &&& 0x3f).toInt64.toUInt64).toInt64).toUInt64 >>> ((63 : Int32) &&& 0x3f).toInt64.toUInt64).toInt64)), (.long (hi <<< ((0 : Int32) &&& 0x3f).toInt64))]))
  refine up ?_ fun t k => XS.lor X837.here hx rfl (hb hby d3_84) rfl (XS.lstore X837.here hx rfl (hb hby d3_85) rfl (l' := #[oA a, oJ hi, oS, oJ lo, oS, oI np, oI (0 : Int32), oI (0 : Int32), oI (0 : Int32), oJ (own_s1 lo (0 : Int32)), oS, oJ ((hi <<< ((0 : Int32) &&& 0x3f).toInt64) ||| ((((lo.toUInt64 >>> ((1 : Int32) &&& 0x3f).toInt64.toUInt64).toInt64).toUInt64 >>> ((63 : Int32) &&& 0x3f).toInt64.toUInt64).toInt64)), oS, oU, oU, oU, oU, oU, oU, oU]) rfl k)
  show own_G (T837.setTop (mkF m 87 #[oA a, oJ hi, oS, oJ lo, oS, oI np, oI (0 : Int32), oI (0 : Int32), oI (0 : Int32), oJ (own_s1 lo (0 : Int32)), oS, oJ ((hi <<< ((0 : Int32) &&& 0x3f).toInt64) ||| ((((lo.toUInt64 >>> ((1 : Int32) &&& 0x3f).toInt64.toUInt64).toInt64).toUInt64 >>> ((63 : Int32) &&& 0x3f).toInt64.toUInt64).toInt64)), oS, oU, oU, oU, oU, oU, oU, oU] []))
  show own_G (T837.setTop (mkF m 87 #[oA a, oJ hi, oS, oJ lo, oS, oI np, oI (0 : Int32), oI (0 : Int32), oI (0 : Int32), oJ (own_s1 lo (0 : Int32)), oS, oJ (own_s2 hi lo (0 : Int32)), oS, oU, oU, oU, oU, oU, oU, oU] []))
  refine up ?_ fun t k => XS.lloadN X837.here hx rfl (hb hby d3_87) rfl (XS.iconst X837.here hx rfl (hb hby d3_88) (XS.lshr X837.here hx rfl (hb hby d3_89) rfl (XS.bipush X837.here hx rfl (hb hby d3_90) (XS.iload X837.here hx rfl (hb hby d3_92) rfl (XS.isub X837.here hx rfl (hb hby d3_94) rfl (XS.lshr X837.here hx rfl (hb hby d3_95) rfl (XS.lstore X837.here hx rfl (hb hby d3_96) rfl (l' := #[oA a, oJ hi, oS, oJ lo, oS, oI np, oI (0 : Int32), oI (0 : Int32), oI (0 : Int32), oJ (own_s1 lo (0 : Int32)), oS, oJ (own_s2 hi lo (0 : Int32)), oS, oJ ((hi >>> ((1 : Int32) &&& 0x3f).toInt64) >>> ((63 : Int32) &&& 0x3f).toInt64), oS, oU, oU, oU, oU, oU]) rfl k)))))))
  show own_G (T837.setTop (mkF m 98 #[oA a, oJ hi, oS, oJ lo, oS, oI np, oI (0 : Int32), oI (0 : Int32), oI (0 : Int32), oJ (own_s1 lo (0 : Int32)), oS, oJ (own_s2 hi lo (0 : Int32)), oS, oJ ((hi >>> ((1 : Int32) &&& 0x3f).toInt64) >>> ((63 : Int32) &&& 0x3f).toInt64), oS, oU, oU, oU, oU, oU] []))
  show own_G (T837.setTop (mkF m 98 #[oA a, oJ hi, oS, oJ lo, oS, oI np, oI (0 : Int32), oI (0 : Int32), oI (0 : Int32), oJ (own_s1 lo (0 : Int32)), oS, oJ (own_s2 hi lo (0 : Int32)), oS, oJ (own_s3 hi (0 : Int32)), oS, oU, oU, oU, oU, oU] []))
  refine up ?_ fun t k => XS.aloadN X837.here hx rfl (hb hby d3_98) rfl rfl (XS.iload X837.here hx rfl (hb hby d3_99) rfl (XS.iconst X837.here hx rfl (hb hby d3_101) (XS.iadd X837.here hx rfl (hb hby d3_102) rfl k)))
  show own_G (T837.setTop (mkF m 103 #[oA a, oJ hi, oS, oJ lo, oS, oI np, oI (0 : Int32), oI (0 : Int32), oI (0 : Int32), oJ (own_s1 lo (0 : Int32)), oS, oJ (own_s2 hi lo (0 : Int32)), oS, oJ (own_s3 hi (0 : Int32)), oS, oU, oU, oU, oU, oU] [(.int (3 : Int32)), (.ref a)]))
  obtain ⟨cq838, q838, q838'⟩ := Eq830_c834.cell
  obtain ⟨_, _, ⟨T838, L838, k838, n838⟩, -, X838, ⟨Lc838, hQ838, l838, y838, z838⟩, st838⟩ := X837.privateBack hx (y := (⟨"com/example/eventweir/eventweir/ExactSum", "widen", "(I)V"⟩ : MethodName)) hown (mvT hZ (hw _ (own_m 24 rfl))) (mvT hZ (hw _ (own_m 25 rfl))) (own_sel (by decide) (mvT hZ (hw _ (own_m 25 rfl))) (mvP hZ (hw _ (own_m 26 rfl))) (mvT hZ (hw _ (own_m 3 rfl)))) (Cond.privateMethod_at (mvP hZ (hw _ (own_m 26 rfl)) (args := #[]))) (mvT hZ (hw _ (own_m 27 rfl))) (by decide) (backOf (W := 0) (rmwr l Z a0 hw [] a (3 : Int32) (4 : Int32) h833 n0 Zs836 Flq830_c834 (by decide)) hZ (hw _ (own_m 27 rfl)) (hw _ (own_m 4 rfl)) (by decide) (by decide)) (g := (mkF m 103 #[oA a, oJ hi, oS, oJ lo, oS, oI np, oI (0 : Int32), oI (0 : Int32), oI (0 : Int32), oJ (own_s1 lo (0 : Int32)), oS, oJ (own_s2 hi lo (0 : Int32)), oS, oJ (own_s3 hi (0 : Int32)), oS, oU, oU, oU, oU, oU] [(.int (3 : Int32)), (.ref a)])) rfl (by rw [hml]; rfl) (Steps.refl _) (a := a) (by rw [e837]; exact q838) q838' (argsL := [(.int (3 : Int32))]) (rest := []) (lenOf own_pd6 rfl) rfl (by show 2 * 0 + _ ≤ _; exact Nat.le_of_eq rfl) (hb hby d3_103) (fun _ _ => ⟨rfl, e837, (by decide : 0 + 0 ≤ _), (by decide : 0 + 0 ≤ _)⟩)
  dsimp only [Pt.U, Pt.locs, Pt.cells, Pt.slots] at X838 l838 y838 z838 st838 hQ838
  subst l838 y838 z838
  obtain ⟨rfl, Nq838, e838⟩ := hQ838
  have N838 := Fr.app N833 Nq838
  refine up ?_ (fun t k => st838.trans k)
  show own_G (T838.setTop (mkF m 106 #[oA a, oJ hi, oS, oJ lo, oS, oI np, oI (0 : Int32), oI (0 : Int32), oI (0 : Int32), oJ (own_s1 lo (0 : Int32)), oS, oJ (own_s2 hi lo (0 : Int32)), oS, oJ (own_s3 hi (0 : Int32)), oS, oU, oU, oU, oU, oU] []))
  exact blB4 Z a0 hw r kr np (own_s2 x0 (0 : Int64) bs) (own_s2 x1 x0 bs) (own_s2 x2 x1 bs) (own_s2 (own_sg x2) x2 bs) h0 hi lo np (0 : Int32) (0 : Int32) (own_s1 lo (0 : Int32)) (own_s2 hi lo (0 : Int32)) (own_s3 hi (0 : Int32)) y0 y1 y2 y3 h833 n0 Zs836 ⟨Eq830_c834, Fwq830_c834, Flq830_c834, F833, Vq830_c834⟩ g_a g_r kq835 hy0 hy1 hy2 hy3 htop htop3 (X838.mono (by decide) (by decide)) hx hZ hby hml hown hlk hret e838 N838
theorem rmaC3 (l : Launch) (Z : State) (a0 : Array Value) (hw : own_W Z a0) (ws : List Jvm.Cond) (a : Addr) (hi : Int64) (lo : Int64) (np : Int32) (r : Addr) (kr : ClassId) (pw : Int32) (x0 : Int64) (x1 : Int64) (x2 : Int64) (bits : Int32) (bs : Int32) (y0 : Int64) (y1 : Int64) (y2 : Int64) (y3 : Int64) (h0 : Heap) (n0 : Nat) (Z0 : n0 ≤ h0.size) (O0 : own_O Z h0 a r kr (3 : Int32) (2 : Int32) pw [(.long x0), (.long x1), (.long x2)]) (g_a : n0 ≤ a) (g_r : n0 ≤ r) (hlt : np < pw) (hbt : (pw - np) = bits) (hws : ((bits.toUInt32 >>> ((6 : Int32) &&& 31).toUInt32).toInt32) = (1 : Int32)) (hbs : (bits &&& (63 : Int32)) = bs) (hy0 : (((0 : Int64) + (own_s1 lo (0 : Int32))) + (0 : Int64)) = y0) (hy1 : (((own_s2 x0 (0 : Int64) bs) + (own_s2 hi lo (0 : Int32))) + (own_co (0 : Int64) (own_s1 lo (0 : Int32)) y0)) = y1) (hy2 : (((own_s2 x1 x0 bs) + (own_s3 hi (0 : Int32))) + (own_co (own_s2 x0 (0 : Int64) bs) (own_s2 hi lo (0 : Int32)) y1)) = y2) (hy3 : (((own_s2 (own_sg x1) x1 bs) + (own_sg (own_s3 hi (0 : Int32)))) + (own_co (own_s2 x1 x0 bs) (own_s3 hi (0 : Int32)) y2)) = y3) (htop : y2 = own_sg y1) (htop3 : y3 = own_sg y2) :
    own_M l Z (⟨"com/example/eventweir/eventweir/ExactSum", "add", "(JJI)V"⟩ : MethodName) prog_78_method_3_code 20 none ws ({ frames := 5, cells := 2, slots := 8, locals := 150 } : Room) #[(.ref a), (.long hi), (.long lo), (.int np)] h0 (own_Q_add Z a y0 y1 np h0 n0) := by
  refine own_body (plainFor_of_name own_pn0) ?_
  intro p e s m below meth c s₁ hx hZ hby hml hown hnm hlk hret X0 e0
  have N0 := Fr.nil n0
  obtain ⟨E_a, Fw, Fl, Fp, V⟩ := O0
  have ne_ar : a ≠ r := E_a.neArv V (hw _ (own_m 3 rfl))
  refine up (U' := s₁.setTop (mkF m 0 #[oA a, oJ hi, oS, oJ lo, oS, oI np, oU, oU, oU, oU, oU, oU, oU, oU, oU, oU, oU, oU, oU, oU] [])) ?_ (fun t k => castTop (own_ef_rma0c m a hi lo np) k)
  refine up ?_ fun t k => XS.aloadN X0.here hx rfl (hb hby d3_0) rfl rfl k
  show own_G (s₁.setTop (mkF m 1 #[oA a, oJ hi, oS, oJ lo, oS, oI np, oU, oU, oU, oU, oU, oU, oU, oU, oU, oU, oU, oU, oU, oU] [(.ref a)]))
  obtain ⟨T839, X839, e839, st839⟩ := getF X0 hx hZ hown (host := "") (Or.inl (hw _ (own_m 20 rfl))) Via.refl e0 Fl (g := (mkF m 1 #[oA a, oJ hi, oS, oJ lo, oS, oI np, oU, oU, oU, oU, oU, oU, oU, oU, oU, oU, oU, oU, oU, oU] [(.ref a)])) rfl rfl (hb hby d3_1)
  refine up ?_ st839
  show own_G (T839.setTop (mkF m 4 #[oA a, oJ hi, oS, oJ lo, oS, oI np, oU, oU, oU, oU, oU, oU, oU, oU, oU, oU, oU, oU, oU, oU] [(.int (2 : Int32))]))
  refine up ?_ fun t k => XS.ifYes X839.here hx rfl (pc0 := 4) (pc' := 16) rfl (hb hby d3_4) rfl ((if0 _ _).trans (feq (by decide : ¬ ((2 : Int32) = (0 : Int32)))).2) (by decide) (by decide) (XS.iload X839.here hx rfl (hb hby d3_16) rfl (XS.aloadN X839.here hx rfl (hb hby d3_18) rfl rfl k))
  show own_G (T839.setTop (mkF m 19 #[oA a, oJ hi, oS, oJ lo, oS, oI np, oU, oU, oU, oU, oU, oU, oU, oU, oU, oU, oU, oU, oU, oU] [(.ref a), (.int np)]))
  obtain ⟨T840, X840, e840, st840⟩ := getF X839 hx hZ hown (host := "") (Or.inl (hw _ (own_m 22 rfl))) Via.refl e839 Fp (g := (mkF m 19 #[oA a, oJ hi, oS, oJ lo, oS, oI np, oU, oU, oU, oU, oU, oU, oU, oU, oU, oU, oU, oU, oU, oU] [(.ref a), (.int np)])) rfl rfl (hb hby d3_19)
  refine up ?_ st840
  show own_G (T840.setTop (mkF m 22 #[oA a, oJ hi, oS, oJ lo, oS, oI np, oU, oU, oU, oU, oU, oU, oU, oU, oU, oU, oU, oU, oU, oU] [(.int pw), (.int np)]))
  refine up ?_ fun t k => XS.icmpNo X840.here hx rfl (hb hby d3_22) rfl (tlt (hlt : (np < pw))).2.1 (XS.aloadN X840.here hx rfl (hb hby d3_25) rfl rfl (XS.aloadN X840.here hx rfl (hb hby d3_26) rfl rfl k))
  show own_G (T840.setTop (mkF m 27 #[oA a, oJ hi, oS, oJ lo, oS, oI np, oU, oU, oU, oU, oU, oU, oU, oU, oU, oU, oU, oU, oU, oU] [(.ref a), (.ref a)]))
  obtain ⟨T841, X841, e841, st841⟩ := getF X840 hx hZ hown (host := "") (Or.inl (hw _ (own_m 22 rfl))) Via.refl e840 Fp (g := (mkF m 27 #[oA a, oJ hi, oS, oJ lo, oS, oI np, oU, oU, oU, oU, oU, oU, oU, oU, oU, oU, oU, oU, oU, oU] [(.ref a), (.ref a)])) rfl rfl (hb hby d3_27)
  refine up ?_ st841
  show own_G (T841.setTop (mkF m 30 #[oA a, oJ hi, oS, oJ lo, oS, oI np, oU, oU, oU, oU, oU, oU, oU, oU, oU, oU, oU, oU, oU, oU] [(.int pw), (.ref a)]))
  refine up ?_ fun t k => XS.iload X841.here hx rfl (hb hby d3_30) rfl (XS.isub X841.here hx rfl (hb hby d3_32) rfl k)
  show own_G (T841.setTop (mkF m 33 #[oA a, oJ hi, oS, oJ lo, oS, oI np, oU, oU, oU, oU, oU, oU, oU, oU, oU, oU, oU, oU, oU, oU] [(.int (pw - np)), (.ref a)]))
  rw [hbt]
  show own_G (T841.setTop (mkF m 33 #[oA a, oJ hi, oS, oJ lo, oS, oI np, oU, oU, oU, oU, oU, oU, oU, oU, oU, oU, oU, oU, oU, oU] [(.int bits), (.ref a)]))
  obtain ⟨cq842, q842, q842'⟩ := E_a.cell
  obtain ⟨_, _, ⟨T842, L842, k842, n842⟩, -, X842, ⟨Lc842, hQ842, l842, y842, z842⟩, st842⟩ := X841.privateBack hx (y := (⟨"com/example/eventweir/eventweir/ExactSum", "shiftUp", "(I)V"⟩ : MethodName)) hown (mvT hZ (hw _ (own_m 59 rfl))) (mvT hZ (hw _ (own_m 60 rfl))) (own_sel (by decide) (mvT hZ (hw _ (own_m 60 rfl))) (mvP hZ (hw _ (own_m 61 rfl))) (mvT hZ (hw _ (own_m 3 rfl)))) (Cond.privateMethod_at (mvP hZ (hw _ (own_m 61 rfl)) (args := #[]))) (mvT hZ (hw _ (own_m 62 rfl))) (by decide) (backOf (W := 0) (rmsC3 l Z a0 hw [] a bits r kr pw x0 x1 x2 bs h0 n0 Z0 ⟨E_a, Fw, Fl, Fp, V⟩ g_a g_r hws hbs) hZ (hw _ (own_m 62 rfl)) (hw _ (own_m 4 rfl)) (by decide) (by decide)) (g := (mkF m 33 #[oA a, oJ hi, oS, oJ lo, oS, oI np, oU, oU, oU, oU, oU, oU, oU, oU, oU, oU, oU, oU, oU, oU] [(.int bits), (.ref a)])) rfl (by rw [hml]; rfl) (Steps.refl _) (a := a) (by rw [e841]; exact q842) q842' (argsL := [(.int bits)]) (rest := []) (lenOf own_pd6 rfl) rfl (by show 2 * 0 + _ ≤ _; exact Nat.le_of_eq rfl) (hb hby d3_33) (fun _ _ => ⟨rfl, e841, (by decide : 0 + 1 ≤ _), (by decide : 0 + 4 ≤ _)⟩)
  dsimp only [Pt.U, Pt.locs, Pt.cells, Pt.slots] at X842 l842 y842 z842 st842 hQ842
  subst l842 y842 z842
  obtain ⟨rfl, Nq842, hsq842, r842, kr842, gr842, Eq842, Fwq842, Flq842, Fpq842, Vq842⟩ := hQ842
  have N842 := Fr.app N0 Nq842
  have kq843 := Nat.le_trans (Nat.le_refl h0.size) hsq842
  have Zs844 : n0 ≤ T842.heap.size := Nat.le_trans Z0 hsq842
  refine up ?_ (fun t k => st842.trans k)
  show own_G (T842.setTop (mkF m 36 #[oA a, oJ hi, oS, oJ lo, oS, oI np, oU, oU, oU, oU, oU, oU, oU, oU, oU, oU, oU, oU, oU, oU] []))
  refine up ?_ fun t k => XS.aloadN X842.here hx rfl (hb hby d3_36) rfl rfl (XS.iload X842.here hx rfl (hb hby d3_37) rfl k)
  show own_G (T842.setTop (mkF m 39 #[oA a, oJ hi, oS, oJ lo, oS, oI np, oU, oU, oU, oU, oU, oU, oU, oU, oU, oU, oU, oU, oU, oU] [(.int np), (.ref a)]))
  obtain ⟨T845, h845, X845, e845, W845, st845⟩ := putF X842 hx hZ hown (host := "") (Or.inl (hw _ (own_m 22 rfl))) Via.refl rfl Fpq842 Eq842 (Or.inl (hw _ (own_m 23 rfl))) (hw _ (own_m 3 rfl)) (ty := .int) (by decide) rfl rfl (g := (mkF m 39 #[oA a, oJ hi, oS, oJ lo, oS, oI np, oU, oU, oU, oU, oU, oU, oU, oU, oU, oU, oU, oU, oU, oU] [(.int np), (.ref a)])) rfl rfl (hb hby d3_39)
  refine up ?_ st845
  have Eq842_c846 := Eq842.wr W845
  have Fwq842_c846 := Fwq842.other W845 (Or.inr (slot_ne (Or.inl (hw _ (own_m 14 rfl))) (Or.inl (hw _ (own_m 23 rfl))) (by decide) (t := (.array .long)) (t' := .int) (by decide) (by decide)))
  have Flq842_c846 := Flq842.other W845 (Or.inr (slot_ne (Or.inl (hw _ (own_m 21 rfl))) (Or.inl (hw _ (own_m 23 rfl))) (by decide) (t := .int) (t' := .int) (by decide) (by decide)))
  have Vq842_c846 := Vq842.other W845 (Ne.symm (Eq842.neArv Vq842 (hw _ (own_m 3 rfl))))
  have F845 := Fpq842.same W845
  have N845 := Fr.snoc X845 N842 g_a
  have kq847 := Nat.le_trans kq843 (Keep.of_wr W845).1
  have Zs848 : n0 ≤ h845.size := Nat.le_trans Zs844 (Keep.of_wr W845).1
  show own_G (T845.setTop (mkF m 42 #[oA a, oJ hi, oS, oJ lo, oS, oI np, oU, oU, oU, oU, oU, oU, oU, oU, oU, oU, oU, oU, oU, oU] []))
  refine up ?_ fun t k => XS.iload X845.here hx rfl (hb hby d3_42) rfl (XS.aloadN X845.here hx rfl (hb hby d3_44) rfl rfl k)
  show own_G (T845.setTop (mkF m 45 #[oA a, oJ hi, oS, oJ lo, oS, oI np, oU, oU, oU, oU, oU, oU, oU, oU, oU, oU, oU, oU, oU, oU] [(.ref a), (.int np)]))
  obtain ⟨T849, X849, e849, st849⟩ := getF X845 hx hZ hown (host := "") (Or.inl (hw _ (own_m 22 rfl))) Via.refl e845 F845 (g := (mkF m 45 #[oA a, oJ hi, oS, oJ lo, oS, oI np, oU, oU, oU, oU, oU, oU, oU, oU, oU, oU, oU, oU, oU, oU] [(.ref a), (.int np)])) rfl rfl (hb hby d3_45)
  refine up ?_ st849
  show own_G (T849.setTop (mkF m 48 #[oA a, oJ hi, oS, oJ lo, oS, oI np, oU, oU, oU, oU, oU, oU, oU, oU, oU, oU, oU, oU, oU, oU] [(.int np), (.int np)]))
  refine up ?_ fun t k => XS.isub X849.here hx rfl (hb hby d3_48) rfl (XS.istore X849.here hx rfl (hb hby d3_49) rfl (l' := #[oA a, oJ hi, oS, oJ lo, oS, oI np, oI (np - np), oU, oU, oU, oU, oU, oU, oU, oU, oU, oU, oU, oU, oU]) rfl k)
  show own_G (T849.setTop (mkF m 51 #[oA a, oJ hi, oS, oJ lo, oS, oI np, oI (np - np), oU, oU, oU, oU, oU, oU, oU, oU, oU, oU, oU, oU, oU] []))
  rw [Int32.sub_self]
  show own_G (T849.setTop (mkF m 51 #[oA a, oJ hi, oS, oJ lo, oS, oI np, oI (0 : Int32), oU, oU, oU, oU, oU, oU, oU, oU, oU, oU, oU, oU, oU] []))
  refine up ?_ fun t k => XS.iload X849.here hx rfl (hb hby d3_51) rfl (XS.bipush X849.here hx rfl (hb hby d3_53) (XS.iushr X849.here hx rfl (hb hby d3_55) rfl (XS.istore X849.here hx rfl (hb hby d3_56) rfl (l' := #[oA a, oJ hi, oS, oJ lo, oS, oI np, oI (0 : Int32), oI (((0 : Int32).toUInt32 >>> ((6 : Int32) &&& 31).toUInt32).toInt32), oU, oU, oU, oU, oU, oU, oU, oU, oU, oU, oU, oU]) rfl k)))
  show own_G (T849.setTop (mkF m 58 #[oA a, oJ hi, oS, oJ lo, oS, oI np, oI (0 : Int32), oI (((0 : Int32).toUInt32 >>> ((6 : Int32) &&& 31).toUInt32).toInt32), oU, oU, oU, oU, oU, oU, oU, oU, oU, oU, oU, oU] []))
  show own_G (T849.setTop (mkF m 58 #[oA a, oJ hi, oS, oJ lo, oS, oI np, oI (0 : Int32), oI (0 : Int32), oU, oU, oU, oU, oU, oU, oU, oU, oU, oU, oU, oU] []))
  refine up ?_ fun t k => XS.iload X849.here hx rfl (hb hby d3_58) rfl (XS.bipush X849.here hx rfl (hb hby d3_60) (XS.iand X849.here hx rfl (hb hby d3_62) rfl (XS.istore X849.here hx rfl (hb hby d3_63) rfl (l' := #[oA a, oJ hi, oS, oJ lo, oS, oI np, oI (0 : Int32), oI (0 : Int32), oI ((0 : Int32) &&& (63 : Int32)), oU, oU, oU, oU, oU, oU, oU, oU, oU, oU, oU]) rfl k)))
  show own_G (T849.setTop (mkF m 65 #[oA a, oJ hi, oS, oJ lo, oS, oI np, oI (0 : Int32), oI (0 : Int32), oI ((0 : Int32) &&& (63 : Int32)), oU, oU, oU, oU, oU, oU, oU, oU, oU, oU, oU] []))
  show own_G (T849.setTop (mkF m 65 #[oA a, oJ hi, oS, oJ lo, oS, oI np, oI (0 : Int32), oI (0 : Int32), oI (0 : Int32), oU, oU, oU, oU, oU, oU, oU, oU, oU, oU, oU] []))
  refine up ?_ fun t k => XS.lloadN X849.here hx rfl (hb hby d3_65) rfl (XS.iload X849.here hx rfl (hb hby d3_66) rfl (XS.lshl X849.here hx rfl (hb hby d3_68) rfl (XS.lstore X849.here hx rfl (hb hby d3_69) rfl (l' := #[oA a, oJ hi, oS, oJ lo, oS, oI np, oI (0 : Int32), oI (0 : Int32), oI (0 : Int32), oJ (lo <<< ((0 : Int32) &&& 0x3f).toInt64), oS, oU, oU, oU, oU, oU, oU, oU, oU, oU]) rfl k)))
  show own_G (T849.setTop (mkF m 71 #[oA a, oJ hi, oS, oJ lo, oS, oI np, oI (0 : Int32), oI (0 : Int32), oI (0 : Int32), oJ (lo <<< ((0 : Int32) &&& 0x3f).toInt64), oS, oU, oU, oU, oU, oU, oU, oU, oU, oU] []))
  show own_G (T849.setTop (mkF m 71 #[oA a, oJ hi, oS, oJ lo, oS, oI np, oI (0 : Int32), oI (0 : Int32), oI (0 : Int32), oJ (own_s1 lo (0 : Int32)), oS, oU, oU, oU, oU, oU, oU, oU, oU, oU] []))
  refine up ?_ fun t k => XS.lloadN X849.here hx rfl (hb hby d3_71) rfl (XS.iload X849.here hx rfl (hb hby d3_72) rfl (XS.lshl X849.here hx rfl (hb hby d3_74) rfl (XS.lloadN X849.here hx rfl (hb hby d3_75) rfl (XS.iconst X849.here hx rfl (hb hby d3_76) (XS.lushr X849.here hx rfl (hb hby d3_77) rfl (XS.bipush X849.here hx rfl (hb hby d3_78) (XS.iload X849.here hx rfl (hb hby d3_80) rfl (XS.isub X849.here hx rfl (hb hby d3_82) rfl (XS.lushr X849.here hx rfl (hb hby d3_83) rfl k)))))))))
  show own_G (T849.setTop (mkF m 84 #[oA a, oJ hi, oS, oJ lo, oS, oI np, oI (0 : Int32), oI (0 : Int32), oI (0 : Int32), oJ (own_s1 lo (0 : Int32)), oS, oU, oU, oU, oU, oU, oU, oU, oU, oU] [(.long ((((lo.toUInt64 >>> ((1 : Int32) &&& 0x3f).toInt64.toUInt64).toInt64).toUInt64 >>> ((63 : Int32) &&& 0x3f).toInt64.toUInt64).toInt64)), (.long (hi <<< ((0 : Int32) &&& 0x3f).toInt64))]))
  refine up ?_ fun t k => XS.lor X849.here hx rfl (hb hby d3_84) rfl (XS.lstore X849.here hx rfl (hb hby d3_85) rfl (l' := #[oA a, oJ hi, oS, oJ lo, oS, oI np, oI (0 : Int32), oI (0 : Int32), oI (0 : Int32), oJ (own_s1 lo (0 : Int32)), oS, oJ ((hi <<< ((0 : Int32) &&& 0x3f).toInt64) ||| ((((lo.toUInt64 >>> ((1 : Int32) &&& 0x3f).toInt64.toUInt64).toInt64).toUInt64 >>> ((63 : Int32) &&& 0x3f).toInt64.toUInt64).toInt64)), oS, oU, oU, oU, oU, oU, oU, oU]) rfl k)
  show own_G (T849.setTop (mkF m 87 #[oA a, oJ hi, oS, oJ lo, oS, oI np, oI (0 : Int32), oI (0 : Int32), oI (0 : Int32), oJ (own_s1 lo (0 : Int32)), oS, oJ ((hi <<< ((0 : Int32) &&& 0x3f).toInt64) ||| ((((lo.toUInt64 >>> ((1 : Int32) &&& 0x3f).toInt64.toUInt64).toInt64).toUInt64 >>> ((63 : Int32) &&& 0x3f).toInt64.toUInt64).toInt64)), oS, oU, oU, oU, oU, oU, oU, oU] []))
  show own_G (T849.setTop (mkF m 87 #[oA a, oJ hi, oS, oJ lo, oS, oI np, oI (0 : Int32), oI (0 : Int32), oI (0 : Int32), oJ (own_s1 lo (0 : Int32)), oS, oJ (own_s2 hi lo (0 : Int32)), oS, oU, oU, oU, oU, oU, oU, oU] []))
  refine up ?_ fun t k => XS.lloadN X849.here hx rfl (hb hby d3_87) rfl (XS.iconst X849.here hx rfl (hb hby d3_88) (XS.lshr X849.here hx rfl (hb hby d3_89) rfl (XS.bipush X849.here hx rfl (hb hby d3_90) (XS.iload X849.here hx rfl (hb hby d3_92) rfl (XS.isub X849.here hx rfl (hb hby d3_94) rfl (XS.lshr X849.here hx rfl (hb hby d3_95) rfl (XS.lstore X849.here hx rfl (hb hby d3_96) rfl (l' := #[oA a, oJ hi, oS, oJ lo, oS, oI np, oI (0 : Int32), oI (0 : Int32), oI (0 : Int32), oJ (own_s1 lo (0 : Int32)), oS, oJ (own_s2 hi lo (0 : Int32)), oS, oJ ((hi >>> ((1 : Int32) &&& 0x3f).toInt64) >>> ((63 : Int32) &&& 0x3f).toInt64), oS, oU, oU, oU, oU, oU]) rfl k)))))))
  show own_G (T849.setTop (mkF m 98 #[oA a, oJ hi, oS, oJ lo, oS, oI np, oI (0 : Int32), oI (0 : Int32), oI (0 : Int32), oJ (own_s1 lo (0 : Int32)), oS, oJ (own_s2 hi lo (0 : Int32)), oS, oJ ((hi >>> ((1 : Int32) &&& 0x3f).toInt64) >>> ((63 : Int32) &&& 0x3f).toInt64), oS, oU, oU, oU, oU, oU] []))
  show own_G (T849.setTop (mkF m 98 #[oA a, oJ hi, oS, oJ lo, oS, oI np, oI (0 : Int32), oI (0 : Int32), oI (0 : Int32), oJ (own_s1 lo (0 : Int32)), oS, oJ (own_s2 hi lo (0 : Int32)), oS, oJ (own_s3 hi (0 : Int32)), oS, oU, oU, oU, oU, oU] []))
  refine up ?_ fun t k => XS.aloadN X849.here hx rfl (hb hby d3_98) rfl rfl (XS.iload X849.here hx rfl (hb hby d3_99) rfl (XS.iconst X849.here hx rfl (hb hby d3_101) (XS.iadd X849.here hx rfl (hb hby d3_102) rfl k)))
  show own_G (T849.setTop (mkF m 103 #[oA a, oJ hi, oS, oJ lo, oS, oI np, oI (0 : Int32), oI (0 : Int32), oI (0 : Int32), oJ (own_s1 lo (0 : Int32)), oS, oJ (own_s2 hi lo (0 : Int32)), oS, oJ (own_s3 hi (0 : Int32)), oS, oU, oU, oU, oU, oU] [(.int (3 : Int32)), (.ref a)]))
  obtain ⟨cq850, q850, q850'⟩ := Eq842_c846.cell
  obtain ⟨_, _, ⟨T850, L850, k850, n850⟩, -, X850, ⟨Lc850, hQ850, l850, y850, z850⟩, st850⟩ := X849.privateBack hx (y := (⟨"com/example/eventweir/eventweir/ExactSum", "widen", "(I)V"⟩ : MethodName)) hown (mvT hZ (hw _ (own_m 24 rfl))) (mvT hZ (hw _ (own_m 25 rfl))) (own_sel (by decide) (mvT hZ (hw _ (own_m 25 rfl))) (mvP hZ (hw _ (own_m 26 rfl))) (mvT hZ (hw _ (own_m 3 rfl)))) (Cond.privateMethod_at (mvP hZ (hw _ (own_m 26 rfl)) (args := #[]))) (mvT hZ (hw _ (own_m 27 rfl))) (by decide) (backOf (W := 0) (rmwr l Z a0 hw [] a (3 : Int32) (4 : Int32) h845 n0 Zs848 Flq842_c846 (by decide)) hZ (hw _ (own_m 27 rfl)) (hw _ (own_m 4 rfl)) (by decide) (by decide)) (g := (mkF m 103 #[oA a, oJ hi, oS, oJ lo, oS, oI np, oI (0 : Int32), oI (0 : Int32), oI (0 : Int32), oJ (own_s1 lo (0 : Int32)), oS, oJ (own_s2 hi lo (0 : Int32)), oS, oJ (own_s3 hi (0 : Int32)), oS, oU, oU, oU, oU, oU] [(.int (3 : Int32)), (.ref a)])) rfl (by rw [hml]; rfl) (Steps.refl _) (a := a) (by rw [e849]; exact q850) q850' (argsL := [(.int (3 : Int32))]) (rest := []) (lenOf own_pd6 rfl) rfl (by show 2 * 0 + _ ≤ _; exact Nat.le_of_eq rfl) (hb hby d3_103) (fun _ _ => ⟨rfl, e849, (by decide : 1 + 0 ≤ _), (by decide : 4 + 0 ≤ _)⟩)
  dsimp only [Pt.U, Pt.locs, Pt.cells, Pt.slots] at X850 l850 y850 z850 st850 hQ850
  subst l850 y850 z850
  obtain ⟨rfl, Nq850, e850⟩ := hQ850
  have N850 := Fr.app N845 Nq850
  refine up ?_ (fun t k => st850.trans k)
  show own_G (T850.setTop (mkF m 106 #[oA a, oJ hi, oS, oJ lo, oS, oI np, oI (0 : Int32), oI (0 : Int32), oI (0 : Int32), oJ (own_s1 lo (0 : Int32)), oS, oJ (own_s2 hi lo (0 : Int32)), oS, oJ (own_s3 hi (0 : Int32)), oS, oU, oU, oU, oU, oU] []))
  exact blB4 Z a0 hw r842 kr842 np (0 : Int64) (own_s2 x0 (0 : Int64) bs) (own_s2 x1 x0 bs) (own_s2 (own_sg x1) x1 bs) h0 hi lo np (0 : Int32) (0 : Int32) (own_s1 lo (0 : Int32)) (own_s2 hi lo (0 : Int32)) (own_s3 hi (0 : Int32)) y0 y1 y2 y3 h845 n0 Zs848 ⟨Eq842_c846, Fwq842_c846, Flq842_c846, F845, Vq842_c846⟩ g_a gr842 kq847 hy0 hy1 hy2 hy3 htop htop3 (X850.mono (by decide) (by decide)) hx hZ hby hml hown hlk hret e850 N850
theorem rmaC4 (l : Launch) (Z : State) (a0 : Array Value) (hw : own_W Z a0) (ws : List Jvm.Cond) (a : Addr) (hi : Int64) (lo : Int64) (np : Int32) (r : Addr) (kr : ClassId) (pw : Int32) (x0 : Int64) (x1 : Int64) (x2 : Int64) (x3 : Int64) (bits : Int32) (bs : Int32) (y0 : Int64) (y1 : Int64) (y2 : Int64) (y3 : Int64) (h0 : Heap) (n0 : Nat) (Z0 : n0 ≤ h0.size) (O0 : own_O Z h0 a r kr (4 : Int32) (2 : Int32) pw [(.long x0), (.long x1), (.long x2), (.long x3)]) (g_a : n0 ≤ a) (g_r : n0 ≤ r) (hlt : np < pw) (hbt : (pw - np) = bits) (hws : ((bits.toUInt32 >>> ((6 : Int32) &&& 31).toUInt32).toInt32) = (1 : Int32)) (hbs : (bits &&& (63 : Int32)) = bs) (hy0 : (((0 : Int64) + (own_s1 lo (0 : Int32))) + (0 : Int64)) = y0) (hy1 : (((own_s2 x0 (0 : Int64) bs) + (own_s2 hi lo (0 : Int32))) + (own_co (0 : Int64) (own_s1 lo (0 : Int32)) y0)) = y1) (hy2 : (((own_s2 x1 x0 bs) + (own_s3 hi (0 : Int32))) + (own_co (own_s2 x0 (0 : Int64) bs) (own_s2 hi lo (0 : Int32)) y1)) = y2) (hy3 : (((own_s2 (own_sg x1) x1 bs) + (own_sg (own_s3 hi (0 : Int32)))) + (own_co (own_s2 x1 x0 bs) (own_s3 hi (0 : Int32)) y2)) = y3) (htop : y2 = own_sg y1) (htop3 : y3 = own_sg y2) :
    own_M l Z (⟨"com/example/eventweir/eventweir/ExactSum", "add", "(JJI)V"⟩ : MethodName) prog_78_method_3_code 20 none ws ({ frames := 5, cells := 2, slots := 8, locals := 150 } : Room) #[(.ref a), (.long hi), (.long lo), (.int np)] h0 (own_Q_add Z a y0 y1 np h0 n0) := by
  refine own_body (plainFor_of_name own_pn0) ?_
  intro p e s m below meth c s₁ hx hZ hby hml hown hnm hlk hret X0 e0
  have N0 := Fr.nil n0
  obtain ⟨E_a, Fw, Fl, Fp, V⟩ := O0
  have ne_ar : a ≠ r := E_a.neArv V (hw _ (own_m 3 rfl))
  refine up (U' := s₁.setTop (mkF m 0 #[oA a, oJ hi, oS, oJ lo, oS, oI np, oU, oU, oU, oU, oU, oU, oU, oU, oU, oU, oU, oU, oU, oU] [])) ?_ (fun t k => castTop (own_ef_rma0c m a hi lo np) k)
  refine up ?_ fun t k => XS.aloadN X0.here hx rfl (hb hby d3_0) rfl rfl k
  show own_G (s₁.setTop (mkF m 1 #[oA a, oJ hi, oS, oJ lo, oS, oI np, oU, oU, oU, oU, oU, oU, oU, oU, oU, oU, oU, oU, oU, oU] [(.ref a)]))
  obtain ⟨T851, X851, e851, st851⟩ := getF X0 hx hZ hown (host := "") (Or.inl (hw _ (own_m 20 rfl))) Via.refl e0 Fl (g := (mkF m 1 #[oA a, oJ hi, oS, oJ lo, oS, oI np, oU, oU, oU, oU, oU, oU, oU, oU, oU, oU, oU, oU, oU, oU] [(.ref a)])) rfl rfl (hb hby d3_1)
  refine up ?_ st851
  show own_G (T851.setTop (mkF m 4 #[oA a, oJ hi, oS, oJ lo, oS, oI np, oU, oU, oU, oU, oU, oU, oU, oU, oU, oU, oU, oU, oU, oU] [(.int (2 : Int32))]))
  refine up ?_ fun t k => XS.ifYes X851.here hx rfl (pc0 := 4) (pc' := 16) rfl (hb hby d3_4) rfl ((if0 _ _).trans (feq (by decide : ¬ ((2 : Int32) = (0 : Int32)))).2) (by decide) (by decide) (XS.iload X851.here hx rfl (hb hby d3_16) rfl (XS.aloadN X851.here hx rfl (hb hby d3_18) rfl rfl k))
  show own_G (T851.setTop (mkF m 19 #[oA a, oJ hi, oS, oJ lo, oS, oI np, oU, oU, oU, oU, oU, oU, oU, oU, oU, oU, oU, oU, oU, oU] [(.ref a), (.int np)]))
  obtain ⟨T852, X852, e852, st852⟩ := getF X851 hx hZ hown (host := "") (Or.inl (hw _ (own_m 22 rfl))) Via.refl e851 Fp (g := (mkF m 19 #[oA a, oJ hi, oS, oJ lo, oS, oI np, oU, oU, oU, oU, oU, oU, oU, oU, oU, oU, oU, oU, oU, oU] [(.ref a), (.int np)])) rfl rfl (hb hby d3_19)
  refine up ?_ st852
  show own_G (T852.setTop (mkF m 22 #[oA a, oJ hi, oS, oJ lo, oS, oI np, oU, oU, oU, oU, oU, oU, oU, oU, oU, oU, oU, oU, oU, oU] [(.int pw), (.int np)]))
  refine up ?_ fun t k => XS.icmpNo X852.here hx rfl (hb hby d3_22) rfl (tlt (hlt : (np < pw))).2.1 (XS.aloadN X852.here hx rfl (hb hby d3_25) rfl rfl (XS.aloadN X852.here hx rfl (hb hby d3_26) rfl rfl k))
  show own_G (T852.setTop (mkF m 27 #[oA a, oJ hi, oS, oJ lo, oS, oI np, oU, oU, oU, oU, oU, oU, oU, oU, oU, oU, oU, oU, oU, oU] [(.ref a), (.ref a)]))
  obtain ⟨T853, X853, e853, st853⟩ := getF X852 hx hZ hown (host := "") (Or.inl (hw _ (own_m 22 rfl))) Via.refl e852 Fp (g := (mkF m 27 #[oA a, oJ hi, oS, oJ lo, oS, oI np, oU, oU, oU, oU, oU, oU, oU, oU, oU, oU, oU, oU, oU, oU] [(.ref a), (.ref a)])) rfl rfl (hb hby d3_27)
  refine up ?_ st853
  show own_G (T853.setTop (mkF m 30 #[oA a, oJ hi, oS, oJ lo, oS, oI np, oU, oU, oU, oU, oU, oU, oU, oU, oU, oU, oU, oU, oU, oU] [(.int pw), (.ref a)]))
  refine up ?_ fun t k => XS.iload X853.here hx rfl (hb hby d3_30) rfl (XS.isub X853.here hx rfl (hb hby d3_32) rfl k)
  show own_G (T853.setTop (mkF m 33 #[oA a, oJ hi, oS, oJ lo, oS, oI np, oU, oU, oU, oU, oU, oU, oU, oU, oU, oU, oU, oU, oU, oU] [(.int (pw - np)), (.ref a)]))
  rw [hbt]
  show own_G (T853.setTop (mkF m 33 #[oA a, oJ hi, oS, oJ lo, oS, oI np, oU, oU, oU, oU, oU, oU, oU, oU, oU, oU, oU, oU, oU, oU] [(.int bits), (.ref a)]))
  obtain ⟨cq854, q854, q854'⟩ := E_a.cell
  obtain ⟨_, _, ⟨T854, L854, k854, n854⟩, -, X854, ⟨Lc854, hQ854, l854, y854, z854⟩, st854⟩ := X853.privateBack hx (y := (⟨"com/example/eventweir/eventweir/ExactSum", "shiftUp", "(I)V"⟩ : MethodName)) hown (mvT hZ (hw _ (own_m 59 rfl))) (mvT hZ (hw _ (own_m 60 rfl))) (own_sel (by decide) (mvT hZ (hw _ (own_m 60 rfl))) (mvP hZ (hw _ (own_m 61 rfl))) (mvT hZ (hw _ (own_m 3 rfl)))) (Cond.privateMethod_at (mvP hZ (hw _ (own_m 61 rfl)) (args := #[]))) (mvT hZ (hw _ (own_m 62 rfl))) (by decide) (backOf (W := 0) (rmsC4 l Z a0 hw [] a bits r kr pw x0 x1 x2 x3 bs h0 n0 Z0 ⟨E_a, Fw, Fl, Fp, V⟩ g_a g_r hws hbs) hZ (hw _ (own_m 62 rfl)) (hw _ (own_m 4 rfl)) (by decide) (by decide)) (g := (mkF m 33 #[oA a, oJ hi, oS, oJ lo, oS, oI np, oU, oU, oU, oU, oU, oU, oU, oU, oU, oU, oU, oU, oU, oU] [(.int bits), (.ref a)])) rfl (by rw [hml]; rfl) (Steps.refl _) (a := a) (by rw [e853]; exact q854) q854' (argsL := [(.int bits)]) (rest := []) (lenOf own_pd6 rfl) rfl (by show 2 * 0 + _ ≤ _; exact Nat.le_of_eq rfl) (hb hby d3_33) (fun _ _ => ⟨rfl, e853, (by decide : 0 + 0 ≤ _), (by decide : 0 + 0 ≤ _)⟩)
  dsimp only [Pt.U, Pt.locs, Pt.cells, Pt.slots] at X854 l854 y854 z854 st854 hQ854
  subst l854 y854 z854
  obtain ⟨rfl, Nq854, hsq854, Eq854, Fwq854, Flq854, Fpq854, Vq854⟩ := hQ854
  have N854 := Fr.app N0 Nq854
  have kq855 := Nat.le_trans (Nat.le_refl h0.size) hsq854
  have Zs856 : n0 ≤ T854.heap.size := Nat.le_trans Z0 hsq854
  refine up ?_ (fun t k => st854.trans k)
  show own_G (T854.setTop (mkF m 36 #[oA a, oJ hi, oS, oJ lo, oS, oI np, oU, oU, oU, oU, oU, oU, oU, oU, oU, oU, oU, oU, oU, oU] []))
  refine up ?_ fun t k => XS.aloadN X854.here hx rfl (hb hby d3_36) rfl rfl (XS.iload X854.here hx rfl (hb hby d3_37) rfl k)
  show own_G (T854.setTop (mkF m 39 #[oA a, oJ hi, oS, oJ lo, oS, oI np, oU, oU, oU, oU, oU, oU, oU, oU, oU, oU, oU, oU, oU, oU] [(.int np), (.ref a)]))
  obtain ⟨T857, h857, X857, e857, W857, st857⟩ := putF X854 hx hZ hown (host := "") (Or.inl (hw _ (own_m 22 rfl))) Via.refl rfl Fpq854 Eq854 (Or.inl (hw _ (own_m 23 rfl))) (hw _ (own_m 3 rfl)) (ty := .int) (by decide) rfl rfl (g := (mkF m 39 #[oA a, oJ hi, oS, oJ lo, oS, oI np, oU, oU, oU, oU, oU, oU, oU, oU, oU, oU, oU, oU, oU, oU] [(.int np), (.ref a)])) rfl rfl (hb hby d3_39)
  refine up ?_ st857
  have Eq854_c858 := Eq854.wr W857
  have Fwq854_c858 := Fwq854.other W857 (Or.inr (slot_ne (Or.inl (hw _ (own_m 14 rfl))) (Or.inl (hw _ (own_m 23 rfl))) (by decide) (t := (.array .long)) (t' := .int) (by decide) (by decide)))
  have Flq854_c858 := Flq854.other W857 (Or.inr (slot_ne (Or.inl (hw _ (own_m 21 rfl))) (Or.inl (hw _ (own_m 23 rfl))) (by decide) (t := .int) (t' := .int) (by decide) (by decide)))
  have Vq854_c858 := Vq854.other W857 (Ne.symm (Eq854.neArv Vq854 (hw _ (own_m 3 rfl))))
  have F857 := Fpq854.same W857
  have N857 := Fr.snoc X857 N854 g_a
  have kq859 := Nat.le_trans kq855 (Keep.of_wr W857).1
  have Zs860 : n0 ≤ h857.size := Nat.le_trans Zs856 (Keep.of_wr W857).1
  show own_G (T857.setTop (mkF m 42 #[oA a, oJ hi, oS, oJ lo, oS, oI np, oU, oU, oU, oU, oU, oU, oU, oU, oU, oU, oU, oU, oU, oU] []))
  refine up ?_ fun t k => XS.iload X857.here hx rfl (hb hby d3_42) rfl (XS.aloadN X857.here hx rfl (hb hby d3_44) rfl rfl k)
  show own_G (T857.setTop (mkF m 45 #[oA a, oJ hi, oS, oJ lo, oS, oI np, oU, oU, oU, oU, oU, oU, oU, oU, oU, oU, oU, oU, oU, oU] [(.ref a), (.int np)]))
  obtain ⟨T861, X861, e861, st861⟩ := getF X857 hx hZ hown (host := "") (Or.inl (hw _ (own_m 22 rfl))) Via.refl e857 F857 (g := (mkF m 45 #[oA a, oJ hi, oS, oJ lo, oS, oI np, oU, oU, oU, oU, oU, oU, oU, oU, oU, oU, oU, oU, oU, oU] [(.ref a), (.int np)])) rfl rfl (hb hby d3_45)
  refine up ?_ st861
  show own_G (T861.setTop (mkF m 48 #[oA a, oJ hi, oS, oJ lo, oS, oI np, oU, oU, oU, oU, oU, oU, oU, oU, oU, oU, oU, oU, oU, oU] [(.int np), (.int np)]))
  refine up ?_ fun t k => XS.isub X861.here hx rfl (hb hby d3_48) rfl (XS.istore X861.here hx rfl (hb hby d3_49) rfl (l' := #[oA a, oJ hi, oS, oJ lo, oS, oI np, oI (np - np), oU, oU, oU, oU, oU, oU, oU, oU, oU, oU, oU, oU, oU]) rfl k)
  show own_G (T861.setTop (mkF m 51 #[oA a, oJ hi, oS, oJ lo, oS, oI np, oI (np - np), oU, oU, oU, oU, oU, oU, oU, oU, oU, oU, oU, oU, oU] []))
  rw [Int32.sub_self]
  show own_G (T861.setTop (mkF m 51 #[oA a, oJ hi, oS, oJ lo, oS, oI np, oI (0 : Int32), oU, oU, oU, oU, oU, oU, oU, oU, oU, oU, oU, oU, oU] []))
  refine up ?_ fun t k => XS.iload X861.here hx rfl (hb hby d3_51) rfl (XS.bipush X861.here hx rfl (hb hby d3_53) (XS.iushr X861.here hx rfl (hb hby d3_55) rfl (XS.istore X861.here hx rfl (hb hby d3_56) rfl (l' := #[oA a, oJ hi, oS, oJ lo, oS, oI np, oI (0 : Int32), oI (((0 : Int32).toUInt32 >>> ((6 : Int32) &&& 31).toUInt32).toInt32), oU, oU, oU, oU, oU, oU, oU, oU, oU, oU, oU, oU]) rfl k)))
  show own_G (T861.setTop (mkF m 58 #[oA a, oJ hi, oS, oJ lo, oS, oI np, oI (0 : Int32), oI (((0 : Int32).toUInt32 >>> ((6 : Int32) &&& 31).toUInt32).toInt32), oU, oU, oU, oU, oU, oU, oU, oU, oU, oU, oU, oU] []))
  show own_G (T861.setTop (mkF m 58 #[oA a, oJ hi, oS, oJ lo, oS, oI np, oI (0 : Int32), oI (0 : Int32), oU, oU, oU, oU, oU, oU, oU, oU, oU, oU, oU, oU] []))
  refine up ?_ fun t k => XS.iload X861.here hx rfl (hb hby d3_58) rfl (XS.bipush X861.here hx rfl (hb hby d3_60) (XS.iand X861.here hx rfl (hb hby d3_62) rfl (XS.istore X861.here hx rfl (hb hby d3_63) rfl (l' := #[oA a, oJ hi, oS, oJ lo, oS, oI np, oI (0 : Int32), oI (0 : Int32), oI ((0 : Int32) &&& (63 : Int32)), oU, oU, oU, oU, oU, oU, oU, oU, oU, oU, oU]) rfl k)))
  show own_G (T861.setTop (mkF m 65 #[oA a, oJ hi, oS, oJ lo, oS, oI np, oI (0 : Int32), oI (0 : Int32), oI ((0 : Int32) &&& (63 : Int32)), oU, oU, oU, oU, oU, oU, oU, oU, oU, oU, oU] []))
  show own_G (T861.setTop (mkF m 65 #[oA a, oJ hi, oS, oJ lo, oS, oI np, oI (0 : Int32), oI (0 : Int32), oI (0 : Int32), oU, oU, oU, oU, oU, oU, oU, oU, oU, oU, oU] []))
  refine up ?_ fun t k => XS.lloadN X861.here hx rfl (hb hby d3_65) rfl (XS.iload X861.here hx rfl (hb hby d3_66) rfl (XS.lshl X861.here hx rfl (hb hby d3_68) rfl (XS.lstore X861.here hx rfl (hb hby d3_69) rfl (l' := #[oA a, oJ hi, oS, oJ lo, oS, oI np, oI (0 : Int32), oI (0 : Int32), oI (0 : Int32), oJ (lo <<< ((0 : Int32) &&& 0x3f).toInt64), oS, oU, oU, oU, oU, oU, oU, oU, oU, oU]) rfl k)))
  show own_G (T861.setTop (mkF m 71 #[oA a, oJ hi, oS, oJ lo, oS, oI np, oI (0 : Int32), oI (0 : Int32), oI (0 : Int32), oJ (lo <<< ((0 : Int32) &&& 0x3f).toInt64), oS, oU, oU, oU, oU, oU, oU, oU, oU, oU] []))
  show own_G (T861.setTop (mkF m 71 #[oA a, oJ hi, oS, oJ lo, oS, oI np, oI (0 : Int32), oI (0 : Int32), oI (0 : Int32), oJ (own_s1 lo (0 : Int32)), oS, oU, oU, oU, oU, oU, oU, oU, oU, oU] []))
  refine up ?_ fun t k => XS.lloadN X861.here hx rfl (hb hby d3_71) rfl (XS.iload X861.here hx rfl (hb hby d3_72) rfl (XS.lshl X861.here hx rfl (hb hby d3_74) rfl (XS.lloadN X861.here hx rfl (hb hby d3_75) rfl (XS.iconst X861.here hx rfl (hb hby d3_76) (XS.lushr X861.here hx rfl (hb hby d3_77) rfl (XS.bipush X861.here hx rfl (hb hby d3_78) (XS.iload X861.here hx rfl (hb hby d3_80) rfl (XS.isub X861.here hx rfl (hb hby d3_82) rfl (XS.lushr X861.here hx rfl (hb hby d3_83) rfl k)))))))))
  show own_G (T861.setTop (mkF m 84 #[oA a, oJ hi, oS, oJ lo, oS, oI np, oI (0 : Int32), oI (0 : Int32), oI (0 : Int32), oJ (own_s1 lo (0 : Int32)), oS, oU, oU, oU, oU, oU, oU, oU, oU, oU] [(.long ((((lo.toUInt64 >>> ((1 : Int32) &&& 0x3f).toInt64.toUInt64).toInt64).toUInt64 >>> ((63 : Int32) &&& 0x3f).toInt64.toUInt64).toInt64)), (.long (hi <<< ((0 : Int32) &&& 0x3f).toInt64))]))
  refine up ?_ fun t k => XS.lor X861.here hx rfl (hb hby d3_84) rfl (XS.lstore X861.here hx rfl (hb hby d3_85) rfl (l' := #[oA a, oJ hi, oS, oJ lo, oS, oI np, oI (0 : Int32), oI (0 : Int32), oI (0 : Int32), oJ (own_s1 lo (0 : Int32)), oS, oJ ((hi <<< ((0 : Int32) &&& 0x3f).toInt64) ||| ((((lo.toUInt64 >>> ((1 : Int32) &&& 0x3f).toInt64.toUInt64).toInt64).toUInt64 >>> ((63 : Int32) &&& 0x3f).toInt64.toUInt64).toInt64)), oS, oU, oU, oU, oU, oU, oU, oU]) rfl k)
  show own_G (T861.setTop (mkF m 87 #[oA a, oJ hi, oS, oJ lo, oS, oI np, oI (0 : Int32), oI (0 : Int32), oI (0 : Int32), oJ (own_s1 lo (0 : Int32)), oS, oJ ((hi <<< ((0 : Int32) &&& 0x3f).toInt64) ||| ((((lo.toUInt64 >>> ((1 : Int32) &&& 0x3f).toInt64.toUInt64).toInt64).toUInt64 >>> ((63 : Int32) &&& 0x3f).toInt64.toUInt64).toInt64)), oS, oU, oU, oU, oU, oU, oU, oU] []))
  show own_G (T861.setTop (mkF m 87 #[oA a, oJ hi, oS, oJ lo, oS, oI np, oI (0 : Int32), oI (0 : Int32), oI (0 : Int32), oJ (own_s1 lo (0 : Int32)), oS, oJ (own_s2 hi lo (0 : Int32)), oS, oU, oU, oU, oU, oU, oU, oU] []))
  refine up ?_ fun t k => XS.lloadN X861.here hx rfl (hb hby d3_87) rfl (XS.iconst X861.here hx rfl (hb hby d3_88) (XS.lshr X861.here hx rfl (hb hby d3_89) rfl (XS.bipush X861.here hx rfl (hb hby d3_90) (XS.iload X861.here hx rfl (hb hby d3_92) rfl (XS.isub X861.here hx rfl (hb hby d3_94) rfl (XS.lshr X861.here hx rfl (hb hby d3_95) rfl (XS.lstore X861.here hx rfl (hb hby d3_96) rfl (l' := #[oA a, oJ hi, oS, oJ lo, oS, oI np, oI (0 : Int32), oI (0 : Int32), oI (0 : Int32), oJ (own_s1 lo (0 : Int32)), oS, oJ (own_s2 hi lo (0 : Int32)), oS, oJ ((hi >>> ((1 : Int32) &&& 0x3f).toInt64) >>> ((63 : Int32) &&& 0x3f).toInt64), oS, oU, oU, oU, oU, oU]) rfl k)))))))
  show own_G (T861.setTop (mkF m 98 #[oA a, oJ hi, oS, oJ lo, oS, oI np, oI (0 : Int32), oI (0 : Int32), oI (0 : Int32), oJ (own_s1 lo (0 : Int32)), oS, oJ (own_s2 hi lo (0 : Int32)), oS, oJ ((hi >>> ((1 : Int32) &&& 0x3f).toInt64) >>> ((63 : Int32) &&& 0x3f).toInt64), oS, oU, oU, oU, oU, oU] []))
  show own_G (T861.setTop (mkF m 98 #[oA a, oJ hi, oS, oJ lo, oS, oI np, oI (0 : Int32), oI (0 : Int32), oI (0 : Int32), oJ (own_s1 lo (0 : Int32)), oS, oJ (own_s2 hi lo (0 : Int32)), oS, oJ (own_s3 hi (0 : Int32)), oS, oU, oU, oU, oU, oU] []))
  refine up ?_ fun t k => XS.aloadN X861.here hx rfl (hb hby d3_98) rfl rfl (XS.iload X861.here hx rfl (hb hby d3_99) rfl (XS.iconst X861.here hx rfl (hb hby d3_101) (XS.iadd X861.here hx rfl (hb hby d3_102) rfl k)))
  show own_G (T861.setTop (mkF m 103 #[oA a, oJ hi, oS, oJ lo, oS, oI np, oI (0 : Int32), oI (0 : Int32), oI (0 : Int32), oJ (own_s1 lo (0 : Int32)), oS, oJ (own_s2 hi lo (0 : Int32)), oS, oJ (own_s3 hi (0 : Int32)), oS, oU, oU, oU, oU, oU] [(.int (3 : Int32)), (.ref a)]))
  obtain ⟨cq862, q862, q862'⟩ := Eq854_c858.cell
  obtain ⟨_, _, ⟨T862, L862, k862, n862⟩, -, X862, ⟨Lc862, hQ862, l862, y862, z862⟩, st862⟩ := X861.privateBack hx (y := (⟨"com/example/eventweir/eventweir/ExactSum", "widen", "(I)V"⟩ : MethodName)) hown (mvT hZ (hw _ (own_m 24 rfl))) (mvT hZ (hw _ (own_m 25 rfl))) (own_sel (by decide) (mvT hZ (hw _ (own_m 25 rfl))) (mvP hZ (hw _ (own_m 26 rfl))) (mvT hZ (hw _ (own_m 3 rfl)))) (Cond.privateMethod_at (mvP hZ (hw _ (own_m 26 rfl)) (args := #[]))) (mvT hZ (hw _ (own_m 27 rfl))) (by decide) (backOf (W := 0) (rmwr l Z a0 hw [] a (3 : Int32) (4 : Int32) h857 n0 Zs860 Flq854_c858 (by decide)) hZ (hw _ (own_m 27 rfl)) (hw _ (own_m 4 rfl)) (by decide) (by decide)) (g := (mkF m 103 #[oA a, oJ hi, oS, oJ lo, oS, oI np, oI (0 : Int32), oI (0 : Int32), oI (0 : Int32), oJ (own_s1 lo (0 : Int32)), oS, oJ (own_s2 hi lo (0 : Int32)), oS, oJ (own_s3 hi (0 : Int32)), oS, oU, oU, oU, oU, oU] [(.int (3 : Int32)), (.ref a)])) rfl (by rw [hml]; rfl) (Steps.refl _) (a := a) (by rw [e861]; exact q862) q862' (argsL := [(.int (3 : Int32))]) (rest := []) (lenOf own_pd6 rfl) rfl (by show 2 * 0 + _ ≤ _; exact Nat.le_of_eq rfl) (hb hby d3_103) (fun _ _ => ⟨rfl, e861, (by decide : 0 + 0 ≤ _), (by decide : 0 + 0 ≤ _)⟩)
  dsimp only [Pt.U, Pt.locs, Pt.cells, Pt.slots] at X862 l862 y862 z862 st862 hQ862
  subst l862 y862 z862
  obtain ⟨rfl, Nq862, e862⟩ := hQ862
  have N862 := Fr.app N857 Nq862
  refine up ?_ (fun t k => st862.trans k)
  show own_G (T862.setTop (mkF m 106 #[oA a, oJ hi, oS, oJ lo, oS, oI np, oI (0 : Int32), oI (0 : Int32), oI (0 : Int32), oJ (own_s1 lo (0 : Int32)), oS, oJ (own_s2 hi lo (0 : Int32)), oS, oJ (own_s3 hi (0 : Int32)), oS, oU, oU, oU, oU, oU] []))
  exact blB4 Z a0 hw r kr np (0 : Int64) (own_s2 x0 (0 : Int64) bs) (own_s2 x1 x0 bs) (own_s2 (own_sg x1) x1 bs) h0 hi lo np (0 : Int32) (0 : Int32) (own_s1 lo (0 : Int32)) (own_s2 hi lo (0 : Int32)) (own_s3 hi (0 : Int32)) y0 y1 y2 y3 h857 n0 Zs860 ⟨Eq854_c858, Fwq854_c858, Flq854_c858, F857, Vq854_c858⟩ g_a g_r kq859 hy0 hy1 hy2 hy3 htop htop3 (X862.mono (by decide) (by decide)) hx hZ hby hml hown hlk hret e862 N862
theorem own_xtp (a : BitVec 64) : a ^^^ BitVec.twoPow 64 63 = a + BitVec.twoPow 64 63 := by
  apply BitVec.eq_of_toNat_eq
  rw [BitVec.toNat_add, BitVec.toNat_twoPow, BitVec.toNat_xor, BitVec.toNat_twoPow]
  have ha := a.isLt
  generalize a.toNat = n at *
  rw [show (2 ^ 63 % 2 ^ 64 : Nat) = 2 ^ 63 by decide]
  apply Nat.eq_of_testBit_eq
  intro i
  rw [Nat.testBit_xor, Nat.testBit_two_pow, Nat.testBit_mod_two_pow, Nat.add_comm]
  rcases Nat.lt_trichotomy i 63 with h | h | h
  · rw [Nat.testBit_two_pow_add_gt h, decide_eq_false (by omega : ¬ 63 = i), decide_eq_true (by omega : i < 64)]; simp
  · subst h; rw [Nat.testBit_two_pow_add_eq]; simp
  · rw [Nat.testBit_lt_two_pow (Nat.lt_of_lt_of_le ha (Nat.pow_le_pow_right (by decide) h)), decide_eq_false (by omega : ¬ 63 = i), decide_eq_false (by omega : ¬ i < 64)]; rfl
theorem own_xr (q : Int64) (b : Int32) (k : Nat) (hk : b.toBitVec.toNat % 64 = k) {hh : Int64} (e : hh = (q >>> (b &&& 0x3f).toInt64)) : hh.toInt = q.toInt / (2 ^ k : Nat) := by rw [e, c_lshr q b k hk]
theorem own_ppr (p5 : Int32) {pp : Int32} (e : pp = (p5 >>> ((2 : Int32) &&& 31))) : -1073741000 ≤ pp.toInt ∧ pp.toInt ≤ 1073741000 := by
  rw [e, c_ishr p5 2 2 (by decide)]
  have := rng32 p5
  simp only [Nat.reducePow, Int.cast_ofNat_Int]
  omega
theorem own_ddr (p6 : Int32) {dd : Int32} (e : dd = (p6 &&& (3 : Int32))) : ∃ k : Nat, k ≤ 3 ∧ dd.toBitVec.toNat = k ∧ dd.toInt = k := by
  have h : dd.toBitVec.toNat ≤ 3 := by
    rw [e]
    show (p6.toBitVec &&& 3#32).toNat ≤ 3
    rw [BitVec.toNat_and]
    exact Nat.and_le_right
  refine ⟨_, h, rfl, ?_⟩
  show dd.toBitVec.toInt = _
  rw [BitVec.toInt_eq_toNat_cond]
  split <;> omega
theorem own_pd (pp dd : Int32) (k : Nat) (hk : k ≤ 3) (e : dd.toInt = k) (h1 : -1073741000 ≤ pp.toInt) (h2 : pp.toInt ≤ 1073741000) : (pp + dd).toInt = pp.toInt + k := by
  have := c_iadd pp dd; have := rng32 (pp + dd)
  omega
theorem own_range (lo hi : Int64) (B : Int) (h1 : -B ≤ hi.toInt) (h2 : hi.toInt < B) : -(B * 18446744073709551616) ≤ own_val lo hi ∧ own_val lo hi < B * 18446744073709551616 := by
  have v : own_val lo hi = hi.toInt * 18446744073709551616 + own_u lo := rfl
  have := own_u_rng lo
  rw [v]
  omega
theorem own_not (h : Int64) : (h ^^^ (-1 : Int64)).toInt = - h.toInt - 1 := by
  have e : (h ^^^ (-1 : Int64)).toBitVec = ~~~ h.toBitVec := by
    show h.toBitVec ^^^ (-1#64) = _
    rw [show (-1#64) = BitVec.allOnes 64 by decide, BitVec.xor_allOnes]
  show (h ^^^ (-1 : Int64)).toBitVec.toInt = - h.toBitVec.toInt - 1
  rw [e, BitVec.toInt_not]
  have := rng64 h
  have h' : h.toBitVec.toInt = h.toInt := rfl
  rw [h', ← own_u_nat]
  unfold own_u
  rw [Int.bmod_def]
  omega
theorem own_neg {hh ll nh nl cz : Int64} (e1 : nl = (-ll)) (ec : cz = (if ll = (0 : Int64) then (1 : Int64) else (0 : Int64))) (e2 : nh = ((hh ^^^ (-1 : Int64)) + cz)) (h1 : -4611686018427387904 ≤ hh.toInt) (h2 : hh.toInt < 4611686018427387904) : own_val nl nh = - own_val ll hh := by
  have v : own_val ll hh = hh.toInt * 18446744073709551616 + own_u ll := rfl
  have v2 : own_val nl nh = nh.toInt * 18446744073709551616 + own_u nl := rfl
  have a1 := c_lneg ll; rw [← e1] at a1
  have a2 := c_ladd (hh ^^^ (-1 : Int64)) cz; rw [← e2, own_not] at a2
  have r1 := own_u_rng ll; have r2 := own_u_rng nl; have r3 := rng64 nl; have r4 := rng64 ll; have r5 := rng64 nh
  rw [v, v2]
  by_cases h : ll = (0 : Int64)
  · have c1 : cz.toInt = 1 := by rw [ec, if_pos h]; rfl
    have c2 : ll.toInt = 0 := by rw [h]; rfl
    omega
  · have c1 : cz.toInt = 0 := by rw [ec, if_neg h]; rfl
    have c2 : ll.toInt ≠ 0 := fun q => h (Int64.toInt_inj.mp q)
    omega
theorem own_yh (h2 l2 : Int64) (dd : Int32) (k : Nat) (hk : dd.toBitVec.toNat = k) (h : k ≤ 3) {yh : Int64} (e : yh = (if dd = (0 : Int32) then h2 else ((h2 <<< (dd &&& 0x3f).toInt64) ||| ((l2.toUInt64 >>> (((64 : Int32) - dd) &&& 0x3f).toInt64.toUInt64).toInt64)))) : yh = own_s2 h2 l2 dd := by
  have hd : dd = Int32.ofBitVec (BitVec.ofNat 32 k) := Int32.toBitVec_inj.mp (BitVec.eq_of_toNat_eq (by rw [hk]; show k = k % 2 ^ 32; omega))
  have hs : (own_s2 h2 l2 dd).toBitVec = (h2.toBitVec <<< k) ||| ((l2.toBitVec >>> 1) >>> (63 - k)) := by
    show (h2.toBitVec <<< ((dd &&& 0x3f).toInt64.toBitVec.smod 64)) ||| ((l2.toBitVec >>> (((1 : Int32) &&& 0x3f).toInt64.toBitVec % 64)) >>> ((((63 : Int32) - dd) &&& 0x3f).toInt64.toBitVec % 64)) = _
    rw [BitVec.shiftLeft_eq', (sm64 dd k (by rw [hk]; omega)).1, smod64 k (by omega), BitVec.ushiftRight_eq', BitVec.ushiftRight_eq', own_sh 1 1 (by decide), own_sh _ (63 - k) (own_k63 dd k hk (by omega))]
  apply Int64.toBitVec_inj.mp
  rw [hs, e]
  have hc : k = 0 ∨ k = 1 ∨ k = 2 ∨ k = 3 := by omega
  rcases hc with rfl | rfl | rfl | rfl
  · rw [if_pos (by rw [hd]; rfl)]
    have : l2.toBitVec >>> 1 >>> (63 - 0) = 0#64 := by
      apply BitVec.eq_of_toNat_eq
      rw [BitVec.toNat_ushiftRight, BitVec.toNat_ushiftRight, ← Nat.shiftRight_add, Nat.shiftRight_eq_div_pow]
      have := l2.toBitVec.isLt
      show l2.toBitVec.toNat / 2 ^ 64 = 0
      omega
    rw [this]; simp
  all_goals
    rw [if_neg (by rw [hd]; decide)]
    show (h2.toBitVec <<< ((dd &&& 0x3f).toInt64.toBitVec.smod 64)) ||| (l2.toBitVec >>> ((((64 : Int32) - dd) &&& 0x3f).toInt64.toBitVec % 64)) = _
    rw [BitVec.shiftLeft_eq', (sm64 dd _ (by rw [hk])).1, smod64 _ (by omega), BitVec.ushiftRight_eq', ← BitVec.shiftRight_add]
    congr 2
    rw [hd]; decide
theorem own_Y (h2 l2 : Int64) (dd : Int32) (k : Nat) (hk : dd.toBitVec.toNat = k) (h : k ≤ 3) {yh yl : Int64} (e : yh = (if dd = (0 : Int32) then h2 else ((h2 <<< (dd &&& 0x3f).toInt64) ||| ((l2.toUInt64 >>> (((64 : Int32) - dd) &&& 0x3f).toInt64.toUInt64).toInt64)))) (e2 : yl = (l2 <<< (dd &&& 0x3f).toInt64))
    (r1 : -576460752303423488 ≤ h2.toInt) (r2 : h2.toInt < 576460752303423488) : own_val yl yh = own_val l2 h2 * (2 ^ k : Nat) ∧ -85070591730234615865843651857942052864 ≤ own_val yl yh ∧ own_val yl yh < 85070591730234615865843651857942052864 := by
  have hy := own_yh h2 l2 dd k hk h e
  have hl : yl = own_s1 l2 dd := e2
  have hn := own_num h2 l2 dd k hk h
  rw [← hl, ← hy] at hn
  have hr := own_range l2 h2 576460752303423488 r1 r2
  have b : -85070591730234615865843651857942052864 ≤ own_val l2 h2 * (2 ^ k : Nat) ∧ own_val l2 h2 * (2 ^ k : Nat) < 85070591730234615865843651857942052864 := by
    have hc : k = 0 ∨ k = 1 ∨ k = 2 ∨ k = 3 := by omega
    rcases hc with rfl | rfl | rfl | rfl <;> simp only [Nat.reducePow, Int.cast_ofNat_Int] <;> omega
  have v : own_val yl yh = yh.toInt * 18446744073709551616 + own_u yl := rfl
  have := own_u_rng yl; have := own_u_rng yh; have := rng64 yh
  have : own_val yl yh = own_val l2 h2 * (2 ^ k : Nat) := by rw [v, ← hn] ; rw [← hn] at b; omega
  rw [this]; exact ⟨rfl, b⟩
theorem own_flip (a : Int64) : (a ^^^ (-9223372036854775808 : Int64)).toInt = own_u a - 9223372036854775808 := by
  have e : (a ^^^ (-9223372036854775808 : Int64)) = a + (-9223372036854775808 : Int64) := by
    apply Int64.toBitVec_inj.mp
    show a.toBitVec ^^^ 9223372036854775808#64 = a.toBitVec + 9223372036854775808#64
    rw [show (9223372036854775808#64) = BitVec.twoPow 64 63 by decide]
    exact own_xtp a.toBitVec
  rw [e]
  have h1 := c_ladd a (-9223372036854775808 : Int64); have h2 := rng64 (a + (-9223372036854775808 : Int64)); have h3 := own_u_rng a; have h4 := rng64 a
  have h5 : (-9223372036854775808 : Int64).toInt = -9223372036854775808 := by decide
  omega
theorem own_sum {hh ll yh yl lo cy hi : Int64} (e1 : lo = (ll + yl)) (e2 : cy = (if (lo ^^^ (-9223372036854775808 : Int64)) < (ll ^^^ (-9223372036854775808 : Int64)) then (1 : Int64) else (0 : Int64))) (e3 : hi = ((hh + yh) + cy))
    (a1 : -85070591730234615865843651857942052864 ≤ own_val ll hh) (a2 : own_val ll hh < 85070591730234615865843651857942052864) (b1 : -85070591730234615865843651857942052864 ≤ own_val yl yh) (b2 : own_val yl yh < 85070591730234615865843651857942052864) : own_val lo hi = own_val ll hh + own_val yl yh := by
  have v1 : own_val ll hh = hh.toInt * 18446744073709551616 + own_u ll := rfl
  have v2 : own_val yl yh = yh.toInt * 18446744073709551616 + own_u yl := rfl
  have v3 : own_val lo hi = hi.toInt * 18446744073709551616 + own_u lo := rfl
  have c1 := c_ladd ll yl; rw [← e1] at c1
  have c2 := c_ladd (hh + yh) cy; rw [← e3] at c2
  have c3 := c_ladd hh yh
  have := own_u_rng ll; have := own_u_rng yl; have := own_u_rng lo; have := rng64 hi; have := rng64 lo; have := rng64 ll; have := rng64 yl; have := rng64 (hh + yh)
  have hf : ((lo ^^^ (-9223372036854775808 : Int64)) < (ll ^^^ (-9223372036854775808 : Int64))) ↔ own_u lo < own_u ll := by rw [Int64.lt_iff_toInt_lt, own_flip, own_flip]; omega
  rw [v1] at a1 a2 ⊢; rw [v2] at b1 b2 ⊢; rw [v3]
  by_cases h : own_u lo < own_u ll
  · have : cy.toInt = 1 := by rw [e2, if_pos (hf.mpr h)]; rfl
    omega
  · have : cy.toInt = 0 := by rw [e2, if_neg (fun q => h (hf.mp q))]; rfl
    omega
def own_sgn (V : Int) : Int32 := if V < 0 then (-1 : Int32) else if V = 0 then (0 : Int32) else (1 : Int32)
theorem own_exp (lo hi : Int64) : (if hi < (0 : Int64) then (-1 : Int32) else (if hi = (0 : Int64) then (if lo = (0 : Int64) then (0 : Int32) else (1 : Int32)) else (1 : Int32))) = own_sgn (own_val lo hi) := by
  have v : own_val lo hi = hi.toInt * 18446744073709551616 + own_u lo := rfl
  have r := own_u_rng lo; have r2 := rng64 lo
  have z : (0 : Int64).toInt = 0 := rfl
  unfold own_sgn
  by_cases h1 : hi < (0 : Int64)
  · have := Int64.lt_iff_toInt_lt.mp h1
    have n1 : own_val lo hi < 0 := by omega
    rw [if_pos h1, if_pos n1]
  have h1' : ¬ hi.toInt < 0 := fun q => h1 (Int64.lt_iff_toInt_lt.mpr (by rw [z]; exact q))
  have n1 : ¬ own_val lo hi < 0 := by omega
  rw [if_neg h1, if_neg n1]
  by_cases h2 : hi = (0 : Int64)
  · have g : hi.toInt = 0 := by rw [h2]; rfl
    rw [if_pos h2]
    by_cases h3 : lo = (0 : Int64)
    · have g2 : lo.toInt = 0 := by rw [h3]; rfl
      have n2 : own_val lo hi = 0 := by omega
      rw [if_pos h3, if_pos n2]
    · have g2 : lo.toInt ≠ 0 := fun q => h3 (Int64.toInt_inj.mp q)
      have n2 : ¬ own_val lo hi = 0 := by omega
      rw [if_neg h3, if_neg n2]
  · have g : hi.toInt ≠ 0 := fun q => h2 (Int64.toInt_inj.mp q)
    have n2 : ¬ own_val lo hi = 0 := by omega
    rw [if_neg h2, if_neg n2]
theorem own_sgk (V W : Int) (k : Nat) (hk : k ≤ 3) (e : V * (2 ^ k : Nat) = W) : own_sgn V = own_sgn W := by
  have a : (V < 0 ↔ W < 0) ∧ (V = 0 ↔ W = 0) := by
    have hc : k = 0 ∨ k = 1 ∨ k = 2 ∨ k = 3 := by omega
    rcases hc with rfl | rfl | rfl | rfl <;> simp only [Nat.reducePow, Int.cast_ofNat_Int] at e <;> omega
  unfold own_sgn
  simp only [a.1, a.2]

theorem own_a1 {V N S : Int} {e f : Nat} (he : e ≤ 3) (hf : f ≤ 3) (hV : V * (2 ^ e : Nat) = S) (b1 : -170141183460469231731687303715884105728 ≤ S + N * (2 ^ f : Nat)) (b2 : S + N * (2 ^ f : Nat) < 170141183460469231731687303715884105728) (hle : e ≤ f) : -170141183460469231731687303715884105728 ≤ V + N * (2 ^ (f - e) : Nat) ∧ V + N * (2 ^ (f - e) : Nat) < 170141183460469231731687303715884105728 ∧ (V + N * (2 ^ (f - e) : Nat)) * (2 ^ e : Nat) = S + N * (2 ^ f : Nat) := by
  have h1 : e = 0 ∨ e = 1 ∨ e = 2 ∨ e = 3 := by omega
  have h2 : f = 0 ∨ f = 1 ∨ f = 2 ∨ f = 3 := by omega
  rcases h1 with rfl | rfl | rfl | rfl <;> rcases h2 with rfl | rfl | rfl | rfl <;> simp only [Nat.reducePow, Nat.reduceSub, Int.cast_ofNat_Int] at * <;> omega
theorem own_a2 {V N S : Int} {e f : Nat} (he : e ≤ 3) (hf : f ≤ 3) (hV : V * (2 ^ e : Nat) = S) (b1 : -170141183460469231731687303715884105728 ≤ S + N * (2 ^ f : Nat)) (b2 : S + N * (2 ^ f : Nat) < 170141183460469231731687303715884105728) (hle : f ≤ e) : -170141183460469231731687303715884105728 ≤ V * (2 ^ (e - f) : Nat) + N ∧ V * (2 ^ (e - f) : Nat) + N < 170141183460469231731687303715884105728 ∧ (V * (2 ^ (e - f) : Nat) + N) * (2 ^ f : Nat) = S + N * (2 ^ f : Nat) := by
  have h1 : e = 0 ∨ e = 1 ∨ e = 2 ∨ e = 3 := by omega
  have h2 : f = 0 ∨ f = 1 ∨ f = 2 ∨ f = 3 := by omega
  rcases h1 with rfl | rfl | rfl | rfl <;> rcases h2 with rfl | rfl | rfl | rfl <;> simp only [Nat.reducePow, Nat.reduceSub, Int.cast_ofNat_Int] at * <;> omega
theorem own_a3 {Y N S : Int} {e f : Nat} (he : e ≤ 3) (hf : f ≤ 3) (hV : (Y * 18446744073709551616) * (2 ^ e : Nat) = S) (b1 : -170141183460469231731687303715884105728 ≤ S + N * (2 ^ f : Nat)) (b2 : S + N * (2 ^ f : Nat) < 170141183460469231731687303715884105728) (hle : e < f) : -170141183460469231731687303715884105728 ≤ Y * (2 ^ (64 + e - f) : Nat) + N ∧ Y * (2 ^ (64 + e - f) : Nat) + N < 170141183460469231731687303715884105728 ∧ (Y * (2 ^ (64 + e - f) : Nat) + N) * (2 ^ f : Nat) = S + N * (2 ^ f : Nat) := by
  have h1 : e = 0 ∨ e = 1 ∨ e = 2 ∨ e = 3 := by omega
  have h2 : f = 0 ∨ f = 1 ∨ f = 2 ∨ f = 3 := by omega
  rcases h1 with rfl | rfl | rfl | rfl <;> rcases h2 with rfl | rfl | rfl | rfl <;> simp only [Nat.reducePow, Nat.reduceSub, Nat.reduceAdd, Int.cast_ofNat_Int] at * <;> omega
theorem own_ofInt (b : Int32) (k : Nat) (hk : b.toInt = k) (h : k < 128) : b = Int32.ofNat k := by
  apply Int32.toInt_inj.mp
  rw [hk, Int32.toInt_ofNat_of_lt (by omega)]
theorem own_small (b : Int32) (k : Nat) (hk : b.toInt = k) (h : k < 64) : b.toBitVec.toNat = k ∧ ((b.toUInt32 >>> ((6 : Int32) &&& 31).toUInt32).toInt32) = (0 : Int32) ∧ (b &&& (63 : Int32)) = b := by
  rw [own_ofInt b k hk (by omega)]
  have : ∀ k : Fin 64, (Int32.ofNat k.val).toBitVec.toNat = k.val ∧ (((Int32.ofNat k.val).toUInt32 >>> ((6 : Int32) &&& 31).toUInt32).toInt32) = (0 : Int32) ∧ (Int32.ofNat k.val &&& (63 : Int32)) = Int32.ofNat k.val := by decide +kernel
  exact this ⟨k, h⟩
theorem own_small2 (b : Int32) (k : Nat) (hk : b.toInt = 64 + k) (h : k < 64) : ((b.toUInt32 >>> ((6 : Int32) &&& 31).toUInt32).toInt32) = (1 : Int32) ∧ (b &&& (63 : Int32)) = Int32.ofNat k ∧ (Int32.ofNat k).toBitVec.toNat = k := by
  rw [own_ofInt b (64 + k) (by rw [hk]; omega) (by omega)]
  have : ∀ k : Fin 64, (((Int32.ofNat (64 + k.val)).toUInt32 >>> ((6 : Int32) &&& 31).toUInt32).toInt32) = (1 : Int32) ∧ (Int32.ofNat (64 + k.val) &&& (63 : Int32)) = Int32.ofNat k.val ∧ (Int32.ofNat k.val).toBitVec.toNat = k.val := by decide +kernel
  exact this ⟨k, h⟩
theorem own_sub32 (x y : Int32) {a b : Int} (hx : x.toInt = a) (hy : y.toInt = b) (h1 : -2147483648 ≤ a - b) (h2 : a - b < 2147483648) : (x - y).toInt = a - b := by
  have := c_isub x y; have := rng32 (x - y)
  omega
theorem own_ext3 (y0 y1 : Int64) : own_u y0 + 18446744073709551616 * own_u y1 + 340282366920938463463374607431768211456 * (own_sg y1).toInt = own_val y0 y1 := by
  have v : own_val y0 y1 = y1.toInt * 18446744073709551616 + own_u y0 := rfl
  have := own_u_rng y1; have := own_sg_val y1
  rw [v]
  omega
theorem own_val1 (y0 : Int64) : own_val y0 (own_sg y0) = y0.toInt := by
  have v : own_val y0 (own_sg y0) = (own_sg y0).toInt * 18446744073709551616 + own_u y0 := rfl
  have := own_u_rng y0; have := own_sg_val y0; have := rng64 y0
  rw [v]
  omega
theorem own_val0 (y1 : Int64) : own_val (0 : Int64) y1 = y1.toInt * 18446744073709551616 := by
  have v : own_val (0 : Int64) y1 = y1.toInt * 18446744073709551616 + own_u 0 := rfl
  have z : own_u (0 : Int64) = 0 := rfl
  rw [v, z]; omega
theorem own_num0 (hi lo : Int64) : own_u (own_s1 lo (0 : Int32)) + 18446744073709551616 * own_u (own_s2 hi lo (0 : Int32)) + 340282366920938463463374607431768211456 * (own_s3 hi (0 : Int32)).toInt = own_val lo hi := by
  have := own_num hi lo 0 0 (by decide) (by decide)
  rw [this]; simp
theorem own_zero3 : own_u (0 : Int64) + 18446744073709551616 * own_u (0 : Int64) + 340282366920938463463374607431768211456 * (0 : Int64).toInt = 0 := by decide
abbrev own_add : MethodName := ⟨"com/example/eventweir/eventweir/ExactSum", "add", "(JJI)V"⟩
theorem own_addSt (l : Launch) (Z : State) (a0 : Array Value) (hw : own_W Z a0) (a : Addr) (hi lo : Int64) (np : Int32) (y0 y1 : Int64) (q : Int32) (h0 : Heap) (n0 : Nat) (Z0 : n0 ≤ h0.size) (hS : own_St Z h0 n0 a y0 y1 q) (g_a : n0 ≤ a) (P : Int) (e f : Nat) (he : e ≤ 3) (hf : f ≤ 3) (p1 : -1073741824 ≤ P) (p2 : P ≤ 1073741824) (hq : q.toInt = P + e) (hn : np.toInt = P + f) (S : Int) (hV : own_val y0 y1 * (2 ^ e : Nat) = S)
    (b1 : -170141183460469231731687303715884105728 ≤ S + own_val lo hi * (2 ^ f : Nat)) (b2 : S + own_val lo hi * (2 ^ f : Nat) < 170141183460469231731687303715884105728) :
    ∃ (u0 u1 : Int64) (r : Int32) (d : Nat), d ≤ 3 ∧ r.toInt = P + d ∧ own_val u0 u1 * (2 ^ d : Nat) = S + own_val lo hi * (2 ^ f : Nat) ∧ own_M l Z own_add prog_78_method_3_code 20 none [] ({ frames := 5, cells := 2, slots := 8, locals := 150 } : Room) #[(.ref a), (.long hi), (.long lo), (.int np)] h0 (own_Q_add Z a u0 u1 r h0 n0) := by
  obtain ⟨r, kr, zc, n, pw, vs, O, hS⟩ := hS
  rcases hS with ⟨rfl, rfl, rfl, hS⟩ | ⟨gr, x2, tl, hc, hS⟩
  · -- nothing there
    have hz : S = 0 := by rw [← hV, own_val0]; simp
    subst hz
    obtain ⟨c1, c2, c3⟩ := own_a2 (V := 0) (N := own_val lo hi) (S := 0) (e := f) (f := f) hf hf (by simp) b1 b2 (Nat.le_refl _)
    rw [Int.zero_mul] at c1 c2 c3
    obtain ⟨tp, vv⟩ := own_add3 (x0 := 0) (x1 := 0) (x2 := 0) 0 (own_val lo hi) own_zero3 (own_num0 hi lo) c1 c2 rfl rfl rfl
    rcases hS with ⟨rfl, rfl⟩ | ⟨gr, x0, x1, x2, tl, hc, rfl⟩
    · exact ⟨_, _, np, f, hf, hn, by rw [vv]; exact c3, rma0c l Z a0 hw [] a hi lo np r kr pw _ _ _ h0 n0 Z0 O g_a rfl rfl rfl tp⟩
    · exact ⟨_, _, np, f, hf, hn, by rw [vv]; exact c3, rma0t l Z a0 hw [] a hi lo np r kr zc pw tl x0 x1 x2 _ _ _ h0 n0 Z0 O g_a gr hc rfl rfl rfl tp⟩
  rcases hS with ⟨rfl, rfl, h1, rfl, rfl⟩ | ⟨rfl, rfl, rfl, h1, rfl⟩ | ⟨rfl, rfl, h1, h2, rfl, rfl⟩
  · -- one word
    by_cases hle : np < pw
    · have hlt : f < e := by rw [Int32.lt_iff_toInt_lt] at hle; omega
      have hb : (pw - np).toInt = (e - f : Nat) := by rw [own_sub32 pw np hq hn (by omega) (by omega)]; omega
      obtain ⟨k1, k2, k3⟩ := own_small (pw - np) (e - f) hb (by omega)
      obtain ⟨c1, c2, c3⟩ := own_a2 he hf hV b1 b2 (Nat.le_of_lt hlt)
      rw [own_val1] at c1 c2 c3
      obtain ⟨tp, vv⟩ := own_add3 _ (own_val lo hi) (own_upA y0 (pw - np) (e - f) k1 (by omega)) (own_num0 hi lo) c1 c2 rfl rfl rfl
      exact ⟨_, _, np, f, hf, hn, by rw [vv]; exact c3, rmaSA l Z a0 hw [] a hi lo np r kr zc pw tl y0 (own_sg y0) x2 (pw - np) (pw - np) _ _ _ h0 n0 Z0 O g_a gr hc hle rfl k2 k3 rfl rfl rfl tp⟩
    · have hlt : e ≤ f := by rw [Int32.lt_iff_toInt_lt] at hle; omega
      have hb : (np - pw).toInt = (f - e : Nat) := by rw [own_sub32 np pw hn hq (by omega) (by omega)]; omega
      obtain ⟨k1, k2, k3⟩ := own_small (np - pw) (f - e) hb (by omega)
      obtain ⟨c1, c2, c3⟩ := own_a1 he hf hV b1 b2 hlt
      obtain ⟨tp, vv⟩ := own_add3 _ _ (own_ext3 y0 (own_sg y0)) (own_num hi lo (np - pw) (f - e) k1 (by omega)) c1 c2 rfl rfl rfl
      exact ⟨_, _, pw, e, he, hq, by rw [vv]; exact c3, rmaA2 l Z a0 hw [] a hi lo np r kr zc pw tl y0 (own_sg y0) x2 (np - pw) _ _ _ h0 n0 Z0 O g_a gr hc hle rfl k2 k3 rfl rfl rfl tp⟩
  · -- one word above a word of 0
    rw [own_val0] at hV
    have hq2 : (q + (64 : Int32)).toInt = P + e + 64 := by
      have := c_iadd q 64; have := rng32 (q + 64)
      have : (64 : Int32).toInt = 64 := rfl
      omega
    have hle : np < q + (64 : Int32) := by rw [Int32.lt_iff_toInt_lt]; omega
    have hb : ((q + (64 : Int32)) - np).toInt = 64 + e - f := by rw [own_sub32 _ np hq2 hn (by omega) (by omega)]; omega
    by_cases hef : e < f
    · obtain ⟨k1, k2, k3⟩ := own_small ((q + (64 : Int32)) - np) (64 + e - f) (by rw [hb]; omega) (by omega)
      obtain ⟨c1, c2, c3⟩ := own_a3 he hf hV b1 b2 hef
      obtain ⟨tp, vv⟩ := own_add3 _ (own_val lo hi) (own_upA y1 ((q + (64 : Int32)) - np) (64 + e - f) k1 (by omega)) (own_num0 hi lo) c1 c2 rfl rfl rfl
      exact ⟨_, _, np, f, hf, hn, by rw [vv]; exact c3, rmaSA l Z a0 hw [] a hi lo np r kr zc (q + (64 : Int32)) tl y1 (own_sg y1) x2 ((q + (64 : Int32)) - np) ((q + (64 : Int32)) - np) _ _ _ h0 n0 Z0 O g_a gr hc hle rfl k2 k3 rfl rfl rfl tp⟩
    · obtain ⟨k2, k3, k1⟩ := own_small2 ((q + (64 : Int32)) - np) (e - f) (by rw [hb]; omega) (by omega)
      obtain ⟨c1, c2, c3⟩ := own_a2 he hf hV b1 b2 (by omega)
      obtain ⟨tp3, tp, vv⟩ := own_add4 _ (own_val lo hi) (own_upC y1 (Int32.ofNat (e - f)) (e - f) k1 (by omega)) (own_num0 hi lo) c1 c2 rfl rfl rfl rfl
      rcases hc with ⟨rfl, rfl⟩ | ⟨rfl, x3, rfl⟩
      · exact ⟨_, _, np, f, hf, hn, by rw [vv]; exact c3, rmaC3 l Z a0 hw [] a hi lo np r kr (q + (64 : Int32)) y1 (own_sg y1) x2 ((q + (64 : Int32)) - np) (Int32.ofNat (e - f)) _ _ _ _ h0 n0 Z0 O g_a gr hle rfl k2 k3 rfl rfl rfl rfl tp tp3⟩
      · exact ⟨_, _, np, f, hf, hn, by rw [vv]; exact c3, rmaC4 l Z a0 hw [] a hi lo np r kr (q + (64 : Int32)) y1 (own_sg y1) x2 x3 ((q + (64 : Int32)) - np) (Int32.ofNat (e - f)) _ _ _ _ h0 n0 Z0 O g_a gr hle rfl k2 k3 rfl rfl rfl rfl tp tp3⟩
  · -- two words
    by_cases hle : np < pw
    · have hlt : f < e := by rw [Int32.lt_iff_toInt_lt] at hle; omega
      have hb : (pw - np).toInt = (e - f : Nat) := by rw [own_sub32 pw np hq hn (by omega) (by omega)]; omega
      obtain ⟨k1, k2, k3⟩ := own_small (pw - np) (e - f) hb (by omega)
      obtain ⟨c1, c2, c3⟩ := own_a2 he hf hV b1 b2 (Nat.le_of_lt hlt)
      obtain ⟨tp3, tp, vv⟩ := own_add4 _ (own_val lo hi) (own_upB y0 y1 (pw - np) (e - f) k1 (by omega)) (own_num0 hi lo) c1 c2 rfl rfl rfl rfl
      rcases hc with ⟨rfl, rfl⟩ | ⟨rfl, x3, rfl⟩
      · exact ⟨_, _, np, f, hf, hn, by rw [vv]; exact c3, rmaB3 l Z a0 hw [] a hi lo np r kr pw y0 y1 (own_sg y1) (pw - np) (pw - np) _ _ _ _ h0 n0 Z0 O g_a gr hle rfl k2 k3 rfl rfl rfl rfl tp tp3⟩
      · exact ⟨_, _, np, f, hf, hn, by rw [vv]; exact c3, rmaB4 l Z a0 hw [] a hi lo np r kr pw y0 y1 (own_sg y1) x3 (pw - np) (pw - np) _ _ _ _ h0 n0 Z0 O g_a gr hle rfl k2 k3 rfl rfl rfl rfl tp tp3⟩
    · have hlt : e ≤ f := by rw [Int32.lt_iff_toInt_lt] at hle; omega
      have hb : (np - pw).toInt = (f - e : Nat) := by rw [own_sub32 np pw hn hq (by omega) (by omega)]; omega
      obtain ⟨k1, k2, k3⟩ := own_small (np - pw) (f - e) hb (by omega)
      obtain ⟨c1, c2, c3⟩ := own_a1 he hf hV b1 b2 hlt
      obtain ⟨tp, vv⟩ := own_add3 _ _ (own_ext3 y0 y1) (own_num hi lo (np - pw) (f - e) k1 (by omega)) c1 c2 rfl rfl rfl
      exact ⟨_, _, pw, e, he, hq, by rw [vv]; exact c3, rmaA3 l Z a0 hw [] a hi lo np r kr zc pw tl y0 y1 (own_sg y1) (np - pw) _ _ _ h0 n0 Z0 O g_a gr hc hle rfl k2 k3 rfl rfl rfl tp⟩

theorem own_StE {Z : State} {h : Heap} {n0 : Nat} {a : Addr} {y0 y1 : Int64} {q : Int32} (hS : own_St Z h n0 a y0 y1 q) : Exa Z h a "com/example/eventweir/eventweir/ExactSum" := by
  obtain ⟨r, kr, zc, n, pw, vs, O, -⟩ := hS
  exact O.1
theorem own_sgp (x : Int64) (V : Int) (h1 : x.toInt < 0 ↔ V < 0) (h2 : V ≠ 0) : (if x < (0 : Int64) then (-1 : Int32) else (1 : Int32)) = own_sgn V := by
  unfold own_sgn
  by_cases h : x < (0 : Int64)
  · rw [if_pos h, if_pos (h1.mp (Int64.lt_iff_toInt_lt.mp h))]
  · rw [if_neg h, if_neg (fun q => h (Int64.lt_iff_toInt_lt.mpr (h1.mpr q))), if_neg h2]
theorem own_sigSt (l : Launch) (Z : State) (a0 : Array Value) (hw : own_W Z a0) (a : Addr) (y0 y1 : Int64) (q : Int32) (h0 : Heap) (n0 : Nat) (Z0 : n0 ≤ h0.size) (hS : own_St Z h0 n0 a y0 y1 q) (g_a : n0 ≤ a) :
    own_M l Z (⟨"com/example/eventweir/eventweir/ExactSum", "signum", "()I"⟩ : MethodName) prog_78_method_5_code 2 (some .int) [] ({ frames := 0, cells := 0, slots := 0, locals := 0 } : Room) #[(.ref a)] h0 (own_Q_sg Z (own_sgn (own_val y0 y1)) h0 n0) := by
  have v : own_val y0 y1 = y1.toInt * 18446744073709551616 + own_u y0 := rfl
  have r0 := own_u_rng y0; have r1 := rng64 y0; have r2 := rng64 y1
  obtain ⟨r, kr, zc, n, pw, vs, O, hS⟩ := hS
  rcases hS with ⟨rfl, rfl, rfl, -⟩ | ⟨gr, x2, tl, hc, hS⟩
  · rw [show own_sgn (own_val 0 0) = (0 : Int32) by decide]
    exact rmsg0 l Z a0 hw [] a h0 n0 Z0 O.2.2.1
  rcases hS with ⟨rfl, rfl, h1, h2, rfl⟩ | ⟨rfl, rfl, rfl, h1, rfl⟩ | ⟨rfl, rfl, h1, h2, h3, rfl⟩
  · have n0' : y0.toInt ≠ 0 := fun q => h1 (Int64.toInt_inj.mp q)
    have s := own_sg_val y0; rw [← h2] at s
    rw [← own_sgp y1 (own_val y0 y1) (by rw [v]; omega) (by rw [v]; omega)]
    exact rmsg2 l Z a0 hw [] a r kr zc pw tl y0 y1 x2 h0 n0 Z0 O g_a gr hc
  · have n1' : y1.toInt ≠ 0 := fun q => h1 (Int64.toInt_inj.mp q)
    have s := own_sg_val y1
    rw [← own_sgp (own_sg y1) (own_val 0 y1) (by rw [own_val0]; omega) (by rw [own_val0]; omega)]
    exact rmsg2 l Z a0 hw [] a r kr zc _ tl y1 (own_sg y1) x2 h0 n0 Z0 O g_a gr hc
  · have n0' : y0.toInt ≠ 0 := fun q => h1 (Int64.toInt_inj.mp q)
    have s := own_sg_val y1; rw [← h3] at s
    rw [← own_sgp x2 (own_val y0 y1) (by rw [v]; omega) (by rw [v]; omega)]
    exact rmsg3 l Z a0 hw [] a r kr zc pw tl y0 y1 x2 h0 n0 Z0 O g_a gr hc

theorem own_m0 (V : Int) : V * ((2 ^ 0 : Nat) : Int) = V := by simp
theorem own_h1 (q : Int64) {hh : Int64} (e : hh = (q >>> ((1 : Int32) &&& 0x3f).toInt64)) : -4611686018427387904 ≤ hh.toInt ∧ hh.toInt < 4611686018427387904 := by
  have h := own_xr q 1 1 (by decide) e
  have := rng64 q
  simp only [Nat.reducePow, Int.cast_ofNat_Int] at h
  omega
theorem own_h2 (q : Int64) {hh : Int64} (e : hh = (q >>> ((4 : Int32) &&& 0x3f).toInt64)) : -576460752303423488 ≤ hh.toInt ∧ hh.toInt < 576460752303423488 := by
  have h := own_xr q 4 4 (by decide) e
  have := rng64 q
  simp only [Nat.reducePow, Int.cast_ofNat_Int] at h
  omega
theorem own_pack {q1 q3 q4 hh1 ll1 hh2 yh yl nh nl cz : Int64} {p5 p6 dd pp : Int32} (e1 : hh1 = (q1 >>> ((1 : Int32) &&& 0x3f).toInt64)) (e2 : hh2 = (q3 >>> ((4 : Int32) &&& 0x3f).toInt64)) (e3 : dd = (p6 &&& (3 : Int32))) (e4 : pp = (p5 >>> ((2 : Int32) &&& 31)))
    (e5 : yh = (if dd = (0 : Int32) then hh2 else ((hh2 <<< (dd &&& 0x3f).toInt64) ||| ((q4.toUInt64 >>> (((64 : Int32) - dd) &&& 0x3f).toInt64.toUInt64).toInt64)))) (e6 : yl = (q4 <<< (dd &&& 0x3f).toInt64)) (e7 : cz = (if ll1 = (0 : Int64) then (1 : Int64) else (0 : Int64))) (e8 : nh = ((hh1 ^^^ (-1 : Int64)) + cz)) (e9 : nl = (-ll1)) :
    ∃ k : Nat, k ≤ 3 ∧ (pp + dd).toInt = pp.toInt + k ∧ -1073741824 ≤ pp.toInt ∧ pp.toInt ≤ 1073741824 ∧ own_val nl nh = - own_val ll1 hh1 ∧ own_val yl yh = own_val q4 hh2 * (2 ^ k : Nat) ∧
      -85070591730234615865843651857942052864 ≤ own_val ll1 hh1 ∧ own_val ll1 hh1 < 85070591730234615865843651857942052864 ∧ -85070591730234615865843651857942052864 ≤ own_val yl yh ∧ own_val yl yh < 85070591730234615865843651857942052864 := by
  obtain ⟨a1, a2⟩ := own_h1 q1 e1
  obtain ⟨b1, b2⟩ := own_h2 q3 e2
  obtain ⟨k, k1, k2, k3⟩ := own_ddr p6 e3
  obtain ⟨c1, c2⟩ := own_ppr p5 e4
  obtain ⟨y1, y2, y3⟩ := own_Y hh2 q4 dd k k2 k1 e5 e6 b1 b2
  have x := own_range ll1 hh1 4611686018427387904 a1 a2
  exact ⟨k, k1, own_pd pp dd k k1 k3 c1 c2, by omega, by omega, own_neg e9 e7 e8 a1 a2, y1, by omega, by omega, y2, y3⟩
theorem own_len0 {s : State} {args : Array Value} {t : Term} {a : Addr} {cl : Cell} {ty : FieldType} (et : t.eval args s none [] s = some (.ref a)) (A : Arr s s.heap a cl ty) (h : (Term.length t).eval args s none [] s = some (.int (0 : Int32))) : cl.slots.size < 2 ^ 31 ∧ cl.slots.size.toInt32 = (0 : Int32) := by
  have h2 : s.arrayAt? a = some cl := A.fin (Vm.Alike.refl _)
  simp only [Term.eval, et, h2, Option.bind_eq_bind, Option.bind_some] at h
  split at h
  · rename_i q
    exact ⟨q, by simpa using h⟩
  · cases h
def own_Q_law (Z : State) (h0 : Heap) (n0 : Nat) (v : Option Value) (h : Heap) (L : List Loc) : Prop := v = some (.int (1 : Int32)) ∧ Fr n0 L

theorem bl204 {p : Program} {l : Launch} {e : Env} {s : State} {m : MethodId} {args : Array Value} {below : List Frame} {meth : Method} {c : Code} {s₁ : State} {lc : List Loc} (Z : State) (a0 : Array Value) (hw : ∀ d ∈ tables_1, d.before a0 Z = true) (a : Addr) (q1 q2 q3 q4 hh1 ll1 hh2 yh yl nh nl u0 u1 : Int64) (p5 p6 dd pp sw ca rq : Int32) (d : Nat) (h0 : Heap) (n0 : Nat) (Z0 : n0 ≤ h0.size) (hS : own_St Z h0 n0 a u0 u1 rq) (g_a : n0 ≤ a) (hd : d ≤ 3) (hr : rq.toInt = pp.toInt + d) (hV : own_val u0 u1 * (2 ^ d : Nat) = own_val ll1 hh1 + own_val yl yh) (pl1 : -1073741824 ≤ pp.toInt) (pl2 : pp.toInt ≤ 1073741824) (hN : own_val nl nh = - own_val ll1 hh1) (X1 : -85070591730234615865843651857942052864 ≤ own_val ll1 hh1) (X2 : own_val ll1 hh1 < 85070591730234615865843651857942052864) (Y1 : -85070591730234615865843651857942052864 ≤ own_val yl yh) (Y2 : own_val yl yh < 85070591730234615865843651857942052864)
    (X0 : Stand p l e ({ frames := 7, cells := 16, slots := 128, locals := 208 } : Room) s m args below meth c s₁ lc 5 19) (hx : p.tables.exec = Jvm.exec) (hZ : Z.Warmed39 s.vm) (hby : c.code = code) (hml : c.maxLocals = 37) (hown : s.vm.findClass "com/example/eventweir/eventweir/ExactSumSignumPinLaw" = some m.cls) (hlk : meth.locks = false) (hret : meth.sig.returnType = (some .boolean)) (e0 : s₁.heap = h0) (N0 : Fr n0 lc) :
    own_G (tb := p.tables) (e := e) (below := below) (s := s) (P := own_Q_law Z h0 n0) (k := 16) (n := 128) (s₁.setTop (mkF m 204 #[oJ q1, oS, oJ q2, oS, oJ q3, oS, oJ q4, oS, oI p5, oI p6, oJ hh1, oS, oJ ll1, oS, oJ hh2, oS, oJ q4, oS, oI dd, oI pp, oI sw, oI ca, oJ yh, oS, oJ yl, oS, oJ nh, oS, oJ nl, oS, oA a, oU, oU, oU, oU, oU, oU] [])) := by
  have E_a := own_StE hS
  refine up ?_ fun t k => XS.iload X0.here hx rfl (hb hby at_204) rfl k
  show own_G (s₁.setTop (mkF m 206 #[oJ q1, oS, oJ q2, oS, oJ q3, oS, oJ q4, oS, oI p5, oI p6, oJ hh1, oS, oJ ll1, oS, oJ hh2, oS, oJ q4, oS, oI dd, oI pp, oI sw, oI ca, oJ yh, oS, oJ yl, oS, oJ nh, oS, oJ nl, oS, oA a, oU, oU, oU, oU, oU, oU] [(.int ca)]))
  by_cases hc206_863 : ca = (0 : Int32)
  · refine up ?_ fun t k => XS.ifYes X0.here hx rfl (pc0 := 206) (pc' := 220) rfl (hb hby at_206) rfl ((if0 _ _).trans (teq hc206_863).1) (by decide) (by decide) (XS.iload X0.here hx rfl (hb hby at_220) rfl k)
    show own_G (s₁.setTop (mkF m 222 #[oJ q1, oS, oJ q2, oS, oJ q3, oS, oJ q4, oS, oI p5, oI p6, oJ hh1, oS, oJ ll1, oS, oJ hh2, oS, oJ q4, oS, oI dd, oI pp, oI sw, oI ca, oJ yh, oS, oJ yl, oS, oJ nh, oS, oJ nl, oS, oA a, oU, oU, oU, oU, oU, oU] [(.int ca)]))
    refine up ?_ fun t k => XS.ifYes X0.here hx rfl (pc0 := 222) (pc' := 236) rfl (hb hby at_222) rfl ((if0 _ _).trans (teq (hc206_863 : (ca = (0 : Int32)))).1) (by decide) (by decide) (XS.lload X0.here hx rfl (hb hby at_236) rfl (XS.lload X0.here hx rfl (hb hby at_238) rfl (XS.ladd X0.here hx rfl (hb hby at_240) rfl (XS.lstore X0.here hx rfl (hb hby at_241) rfl (l' := #[oJ q1, oS, oJ q2, oS, oJ q3, oS, oJ q4, oS, oI p5, oI p6, oJ hh1, oS, oJ ll1, oS, oJ hh2, oS, oJ q4, oS, oI dd, oI pp, oI sw, oI ca, oJ yh, oS, oJ yl, oS, oJ nh, oS, oJ nl, oS, oA a, oU, oU, oJ (ll1 + yl), oS, oU, oU]) rfl k))))
    show own_G (s₁.setTop (mkF m 243 #[oJ q1, oS, oJ q2, oS, oJ q3, oS, oJ q4, oS, oI p5, oI p6, oJ hh1, oS, oJ ll1, oS, oJ hh2, oS, oJ q4, oS, oI dd, oI pp, oI sw, oI ca, oJ yh, oS, oJ yl, oS, oJ nh, oS, oJ nl, oS, oA a, oU, oU, oJ (ll1 + yl), oS, oU, oU] []))
    obtain ⟨lo, h_lo⟩ : ∃ z, z = (ll1 + yl) := ⟨_, rfl⟩
    rw [← h_lo]
    show own_G (s₁.setTop (mkF m 243 #[oJ q1, oS, oJ q2, oS, oJ q3, oS, oJ q4, oS, oI p5, oI p6, oJ hh1, oS, oJ ll1, oS, oJ hh2, oS, oJ q4, oS, oI dd, oI pp, oI sw, oI ca, oJ yh, oS, oJ yl, oS, oJ nh, oS, oJ nl, oS, oA a, oU, oU, oJ lo, oS, oU, oU] []))
    refine up ?_ fun t k => XS.lload X0.here hx rfl (hb hby at_243) rfl k
    show own_G (s₁.setTop (mkF m 245 #[oJ q1, oS, oJ q2, oS, oJ q3, oS, oJ q4, oS, oI p5, oI p6, oJ hh1, oS, oJ ll1, oS, oJ hh2, oS, oJ q4, oS, oI dd, oI pp, oI sw, oI ca, oJ yh, oS, oJ yl, oS, oJ nh, oS, oJ nl, oS, oA a, oU, oU, oJ lo, oS, oU, oU] [(.long lo)]))
    refine up ?_ fun t k => X0.ldc2Long hx hown (mvT hZ (hw _ (own_m 53 rfl))) (g := (mkF m 245 #[oJ q1, oS, oJ q2, oS, oJ q3, oS, oJ q4, oS, oI p5, oI p6, oJ hh1, oS, oJ ll1, oS, oJ hh2, oS, oJ q4, oS, oI dd, oI pp, oI sw, oI ca, oJ yh, oS, oJ yl, oS, oJ nh, oS, oJ nl, oS, oA a, oU, oU, oJ lo, oS, oU, oU] [(.long lo)])) rfl (hb hby at_245) _ (XS.lxor X0.here hx rfl (hb hby at_248) rfl (XS.lload X0.here hx rfl (hb hby at_249) rfl k))
    show own_G (s₁.setTop (mkF m 251 #[oJ q1, oS, oJ q2, oS, oJ q3, oS, oJ q4, oS, oI p5, oI p6, oJ hh1, oS, oJ ll1, oS, oJ hh2, oS, oJ q4, oS, oI dd, oI pp, oI sw, oI ca, oJ yh, oS, oJ yl, oS, oJ nh, oS, oJ nl, oS, oA a, oU, oU, oJ lo, oS, oU, oU] [(.long ll1), (.long (lo ^^^ (-9223372036854775808 : Int64)))]))
    refine up ?_ fun t k => X0.ldc2Long hx hown (mvT hZ (hw _ (own_m 53 rfl))) (g := (mkF m 251 #[oJ q1, oS, oJ q2, oS, oJ q3, oS, oJ q4, oS, oI p5, oI p6, oJ hh1, oS, oJ ll1, oS, oJ hh2, oS, oJ q4, oS, oI dd, oI pp, oI sw, oI ca, oJ yh, oS, oJ yl, oS, oJ nh, oS, oJ nl, oS, oA a, oU, oU, oJ lo, oS, oU, oU] [(.long ll1), (.long (lo ^^^ (-9223372036854775808 : Int64)))])) rfl (hb hby at_251) _ (XS.lxor X0.here hx rfl (hb hby at_254) rfl (XS.lcmp X0.here hx rfl (hb hby at_255) rfl k))
    show own_G (s₁.setTop (mkF m 256 #[oJ q1, oS, oJ q2, oS, oJ q3, oS, oJ q4, oS, oI p5, oI p6, oJ hh1, oS, oJ ll1, oS, oJ hh2, oS, oJ q4, oS, oI dd, oI pp, oI sw, oI ca, oJ yh, oS, oJ yl, oS, oJ nh, oS, oJ nl, oS, oA a, oU, oU, oJ lo, oS, oU, oU] [(.int (lcmpW (lo ^^^ (-9223372036854775808 : Int64)) (ll1 ^^^ (-9223372036854775808 : Int64))))]))
    have dm865 : ∀ t, Steps p.tables e below (s₁.setTop (mkF m 264 #[oJ q1, oS, oJ q2, oS, oJ q3, oS, oJ q4, oS, oI p5, oI p6, oJ hh1, oS, oJ ll1, oS, oJ hh2, oS, oJ q4, oS, oI dd, oI pp, oI sw, oI ca, oJ yh, oS, oJ yl, oS, oJ nh, oS, oJ nl, oS, oA a, oU, oU, oJ lo, oS, oU, oU] [(.long (if (lo ^^^ (-9223372036854775808 : Int64)) < (ll1 ^^^ (-9223372036854775808 : Int64)) then (1 : Int64) else (0 : Int64)))])) t → Steps p.tables e below (s₁.setTop (mkF m 256 #[oJ q1, oS, oJ q2, oS, oJ q3, oS, oJ q4, oS, oI p5, oI p6, oJ hh1, oS, oJ ll1, oS, oJ hh2, oS, oJ q4, oS, oI dd, oI pp, oI sw, oI ca, oJ yh, oS, oJ yl, oS, oJ nh, oS, oJ nl, oS, oA a, oU, oU, oJ lo, oS, oU, oU] [(.int (lcmpW (lo ^^^ (-9223372036854775808 : Int64)) (ll1 ^^^ (-9223372036854775808 : Int64))))])) t := by
      intro t k
      by_cases hc256_864 : (lo ^^^ (-9223372036854775808 : Int64)) < (ll1 ^^^ (-9223372036854775808 : Int64))
      · refine XS.ifNo X0.here hx rfl (hb hby at_256) rfl ((if0 _ _).trans (tlt ((lw_lt _ _).mpr hc256_864)).2.1) (XS.lconst X0.here hx rfl (hb hby at_259) (XS.goto X0.here hx rfl (pc0 := 260) (pc' := 264) rfl (hb hby at_260) (by decide) (by decide) ?_))
        show Steps p.tables e below (s₁.setTop (mkF m 264 #[oJ q1, oS, oJ q2, oS, oJ q3, oS, oJ q4, oS, oI p5, oI p6, oJ hh1, oS, oJ ll1, oS, oJ hh2, oS, oJ q4, oS, oI dd, oI pp, oI sw, oI ca, oJ yh, oS, oJ yl, oS, oJ nh, oS, oJ nl, oS, oA a, oU, oU, oJ lo, oS, oU, oU] [(.long (1 : Int64))])) t
        simp only [if_pos hc256_864] at k
        exact k
      · refine XS.ifYes X0.here hx rfl (pc0 := 256) (pc' := 263) rfl (hb hby at_256) rfl ((if0 _ _).trans (flt (fun q => hc256_864 ((lw_lt _ _).mp q))).2.1) (by decide) (by decide) (XS.lconst X0.here hx rfl (hb hby at_263) ?_)
        show Steps p.tables e below (s₁.setTop (mkF m 264 #[oJ q1, oS, oJ q2, oS, oJ q3, oS, oJ q4, oS, oI p5, oI p6, oJ hh1, oS, oJ ll1, oS, oJ hh2, oS, oJ q4, oS, oI dd, oI pp, oI sw, oI ca, oJ yh, oS, oJ yl, oS, oJ nh, oS, oJ nl, oS, oA a, oU, oU, oJ lo, oS, oU, oU] [(.long (0 : Int64))])) t
        simp only [if_neg hc256_864] at k
        exact k
    refine up ?_ dm865
    show own_G (s₁.setTop (mkF m 264 #[oJ q1, oS, oJ q2, oS, oJ q3, oS, oJ q4, oS, oI p5, oI p6, oJ hh1, oS, oJ ll1, oS, oJ hh2, oS, oJ q4, oS, oI dd, oI pp, oI sw, oI ca, oJ yh, oS, oJ yl, oS, oJ nh, oS, oJ nl, oS, oA a, oU, oU, oJ lo, oS, oU, oU] [(.long (if (lo ^^^ (-9223372036854775808 : Int64)) < (ll1 ^^^ (-9223372036854775808 : Int64)) then (1 : Int64) else (0 : Int64)))]))
    obtain ⟨cy, h_cy⟩ : ∃ z, z = (if (lo ^^^ (-9223372036854775808 : Int64)) < (ll1 ^^^ (-9223372036854775808 : Int64)) then (1 : Int64) else (0 : Int64)) := ⟨_, rfl⟩
    rw [← h_cy]
    show own_G (s₁.setTop (mkF m 264 #[oJ q1, oS, oJ q2, oS, oJ q3, oS, oJ q4, oS, oI p5, oI p6, oJ hh1, oS, oJ ll1, oS, oJ hh2, oS, oJ q4, oS, oI dd, oI pp, oI sw, oI ca, oJ yh, oS, oJ yl, oS, oJ nh, oS, oJ nl, oS, oA a, oU, oU, oJ lo, oS, oU, oU] [(.long cy)]))
    refine up ?_ fun t k => XS.lstore X0.here hx rfl (hb hby at_264) rfl (l' := #[oJ q1, oS, oJ q2, oS, oJ q3, oS, oJ q4, oS, oI p5, oI p6, oJ hh1, oS, oJ ll1, oS, oJ hh2, oS, oJ q4, oS, oI dd, oI pp, oI sw, oI ca, oJ yh, oS, oJ yl, oS, oJ nh, oS, oJ nl, oS, oA a, oU, oU, oJ lo, oS, oJ cy, oS]) rfl (XS.lload X0.here hx rfl (hb hby at_266) rfl (XS.lload X0.here hx rfl (hb hby at_268) rfl (XS.ladd X0.here hx rfl (hb hby at_270) rfl (XS.lload X0.here hx rfl (hb hby at_271) rfl (XS.ladd X0.here hx rfl (hb hby at_273) rfl (XS.lstore X0.here hx rfl (hb hby at_274) rfl (l' := #[oJ q1, oS, oJ q2, oS, oJ q3, oS, oJ q4, oS, oI p5, oI p6, oJ hh1, oS, oJ ll1, oS, oJ hh2, oS, oJ q4, oS, oI dd, oI pp, oI sw, oI ca, oJ yh, oS, oJ yl, oS, oJ nh, oS, oJ nl, oS, oA a, oJ ((hh1 + yh) + cy), oS, oJ lo, oS, oJ cy, oS]) rfl k))))))
    show own_G (s₁.setTop (mkF m 276 #[oJ q1, oS, oJ q2, oS, oJ q3, oS, oJ q4, oS, oI p5, oI p6, oJ hh1, oS, oJ ll1, oS, oJ hh2, oS, oJ q4, oS, oI dd, oI pp, oI sw, oI ca, oJ yh, oS, oJ yl, oS, oJ nh, oS, oJ nl, oS, oA a, oJ ((hh1 + yh) + cy), oS, oJ lo, oS, oJ cy, oS] []))
    obtain ⟨hi, h_hi⟩ : ∃ z, z = ((hh1 + yh) + cy) := ⟨_, rfl⟩
    rw [← h_hi]
    show own_G (s₁.setTop (mkF m 276 #[oJ q1, oS, oJ q2, oS, oJ q3, oS, oJ q4, oS, oI p5, oI p6, oJ hh1, oS, oJ ll1, oS, oJ hh2, oS, oJ q4, oS, oI dd, oI pp, oI sw, oI ca, oJ yh, oS, oJ yl, oS, oJ nh, oS, oJ nl, oS, oA a, oJ hi, oS, oJ lo, oS, oJ cy, oS] []))
    refine up ?_ fun t k => XS.lload X0.here hx rfl (hb hby at_276) rfl (XS.lconst X0.here hx rfl (hb hby at_278) (XS.lcmp X0.here hx rfl (hb hby at_279) rfl k))
    show own_G (s₁.setTop (mkF m 280 #[oJ q1, oS, oJ q2, oS, oJ q3, oS, oJ q4, oS, oI p5, oI p6, oJ hh1, oS, oJ ll1, oS, oJ hh2, oS, oJ q4, oS, oI dd, oI pp, oI sw, oI ca, oJ yh, oS, oJ yl, oS, oJ nh, oS, oJ nl, oS, oA a, oJ hi, oS, oJ lo, oS, oJ cy, oS] [(.int (lcmpW hi (0 : Int64)))]))
    have dm869 : ∀ t, Steps p.tables e below (s₁.setTop (mkF m 312 #[oJ q1, oS, oJ q2, oS, oJ q3, oS, oJ q4, oS, oI p5, oI p6, oJ hh1, oS, oJ ll1, oS, oJ hh2, oS, oJ q4, oS, oI dd, oI pp, oI sw, oI ca, oJ yh, oS, oJ yl, oS, oJ nh, oS, oJ nl, oS, oA a, oJ hi, oS, oJ lo, oS, oI (if hi < (0 : Int64) then (-1 : Int32) else (if hi = (0 : Int64) then (if lo = (0 : Int64) then (0 : Int32) else (1 : Int32)) else (1 : Int32))), oU] [])) t → Steps p.tables e below (s₁.setTop (mkF m 280 #[oJ q1, oS, oJ q2, oS, oJ q3, oS, oJ q4, oS, oI p5, oI p6, oJ hh1, oS, oJ ll1, oS, oJ hh2, oS, oJ q4, oS, oI dd, oI pp, oI sw, oI ca, oJ yh, oS, oJ yl, oS, oJ nh, oS, oJ nl, oS, oA a, oJ hi, oS, oJ lo, oS, oJ cy, oS] [(.int (lcmpW hi (0 : Int64)))])) t := by
      intro t k
      by_cases hc280_866 : hi < (0 : Int64)
      · refine XS.ifNo X0.here hx rfl (hb hby at_280) rfl ((if0 _ _).trans (tlt ((lw_lt _ _).mpr hc280_866)).2.1) (XS.iconst X0.here hx rfl (hb hby at_283) (XS.istore X0.here hx rfl (hb hby at_284) rfl (l' := #[oJ q1, oS, oJ q2, oS, oJ q3, oS, oJ q4, oS, oI p5, oI p6, oJ hh1, oS, oJ ll1, oS, oJ hh2, oS, oJ q4, oS, oI dd, oI pp, oI sw, oI ca, oJ yh, oS, oJ yl, oS, oJ nh, oS, oJ nl, oS, oA a, oJ hi, oS, oJ lo, oS, oI (-1 : Int32), oU]) rfl (XS.goto X0.here hx rfl (pc0 := 286) (pc' := 312) rfl (hb hby at_286) (by decide) (by decide) ?_)))
        show Steps p.tables e below (s₁.setTop (mkF m 312 #[oJ q1, oS, oJ q2, oS, oJ q3, oS, oJ q4, oS, oI p5, oI p6, oJ hh1, oS, oJ ll1, oS, oJ hh2, oS, oJ q4, oS, oI dd, oI pp, oI sw, oI ca, oJ yh, oS, oJ yl, oS, oJ nh, oS, oJ nl, oS, oA a, oJ hi, oS, oJ lo, oS, oI (-1 : Int32), oU] [])) t
        simp only [if_pos hc280_866] at k
        exact k
      · refine XS.ifYes X0.here hx rfl (pc0 := 280) (pc' := 289) rfl (hb hby at_280) rfl ((if0 _ _).trans (flt (fun q => hc280_866 ((lw_lt _ _).mp q))).2.1) (by decide) (by decide) (XS.lload X0.here hx rfl (hb hby at_289) rfl (XS.lconst X0.here hx rfl (hb hby at_291) (XS.lcmp X0.here hx rfl (hb hby at_292) rfl ?_)))
        show Steps p.tables e below (s₁.setTop (mkF m 293 #[oJ q1, oS, oJ q2, oS, oJ q3, oS, oJ q4, oS, oI p5, oI p6, oJ hh1, oS, oJ ll1, oS, oJ hh2, oS, oJ q4, oS, oI dd, oI pp, oI sw, oI ca, oJ yh, oS, oJ yl, oS, oJ nh, oS, oJ nl, oS, oA a, oJ hi, oS, oJ lo, oS, oJ cy, oS] [(.int (lcmpW hi (0 : Int64)))])) t
        by_cases hc293_867 : hi = (0 : Int64)
        · refine XS.ifNo X0.here hx rfl (hb hby at_293) rfl ((if0 _ _).trans (teq ((lw_eq _ _).mpr hc293_867)).2) (XS.lload X0.here hx rfl (hb hby at_296) rfl (XS.lconst X0.here hx rfl (hb hby at_298) (XS.lcmp X0.here hx rfl (hb hby at_299) rfl ?_)))
          show Steps p.tables e below (s₁.setTop (mkF m 300 #[oJ q1, oS, oJ q2, oS, oJ q3, oS, oJ q4, oS, oI p5, oI p6, oJ hh1, oS, oJ ll1, oS, oJ hh2, oS, oJ q4, oS, oI dd, oI pp, oI sw, oI ca, oJ yh, oS, oJ yl, oS, oJ nh, oS, oJ nl, oS, oA a, oJ hi, oS, oJ lo, oS, oJ cy, oS] [(.int (lcmpW lo (0 : Int64)))])) t
          by_cases hc300_868 : lo = (0 : Int64)
          · refine XS.ifNo X0.here hx rfl (hb hby at_300) rfl ((if0 _ _).trans (teq ((lw_eq _ _).mpr hc300_868)).2) (XS.iconst X0.here hx rfl (hb hby at_303) (XS.istore X0.here hx rfl (hb hby at_304) rfl (l' := #[oJ q1, oS, oJ q2, oS, oJ q3, oS, oJ q4, oS, oI p5, oI p6, oJ hh1, oS, oJ ll1, oS, oJ hh2, oS, oJ q4, oS, oI dd, oI pp, oI sw, oI ca, oJ yh, oS, oJ yl, oS, oJ nh, oS, oJ nl, oS, oA a, oJ hi, oS, oJ lo, oS, oI (0 : Int32), oU]) rfl (XS.goto X0.here hx rfl (pc0 := 306) (pc' := 312) rfl (hb hby at_306) (by decide) (by decide) ?_)))
            show Steps p.tables e below (s₁.setTop (mkF m 312 #[oJ q1, oS, oJ q2, oS, oJ q3, oS, oJ q4, oS, oI p5, oI p6, oJ hh1, oS, oJ ll1, oS, oJ hh2, oS, oJ q4, oS, oI dd, oI pp, oI sw, oI ca, oJ yh, oS, oJ yl, oS, oJ nh, oS, oJ nl, oS, oA a, oJ hi, oS, oJ lo, oS, oI (0 : Int32), oU] [])) t
            simp only [if_neg hc280_866, if_pos hc293_867, if_pos hc300_868] at k
            exact k
          · refine XS.ifYes X0.here hx rfl (pc0 := 300) (pc' := 309) rfl (hb hby at_300) rfl ((if0 _ _).trans (feq (fun q => hc300_868 ((lw_eq _ _).mp q))).2) (by decide) (by decide) (XS.iconst X0.here hx rfl (hb hby at_309) (XS.istore X0.here hx rfl (hb hby at_310) rfl (l' := #[oJ q1, oS, oJ q2, oS, oJ q3, oS, oJ q4, oS, oI p5, oI p6, oJ hh1, oS, oJ ll1, oS, oJ hh2, oS, oJ q4, oS, oI dd, oI pp, oI sw, oI ca, oJ yh, oS, oJ yl, oS, oJ nh, oS, oJ nl, oS, oA a, oJ hi, oS, oJ lo, oS, oI (1 : Int32), oU]) rfl ?_))
            show Steps p.tables e below (s₁.setTop (mkF m 312 #[oJ q1, oS, oJ q2, oS, oJ q3, oS, oJ q4, oS, oI p5, oI p6, oJ hh1, oS, oJ ll1, oS, oJ hh2, oS, oJ q4, oS, oI dd, oI pp, oI sw, oI ca, oJ yh, oS, oJ yl, oS, oJ nh, oS, oJ nl, oS, oA a, oJ hi, oS, oJ lo, oS, oI (1 : Int32), oU] [])) t
            simp only [if_neg hc280_866, if_pos hc293_867, if_neg hc300_868] at k
            exact k
        · refine XS.ifYes X0.here hx rfl (pc0 := 293) (pc' := 309) rfl (hb hby at_293) rfl ((if0 _ _).trans (feq (fun q => hc293_867 ((lw_eq _ _).mp q))).2) (by decide) (by decide) (XS.iconst X0.here hx rfl (hb hby at_309) (XS.istore X0.here hx rfl (hb hby at_310) rfl (l' := #[oJ q1, oS, oJ q2, oS, oJ q3, oS, oJ q4, oS, oI p5, oI p6, oJ hh1, oS, oJ ll1, oS, oJ hh2, oS, oJ q4, oS, oI dd, oI pp, oI sw, oI ca, oJ yh, oS, oJ yl, oS, oJ nh, oS, oJ nl, oS, oA a, oJ hi, oS, oJ lo, oS, oI (1 : Int32), oU]) rfl ?_))
          show Steps p.tables e below (s₁.setTop (mkF m 312 #[oJ q1, oS, oJ q2, oS, oJ q3, oS, oJ q4, oS, oI p5, oI p6, oJ hh1, oS, oJ ll1, oS, oJ hh2, oS, oJ q4, oS, oI dd, oI pp, oI sw, oI ca, oJ yh, oS, oJ yl, oS, oJ nh, oS, oJ nl, oS, oA a, oJ hi, oS, oJ lo, oS, oI (1 : Int32), oU] [])) t
          simp only [if_neg hc280_866, if_neg hc293_867] at k
          exact k
    refine up ?_ dm869
    show own_G (s₁.setTop (mkF m 312 #[oJ q1, oS, oJ q2, oS, oJ q3, oS, oJ q4, oS, oI p5, oI p6, oJ hh1, oS, oJ ll1, oS, oJ hh2, oS, oJ q4, oS, oI dd, oI pp, oI sw, oI ca, oJ yh, oS, oJ yl, oS, oJ nh, oS, oJ nl, oS, oA a, oJ hi, oS, oJ lo, oS, oI (if hi < (0 : Int64) then (-1 : Int32) else (if hi = (0 : Int64) then (if lo = (0 : Int64) then (0 : Int32) else (1 : Int32)) else (1 : Int32))), oU] []))
    obtain ⟨ex, h_ex⟩ : ∃ z, z = (if hi < (0 : Int64) then (-1 : Int32) else (if hi = (0 : Int64) then (if lo = (0 : Int64) then (0 : Int32) else (1 : Int32)) else (1 : Int32))) := ⟨_, rfl⟩
    rw [← h_ex]
    show own_G (s₁.setTop (mkF m 312 #[oJ q1, oS, oJ q2, oS, oJ q3, oS, oJ q4, oS, oI p5, oI p6, oJ hh1, oS, oJ ll1, oS, oJ hh2, oS, oJ q4, oS, oI dd, oI pp, oI sw, oI ca, oJ yh, oS, oJ yl, oS, oJ nh, oS, oJ nl, oS, oA a, oJ hi, oS, oJ lo, oS, oI ex, oU] []))
    refine up ?_ fun t k => XS.aload X0.here hx rfl (hb hby at_312) rfl rfl k
    show own_G (s₁.setTop (mkF m 314 #[oJ q1, oS, oJ q2, oS, oJ q3, oS, oJ q4, oS, oI p5, oI p6, oJ hh1, oS, oJ ll1, oS, oJ hh2, oS, oJ q4, oS, oI dd, oI pp, oI sw, oI ca, oJ yh, oS, oJ yl, oS, oJ nh, oS, oJ nl, oS, oA a, oJ hi, oS, oJ lo, oS, oI ex, oU] [(.ref a)]))
    obtain ⟨cq870, kq870, q870a, q870b, q870c⟩ := isOf hZ e0 E_a
    obtain ⟨_, _, ⟨T870, L870, k870, n870⟩, -, X870, ⟨Lc870, hQ870, l870, y870, z870⟩, st870⟩ := X0.virtualBack hx (y := (⟨"com/example/eventweir/eventweir/ExactSum", "signum", "()I"⟩ : MethodName)) (z := (⟨"com/example/eventweir/eventweir/ExactSum", "signum", "()I"⟩ : MethodName)) hown (mvT hZ (hw _ (own_m 54 rfl))) (mvT hZ (hw _ (own_m 55 rfl))) (notFace_of_selects (args := #[]) (mvT hZ (hw _ (own_m 57 rfl)))) (mvT hZ (hw _ (own_m 57 rfl))) (mvT hZ (hw _ (own_m 56 rfl))) (by decide) (backOf (W := 0) (own_sigSt l Z a0 hw a u0 u1 rq h0 n0 Z0 hS g_a) hZ (hw _ (own_m 58 rfl)) (hw _ (own_m 4 rfl)) (by decide) (by decide)) q870a q870c (g := (mkF m 314 #[oJ q1, oS, oJ q2, oS, oJ q3, oS, oJ q4, oS, oI p5, oI p6, oJ hh1, oS, oJ ll1, oS, oJ hh2, oS, oJ q4, oS, oI dd, oI pp, oI sw, oI ca, oJ yh, oS, oJ yl, oS, oJ nh, oS, oJ nl, oS, oA a, oJ hi, oS, oJ lo, oS, oI ex, oU] [(.ref a)])) rfl (by rw [hml]; rfl) (Steps.refl _) (argsL := []) (rest := []) (lenOf own_pd9 rfl) rfl (by show 2 * 0 + _ ≤ _; exact Nat.le_of_eq rfl) (hb hby at_314) (fun _ _ => ⟨rfl, e0, (by decide : 5 + 0 ≤ _), (by decide : 19 + 0 ≤ _)⟩)
    dsimp only [Pt.U, Pt.locs, Pt.cells, Pt.slots] at X870 l870 y870 z870 st870 hQ870
    subst l870 y870 z870
    obtain ⟨rfl, Nq870, e870⟩ := hQ870
    have N870 := Fr.app N0 Nq870
    refine up ?_ (fun t k => st870.trans k)
    show own_G (T870.setTop (mkF m 317 #[oJ q1, oS, oJ q2, oS, oJ q3, oS, oJ q4, oS, oI p5, oI p6, oJ hh1, oS, oJ ll1, oS, oJ hh2, oS, oJ q4, oS, oI dd, oI pp, oI sw, oI ca, oJ yh, oS, oJ yl, oS, oJ nh, oS, oJ nl, oS, oA a, oJ hi, oS, oJ lo, oS, oI ex, oU] [(.int (own_sgn (own_val u0 u1)))]))
    refine up ?_ fun t k => XS.iload X870.here hx rfl (hb hby at_317) rfl k
    show own_G (T870.setTop (mkF m 319 #[oJ q1, oS, oJ q2, oS, oJ q3, oS, oJ q4, oS, oI p5, oI p6, oJ hh1, oS, oJ ll1, oS, oJ hh2, oS, oJ q4, oS, oI dd, oI pp, oI sw, oI ca, oJ yh, oS, oJ yl, oS, oJ nh, oS, oJ nl, oS, oA a, oJ hi, oS, oJ lo, oS, oI ex, oU] [(.int ex), (.int (own_sgn (own_val u0 u1)))]))
    refine up ?_ fun t k => XS.icmpNo X870.here hx rfl (hb hby at_319) rfl (teq (by rw [h_ex, own_exp, own_sum h_lo h_cy h_hi X1 X2 Y1 Y2]; exact own_sgk _ _ _ hd hV : ((own_sgn (own_val u0 u1)) = ex))).2 (XS.iconst X870.here hx rfl (hb hby at_322) (XS.goto X870.here hx rfl (pc0 := 323) (pc' := 327) rfl (hb hby at_323) (by decide) (by decide) k))
    show own_G (T870.setTop (mkF m 327 #[oJ q1, oS, oJ q2, oS, oJ q3, oS, oJ q4, oS, oI p5, oI p6, oJ hh1, oS, oJ ll1, oS, oJ hh2, oS, oJ q4, oS, oI dd, oI pp, oI sw, oI ca, oJ yh, oS, oJ yl, oS, oJ nh, oS, oJ nl, oS, oA a, oJ hi, oS, oJ lo, oS, oI ex, oU] [(.int (1 : Int32))]))
    exact own_retI X870 hx hlk hret (by simp) rfl (hb hby at_327) ⟨rfl, N870⟩ (by decide) (by decide)
  · refine up ?_ fun t k => XS.ifNo X0.here hx rfl (hb hby at_206) rfl ((if0 _ _).trans (feq hc206_863).1) (XS.aload X0.here hx rfl (hb hby at_209) rfl rfl (XS.lload X0.here hx rfl (hb hby at_211) rfl (XS.lload X0.here hx rfl (hb hby at_213) rfl (XS.iload X0.here hx rfl (hb hby at_215) rfl k))))
    show own_G (s₁.setTop (mkF m 217 #[oJ q1, oS, oJ q2, oS, oJ q3, oS, oJ q4, oS, oI p5, oI p6, oJ hh1, oS, oJ ll1, oS, oJ hh2, oS, oJ q4, oS, oI dd, oI pp, oI sw, oI ca, oJ yh, oS, oJ yl, oS, oJ nh, oS, oJ nl, oS, oA a, oU, oU, oU, oU, oU, oU] [(.int pp), (.long nl), (.long nh), (.ref a)]))
    obtain ⟨u871, v871, r871, d871, hd871, hr871, hv871, hM871⟩ := own_addSt l Z a0 hw a nh nl pp u0 u1 rq h0 n0 Z0 hS g_a pp.toInt d 0 hd (Nat.zero_le 3) pl1 pl2 hr (Int.add_zero _).symm (own_val ll1 hh1 + own_val yl yh) hV (by rw [own_m0]; omega) (by rw [own_m0]; omega)
    rw [own_m0] at hv871
    obtain ⟨cq872, kq872, q872a, q872b, q872c⟩ := isOf hZ e0 E_a
    obtain ⟨_, _, ⟨T872, L872, k872, n872⟩, -, X872, ⟨Lc872, hQ872, l872, y872, z872⟩, st872⟩ := X0.virtualBack hx (y := (⟨"com/example/eventweir/eventweir/ExactSum", "add", "(JJI)V"⟩ : MethodName)) (z := (⟨"com/example/eventweir/eventweir/ExactSum", "add", "(JJI)V"⟩ : MethodName)) hown (mvT hZ (hw _ (own_m 15 rfl))) (mvT hZ (hw _ (own_m 16 rfl))) (notFace_of_selects (args := #[]) (mvT hZ (hw _ (own_m 18 rfl)))) (mvT hZ (hw _ (own_m 18 rfl))) (mvT hZ (hw _ (own_m 17 rfl))) (by decide) (backOf (W := 0) hM871 hZ (hw _ (own_m 19 rfl)) (hw _ (own_m 4 rfl)) (by decide) (by decide)) q872a q872c (g := (mkF m 217 #[oJ q1, oS, oJ q2, oS, oJ q3, oS, oJ q4, oS, oI p5, oI p6, oJ hh1, oS, oJ ll1, oS, oJ hh2, oS, oJ q4, oS, oI dd, oI pp, oI sw, oI ca, oJ yh, oS, oJ yl, oS, oJ nh, oS, oJ nl, oS, oA a, oU, oU, oU, oU, oU, oU] [(.int pp), (.long nl), (.long nh), (.ref a)])) rfl (by rw [hml]; rfl) (Steps.refl _) (argsL := [(.long nh), (.long nl), (.int pp)]) (rest := []) (lenOf own_pd10 rfl) rfl (by show 2 * 0 + _ ≤ _; exact Nat.le_of_eq rfl) (hb hby at_217) (fun _ _ => ⟨rfl, e0, (by decide : 5 + 2 ≤ _), (by decide : 19 + 8 ≤ _)⟩)
    dsimp only [Pt.U, Pt.locs, Pt.cells, Pt.slots] at X872 l872 y872 z872 st872 hQ872
    subst l872 y872 z872
    obtain ⟨rfl, Nq872, hsq872, St872⟩ := hQ872
    have N872 := Fr.app N0 Nq872
    have Zs873 : n0 ≤ T872.heap.size := Nat.le_trans Z0 hsq872
    have Es872 := own_StE St872
    refine up ?_ (fun t k => st872.trans k)
    show own_G (T872.setTop (mkF m 220 #[oJ q1, oS, oJ q2, oS, oJ q3, oS, oJ q4, oS, oI p5, oI p6, oJ hh1, oS, oJ ll1, oS, oJ hh2, oS, oJ q4, oS, oI dd, oI pp, oI sw, oI ca, oJ yh, oS, oJ yl, oS, oJ nh, oS, oJ nl, oS, oA a, oU, oU, oU, oU, oU, oU] []))
    refine up ?_ fun t k => XS.iload X872.here hx rfl (hb hby at_220) rfl k
    show own_G (T872.setTop (mkF m 222 #[oJ q1, oS, oJ q2, oS, oJ q3, oS, oJ q4, oS, oI p5, oI p6, oJ hh1, oS, oJ ll1, oS, oJ hh2, oS, oJ q4, oS, oI dd, oI pp, oI sw, oI ca, oJ yh, oS, oJ yl, oS, oJ nh, oS, oJ nl, oS, oA a, oU, oU, oU, oU, oU, oU] [(.int ca)]))
    refine up ?_ fun t k => XS.ifNo X872.here hx rfl (hb hby at_222) rfl ((if0 _ _).trans (feq (hc206_863 : ¬ (ca = (0 : Int32)))).1) (XS.lload X872.here hx rfl (hb hby at_225) rfl (XS.lstore X872.here hx rfl (hb hby at_227) rfl (l' := #[oJ q1, oS, oJ q2, oS, oJ q3, oS, oJ q4, oS, oI p5, oI p6, oJ hh1, oS, oJ ll1, oS, oJ hh2, oS, oJ q4, oS, oI dd, oI pp, oI sw, oI ca, oJ yh, oS, oJ yl, oS, oJ nh, oS, oJ nl, oS, oA a, oJ yh, oS, oU, oU, oU, oU]) rfl (XS.lload X872.here hx rfl (hb hby at_229) rfl (XS.lstore X872.here hx rfl (hb hby at_231) rfl (l' := #[oJ q1, oS, oJ q2, oS, oJ q3, oS, oJ q4, oS, oI p5, oI p6, oJ hh1, oS, oJ ll1, oS, oJ hh2, oS, oJ q4, oS, oI dd, oI pp, oI sw, oI ca, oJ yh, oS, oJ yl, oS, oJ nh, oS, oJ nl, oS, oA a, oJ yh, oS, oJ yl, oS, oU, oU]) rfl (XS.goto X872.here hx rfl (pc0 := 233) (pc' := 276) rfl (hb hby at_233) (by decide) (by decide) k)))))
    show own_G (T872.setTop (mkF m 276 #[oJ q1, oS, oJ q2, oS, oJ q3, oS, oJ q4, oS, oI p5, oI p6, oJ hh1, oS, oJ ll1, oS, oJ hh2, oS, oJ q4, oS, oI dd, oI pp, oI sw, oI ca, oJ yh, oS, oJ yl, oS, oJ nh, oS, oJ nl, oS, oA a, oJ yh, oS, oJ yl, oS, oU, oU] []))
    refine up ?_ fun t k => XS.lload X872.here hx rfl (hb hby at_276) rfl (XS.lconst X872.here hx rfl (hb hby at_278) (XS.lcmp X872.here hx rfl (hb hby at_279) rfl k))
    show own_G (T872.setTop (mkF m 280 #[oJ q1, oS, oJ q2, oS, oJ q3, oS, oJ q4, oS, oI p5, oI p6, oJ hh1, oS, oJ ll1, oS, oJ hh2, oS, oJ q4, oS, oI dd, oI pp, oI sw, oI ca, oJ yh, oS, oJ yl, oS, oJ nh, oS, oJ nl, oS, oA a, oJ yh, oS, oJ yl, oS, oU, oU] [(.int (lcmpW yh (0 : Int64)))]))
    have dm877 : ∀ t, Steps p.tables e below (T872.setTop (mkF m 312 #[oJ q1, oS, oJ q2, oS, oJ q3, oS, oJ q4, oS, oI p5, oI p6, oJ hh1, oS, oJ ll1, oS, oJ hh2, oS, oJ q4, oS, oI dd, oI pp, oI sw, oI ca, oJ yh, oS, oJ yl, oS, oJ nh, oS, oJ nl, oS, oA a, oJ yh, oS, oJ yl, oS, oI (if yh < (0 : Int64) then (-1 : Int32) else (if yh = (0 : Int64) then (if yl = (0 : Int64) then (0 : Int32) else (1 : Int32)) else (1 : Int32))), oU] [])) t → Steps p.tables e below (T872.setTop (mkF m 280 #[oJ q1, oS, oJ q2, oS, oJ q3, oS, oJ q4, oS, oI p5, oI p6, oJ hh1, oS, oJ ll1, oS, oJ hh2, oS, oJ q4, oS, oI dd, oI pp, oI sw, oI ca, oJ yh, oS, oJ yl, oS, oJ nh, oS, oJ nl, oS, oA a, oJ yh, oS, oJ yl, oS, oU, oU] [(.int (lcmpW yh (0 : Int64)))])) t := by
      intro t k
      by_cases hc280_874 : yh < (0 : Int64)
      · refine XS.ifNo X872.here hx rfl (hb hby at_280) rfl ((if0 _ _).trans (tlt ((lw_lt _ _).mpr hc280_874)).2.1) (XS.iconst X872.here hx rfl (hb hby at_283) (XS.istore X872.here hx rfl (hb hby at_284) rfl (l' := #[oJ q1, oS, oJ q2, oS, oJ q3, oS, oJ q4, oS, oI p5, oI p6, oJ hh1, oS, oJ ll1, oS, oJ hh2, oS, oJ q4, oS, oI dd, oI pp, oI sw, oI ca, oJ yh, oS, oJ yl, oS, oJ nh, oS, oJ nl, oS, oA a, oJ yh, oS, oJ yl, oS, oI (-1 : Int32), oU]) rfl (XS.goto X872.here hx rfl (pc0 := 286) (pc' := 312) rfl (hb hby at_286) (by decide) (by decide) ?_)))
        show Steps p.tables e below (T872.setTop (mkF m 312 #[oJ q1, oS, oJ q2, oS, oJ q3, oS, oJ q4, oS, oI p5, oI p6, oJ hh1, oS, oJ ll1, oS, oJ hh2, oS, oJ q4, oS, oI dd, oI pp, oI sw, oI ca, oJ yh, oS, oJ yl, oS, oJ nh, oS, oJ nl, oS, oA a, oJ yh, oS, oJ yl, oS, oI (-1 : Int32), oU] [])) t
        simp only [if_pos hc280_874] at k
        exact k
      · refine XS.ifYes X872.here hx rfl (pc0 := 280) (pc' := 289) rfl (hb hby at_280) rfl ((if0 _ _).trans (flt (fun q => hc280_874 ((lw_lt _ _).mp q))).2.1) (by decide) (by decide) (XS.lload X872.here hx rfl (hb hby at_289) rfl (XS.lconst X872.here hx rfl (hb hby at_291) (XS.lcmp X872.here hx rfl (hb hby at_292) rfl ?_)))
        show Steps p.tables e below (T872.setTop (mkF m 293 #[oJ q1, oS, oJ q2, oS, oJ q3, oS, oJ q4, oS, oI p5, oI p6, oJ hh1, oS, oJ ll1, oS, oJ hh2, oS, oJ q4, oS, oI dd, oI pp, oI sw, oI ca, oJ yh, oS, oJ yl, oS, oJ nh, oS, oJ nl, oS, oA a, oJ yh, oS, oJ yl, oS, oU, oU] [(.int (lcmpW yh (0 : Int64)))])) t
        by_cases hc293_875 : yh = (0 : Int64)
        · refine XS.ifNo X872.here hx rfl (hb hby at_293) rfl ((if0 _ _).trans (teq ((lw_eq _ _).mpr hc293_875)).2) (XS.lload X872.here hx rfl (hb hby at_296) rfl (XS.lconst X872.here hx rfl (hb hby at_298) (XS.lcmp X872.here hx rfl (hb hby at_299) rfl ?_)))
          show Steps p.tables e below (T872.setTop (mkF m 300 #[oJ q1, oS, oJ q2, oS, oJ q3, oS, oJ q4, oS, oI p5, oI p6, oJ hh1, oS, oJ ll1, oS, oJ hh2, oS, oJ q4, oS, oI dd, oI pp, oI sw, oI ca, oJ yh, oS, oJ yl, oS, oJ nh, oS, oJ nl, oS, oA a, oJ yh, oS, oJ yl, oS, oU, oU] [(.int (lcmpW yl (0 : Int64)))])) t
          by_cases hc300_876 : yl = (0 : Int64)
          · refine XS.ifNo X872.here hx rfl (hb hby at_300) rfl ((if0 _ _).trans (teq ((lw_eq _ _).mpr hc300_876)).2) (XS.iconst X872.here hx rfl (hb hby at_303) (XS.istore X872.here hx rfl (hb hby at_304) rfl (l' := #[oJ q1, oS, oJ q2, oS, oJ q3, oS, oJ q4, oS, oI p5, oI p6, oJ hh1, oS, oJ ll1, oS, oJ hh2, oS, oJ q4, oS, oI dd, oI pp, oI sw, oI ca, oJ yh, oS, oJ yl, oS, oJ nh, oS, oJ nl, oS, oA a, oJ yh, oS, oJ yl, oS, oI (0 : Int32), oU]) rfl (XS.goto X872.here hx rfl (pc0 := 306) (pc' := 312) rfl (hb hby at_306) (by decide) (by decide) ?_)))
            show Steps p.tables e below (T872.setTop (mkF m 312 #[oJ q1, oS, oJ q2, oS, oJ q3, oS, oJ q4, oS, oI p5, oI p6, oJ hh1, oS, oJ ll1, oS, oJ hh2, oS, oJ q4, oS, oI dd, oI pp, oI sw, oI ca, oJ yh, oS, oJ yl, oS, oJ nh, oS, oJ nl, oS, oA a, oJ yh, oS, oJ yl, oS, oI (0 : Int32), oU] [])) t
            simp only [if_neg hc280_874, if_pos hc293_875, if_pos hc300_876] at k
            exact k
          · refine XS.ifYes X872.here hx rfl (pc0 := 300) (pc' := 309) rfl (hb hby at_300) rfl ((if0 _ _).trans (feq (fun q => hc300_876 ((lw_eq _ _).mp q))).2) (by decide) (by decide) (XS.iconst X872.here hx rfl (hb hby at_309) (XS.istore X872.here hx rfl (hb hby at_310) rfl (l' := #[oJ q1, oS, oJ q2, oS, oJ q3, oS, oJ q4, oS, oI p5, oI p6, oJ hh1, oS, oJ ll1, oS, oJ hh2, oS, oJ q4, oS, oI dd, oI pp, oI sw, oI ca, oJ yh, oS, oJ yl, oS, oJ nh, oS, oJ nl, oS, oA a, oJ yh, oS, oJ yl, oS, oI (1 : Int32), oU]) rfl ?_))
            show Steps p.tables e below (T872.setTop (mkF m 312 #[oJ q1, oS, oJ q2, oS, oJ q3, oS, oJ q4, oS, oI p5, oI p6, oJ hh1, oS, oJ ll1, oS, oJ hh2, oS, oJ q4, oS, oI dd, oI pp, oI sw, oI ca, oJ yh, oS, oJ yl, oS, oJ nh, oS, oJ nl, oS, oA a, oJ yh, oS, oJ yl, oS, oI (1 : Int32), oU] [])) t
            simp only [if_neg hc280_874, if_pos hc293_875, if_neg hc300_876] at k
            exact k
        · refine XS.ifYes X872.here hx rfl (pc0 := 293) (pc' := 309) rfl (hb hby at_293) rfl ((if0 _ _).trans (feq (fun q => hc293_875 ((lw_eq _ _).mp q))).2) (by decide) (by decide) (XS.iconst X872.here hx rfl (hb hby at_309) (XS.istore X872.here hx rfl (hb hby at_310) rfl (l' := #[oJ q1, oS, oJ q2, oS, oJ q3, oS, oJ q4, oS, oI p5, oI p6, oJ hh1, oS, oJ ll1, oS, oJ hh2, oS, oJ q4, oS, oI dd, oI pp, oI sw, oI ca, oJ yh, oS, oJ yl, oS, oJ nh, oS, oJ nl, oS, oA a, oJ yh, oS, oJ yl, oS, oI (1 : Int32), oU]) rfl ?_))
          show Steps p.tables e below (T872.setTop (mkF m 312 #[oJ q1, oS, oJ q2, oS, oJ q3, oS, oJ q4, oS, oI p5, oI p6, oJ hh1, oS, oJ ll1, oS, oJ hh2, oS, oJ q4, oS, oI dd, oI pp, oI sw, oI ca, oJ yh, oS, oJ yl, oS, oJ nh, oS, oJ nl, oS, oA a, oJ yh, oS, oJ yl, oS, oI (1 : Int32), oU] [])) t
          simp only [if_neg hc280_874, if_neg hc293_875] at k
          exact k
    refine up ?_ dm877
    show own_G (T872.setTop (mkF m 312 #[oJ q1, oS, oJ q2, oS, oJ q3, oS, oJ q4, oS, oI p5, oI p6, oJ hh1, oS, oJ ll1, oS, oJ hh2, oS, oJ q4, oS, oI dd, oI pp, oI sw, oI ca, oJ yh, oS, oJ yl, oS, oJ nh, oS, oJ nl, oS, oA a, oJ yh, oS, oJ yl, oS, oI (if yh < (0 : Int64) then (-1 : Int32) else (if yh = (0 : Int64) then (if yl = (0 : Int64) then (0 : Int32) else (1 : Int32)) else (1 : Int32))), oU] []))
    obtain ⟨ex, h_ex⟩ : ∃ z, z = (if yh < (0 : Int64) then (-1 : Int32) else (if yh = (0 : Int64) then (if yl = (0 : Int64) then (0 : Int32) else (1 : Int32)) else (1 : Int32))) := ⟨_, rfl⟩
    rw [← h_ex]
    show own_G (T872.setTop (mkF m 312 #[oJ q1, oS, oJ q2, oS, oJ q3, oS, oJ q4, oS, oI p5, oI p6, oJ hh1, oS, oJ ll1, oS, oJ hh2, oS, oJ q4, oS, oI dd, oI pp, oI sw, oI ca, oJ yh, oS, oJ yl, oS, oJ nh, oS, oJ nl, oS, oA a, oJ yh, oS, oJ yl, oS, oI ex, oU] []))
    refine up ?_ fun t k => XS.aload X872.here hx rfl (hb hby at_312) rfl rfl k
    show own_G (T872.setTop (mkF m 314 #[oJ q1, oS, oJ q2, oS, oJ q3, oS, oJ q4, oS, oI p5, oI p6, oJ hh1, oS, oJ ll1, oS, oJ hh2, oS, oJ q4, oS, oI dd, oI pp, oI sw, oI ca, oJ yh, oS, oJ yl, oS, oJ nh, oS, oJ nl, oS, oA a, oJ yh, oS, oJ yl, oS, oI ex, oU] [(.ref a)]))
    obtain ⟨cq878, kq878, q878a, q878b, q878c⟩ := isOf hZ rfl Es872
    obtain ⟨_, _, ⟨T878, L878, k878, n878⟩, -, X878, ⟨Lc878, hQ878, l878, y878, z878⟩, st878⟩ := X872.virtualBack hx (y := (⟨"com/example/eventweir/eventweir/ExactSum", "signum", "()I"⟩ : MethodName)) (z := (⟨"com/example/eventweir/eventweir/ExactSum", "signum", "()I"⟩ : MethodName)) hown (mvT hZ (hw _ (own_m 54 rfl))) (mvT hZ (hw _ (own_m 55 rfl))) (notFace_of_selects (args := #[]) (mvT hZ (hw _ (own_m 57 rfl)))) (mvT hZ (hw _ (own_m 57 rfl))) (mvT hZ (hw _ (own_m 56 rfl))) (by decide) (backOf (W := 0) (own_sigSt l Z a0 hw a u871 v871 r871 T872.heap n0 Zs873 St872 g_a) hZ (hw _ (own_m 58 rfl)) (hw _ (own_m 4 rfl)) (by decide) (by decide)) q878a q878c (g := (mkF m 314 #[oJ q1, oS, oJ q2, oS, oJ q3, oS, oJ q4, oS, oI p5, oI p6, oJ hh1, oS, oJ ll1, oS, oJ hh2, oS, oJ q4, oS, oI dd, oI pp, oI sw, oI ca, oJ yh, oS, oJ yl, oS, oJ nh, oS, oJ nl, oS, oA a, oJ yh, oS, oJ yl, oS, oI ex, oU] [(.ref a)])) rfl (by rw [hml]; rfl) (Steps.refl _) (argsL := []) (rest := []) (lenOf own_pd9 rfl) rfl (by show 2 * 0 + _ ≤ _; exact Nat.le_of_eq rfl) (hb hby at_314) (fun _ _ => ⟨rfl, rfl, (by decide : 7 + 0 ≤ _), (by decide : 27 + 0 ≤ _)⟩)
    dsimp only [Pt.U, Pt.locs, Pt.cells, Pt.slots] at X878 l878 y878 z878 st878 hQ878
    subst l878 y878 z878
    obtain ⟨rfl, Nq878, e878⟩ := hQ878
    have N878 := Fr.app N872 Nq878
    refine up ?_ (fun t k => st878.trans k)
    show own_G (T878.setTop (mkF m 317 #[oJ q1, oS, oJ q2, oS, oJ q3, oS, oJ q4, oS, oI p5, oI p6, oJ hh1, oS, oJ ll1, oS, oJ hh2, oS, oJ q4, oS, oI dd, oI pp, oI sw, oI ca, oJ yh, oS, oJ yl, oS, oJ nh, oS, oJ nl, oS, oA a, oJ yh, oS, oJ yl, oS, oI ex, oU] [(.int (own_sgn (own_val u871 v871)))]))
    refine up ?_ fun t k => XS.iload X878.here hx rfl (hb hby at_317) rfl k
    show own_G (T878.setTop (mkF m 319 #[oJ q1, oS, oJ q2, oS, oJ q3, oS, oJ q4, oS, oI p5, oI p6, oJ hh1, oS, oJ ll1, oS, oJ hh2, oS, oJ q4, oS, oI dd, oI pp, oI sw, oI ca, oJ yh, oS, oJ yl, oS, oJ nh, oS, oJ nl, oS, oA a, oJ yh, oS, oJ yl, oS, oI ex, oU] [(.int ex), (.int (own_sgn (own_val u871 v871)))]))
    refine up ?_ fun t k => XS.icmpNo X878.here hx rfl (hb hby at_319) rfl (teq (by rw [h_ex, own_exp]; exact own_sgk _ _ _ hd871 (by rw [hv871, hN]; omega) : ((own_sgn (own_val u871 v871)) = ex))).2 (XS.iconst X878.here hx rfl (hb hby at_322) (XS.goto X878.here hx rfl (pc0 := 323) (pc' := 327) rfl (hb hby at_323) (by decide) (by decide) k))
    show own_G (T878.setTop (mkF m 327 #[oJ q1, oS, oJ q2, oS, oJ q3, oS, oJ q4, oS, oI p5, oI p6, oJ hh1, oS, oJ ll1, oS, oJ hh2, oS, oJ q4, oS, oI dd, oI pp, oI sw, oI ca, oJ yh, oS, oJ yl, oS, oJ nh, oS, oJ nl, oS, oA a, oJ yh, oS, oJ yl, oS, oI ex, oU] [(.int (1 : Int32))]))
    exact own_retI X878 hx hlk hret (by simp) rfl (hb hby at_327) ⟨rfl, N878⟩ (by decide) (by decide)
theorem own_pn2 : plainName "com/example/eventweir/eventweir/ExactSumSignumPinLaw" = true := by first | (simp [plainName, overriddenIn]; done) | decide +kernel
theorem own_ef_rm0 (m : MethodId) (x0 : Int64) (x1 : Int64) (x2 : Int64) (x3 : Int64) (x4 : Int32) (x5 : Int32) : entryFrame m #[(.long x0), (.long x1), (.long x2), (.long x3), (.int x4), (.int x5)] maxLocals = mkF m 0 #[oJ x0, .second, oJ x1, .second, oJ x2, .second, oJ x3, .second, oI x4, oI x5, .unset, .unset, .unset, .unset, .unset, .unset, .unset, .unset, .unset, .unset, .unset, .unset, .unset, .unset, .unset, .unset, .unset, .unset, .unset, .unset, .unset, .unset, .unset, .unset, .unset, .unset, .unset] [] := by first | (simp [entryFrame, mkF, argsToLocals, Value.category, maxLocals]; done) | rfl
theorem rm0 (l : Launch) (Z : State) (a0 : Array Value) (hw : own_W Z a0) (ws : List Jvm.Cond) (q1 : Int64) (q2 : Int64) (q3 : Int64) (q4 : Int64) (p5 : Int32) (p6 : Int32) (rn : Addr) (kn : ClassId) (h0 : Heap) (n0 : Nat) (Z0 : n0 ≤ h0.size) (S_n : Sta Z h0 "com/example/eventweir/eventweir/ExactSum" "NONE" "[J" (.ref rn)) (V_n : Arv Z h0 rn kn .long (0 : Int32) [] (.long (0 : Int64))) :
    own_M l Z x code maxLocals ret ws room_1 #[(.long q1), (.long q2), (.long q3), (.long q4), (.int p5), (.int p6)] h0 (own_Q_law Z  h0 n0) := by
  refine own_body (plainFor_of_name own_pn2) ?_
  intro p e s m below meth c s₁ hx hZ hby hml hown hnm hlk hret X0 e0
  have N0 := Fr.nil n0
  have hml : c.maxLocals = 37 := hml
  refine up (U' := s₁.setTop (mkF m 0 #[oJ q1, oS, oJ q2, oS, oJ q3, oS, oJ q4, oS, oI p5, oI p6, oU, oU, oU, oU, oU, oU, oU, oU, oU, oU, oU, oU, oU, oU, oU, oU, oU, oU, oU, oU, oU, oU, oU, oU, oU, oU, oU] [])) ?_ (fun t k => castTop (own_ef_rm0 m q1 q2 q3 q4 p5 p6) k)
  refine up ?_ fun t k => XS.lloadN X0.here hx rfl (hb hby at_0) rfl (XS.iconst X0.here hx rfl (hb hby at_1) (XS.lshr X0.here hx rfl (hb hby at_2) rfl (XS.lstore X0.here hx rfl (hb hby at_3) rfl (l' := #[oJ q1, oS, oJ q2, oS, oJ q3, oS, oJ q4, oS, oI p5, oI p6, oJ (q1 >>> ((1 : Int32) &&& 0x3f).toInt64), oS, oU, oU, oU, oU, oU, oU, oU, oU, oU, oU, oU, oU, oU, oU, oU, oU, oU, oU, oU, oU, oU, oU, oU, oU, oU]) rfl k)))
  show own_G (s₁.setTop (mkF m 5 #[oJ q1, oS, oJ q2, oS, oJ q3, oS, oJ q4, oS, oI p5, oI p6, oJ (q1 >>> ((1 : Int32) &&& 0x3f).toInt64), oS, oU, oU, oU, oU, oU, oU, oU, oU, oU, oU, oU, oU, oU, oU, oU, oU, oU, oU, oU, oU, oU, oU, oU, oU, oU] []))
  obtain ⟨hh1, h_hh1⟩ : ∃ z, z = (q1 >>> ((1 : Int32) &&& 0x3f).toInt64) := ⟨_, rfl⟩
  rw [← h_hh1]
  show own_G (s₁.setTop (mkF m 5 #[oJ q1, oS, oJ q2, oS, oJ q3, oS, oJ q4, oS, oI p5, oI p6, oJ hh1, oS, oU, oU, oU, oU, oU, oU, oU, oU, oU, oU, oU, oU, oU, oU, oU, oU, oU, oU, oU, oU, oU, oU, oU, oU, oU] []))
  refine up ?_ fun t k => XS.lloadN X0.here hx rfl (hb hby at_5) rfl (XS.lstore X0.here hx rfl (hb hby at_6) rfl (l' := #[oJ q1, oS, oJ q2, oS, oJ q3, oS, oJ q4, oS, oI p5, oI p6, oJ hh1, oS, oJ q2, oS, oU, oU, oU, oU, oU, oU, oU, oU, oU, oU, oU, oU, oU, oU, oU, oU, oU, oU, oU, oU, oU, oU, oU]) rfl (XS.lload X0.here hx rfl (hb hby at_8) rfl k))
  show own_G (s₁.setTop (mkF m 10 #[oJ q1, oS, oJ q2, oS, oJ q3, oS, oJ q4, oS, oI p5, oI p6, oJ hh1, oS, oJ q2, oS, oU, oU, oU, oU, oU, oU, oU, oU, oU, oU, oU, oU, oU, oU, oU, oU, oU, oU, oU, oU, oU, oU, oU] [(.long hh1)]))
  refine up ?_ fun t k => X0.ldc2Long hx hown (mvT hZ (hw _ (own_m 0 rfl))) (g := (mkF m 10 #[oJ q1, oS, oJ q2, oS, oJ q3, oS, oJ q4, oS, oI p5, oI p6, oJ hh1, oS, oJ q2, oS, oU, oU, oU, oU, oU, oU, oU, oU, oU, oU, oU, oU, oU, oU, oU, oU, oU, oU, oU, oU, oU, oU, oU] [(.long hh1)])) rfl (hb hby at_10) _ (XS.lcmp X0.here hx rfl (hb hby at_13) rfl k)
  show own_G (s₁.setTop (mkF m 14 #[oJ q1, oS, oJ q2, oS, oJ q3, oS, oJ q4, oS, oI p5, oI p6, oJ hh1, oS, oJ q2, oS, oU, oU, oU, oU, oU, oU, oU, oU, oU, oU, oU, oU, oU, oU, oU, oU, oU, oU, oU, oU, oU, oU, oU] [(.int (lcmpW hh1 (-4611686018427387904 : Int64)))]))
  have dm881 : ∀ t, Steps p.tables e below (s₁.setTop (mkF m 27 #[oJ q1, oS, oJ q2, oS, oJ q3, oS, oJ q4, oS, oI p5, oI p6, oJ hh1, oS, oJ (if hh1 = (-4611686018427387904 : Int64) then (if q2 = (0 : Int64) then (1 : Int64) else q2) else q2), oS, oU, oU, oU, oU, oU, oU, oU, oU, oU, oU, oU, oU, oU, oU, oU, oU, oU, oU, oU, oU, oU, oU, oU] [])) t → Steps p.tables e below (s₁.setTop (mkF m 14 #[oJ q1, oS, oJ q2, oS, oJ q3, oS, oJ q4, oS, oI p5, oI p6, oJ hh1, oS, oJ q2, oS, oU, oU, oU, oU, oU, oU, oU, oU, oU, oU, oU, oU, oU, oU, oU, oU, oU, oU, oU, oU, oU, oU, oU] [(.int (lcmpW hh1 (-4611686018427387904 : Int64)))])) t := by
    intro t k
    by_cases hc14_879 : hh1 = (-4611686018427387904 : Int64)
    · refine XS.ifNo X0.here hx rfl (hb hby at_14) rfl ((if0 _ _).trans (teq ((lw_eq _ _).mpr hc14_879)).2) (XS.lload X0.here hx rfl (hb hby at_17) rfl (XS.lconst X0.here hx rfl (hb hby at_19) (XS.lcmp X0.here hx rfl (hb hby at_20) rfl ?_)))
      show Steps p.tables e below (s₁.setTop (mkF m 21 #[oJ q1, oS, oJ q2, oS, oJ q3, oS, oJ q4, oS, oI p5, oI p6, oJ hh1, oS, oJ q2, oS, oU, oU, oU, oU, oU, oU, oU, oU, oU, oU, oU, oU, oU, oU, oU, oU, oU, oU, oU, oU, oU, oU, oU] [(.int (lcmpW q2 (0 : Int64)))])) t
      by_cases hc21_880 : q2 = (0 : Int64)
      · refine XS.ifNo X0.here hx rfl (hb hby at_21) rfl ((if0 _ _).trans (teq ((lw_eq _ _).mpr hc21_880)).2) (XS.lconst X0.here hx rfl (hb hby at_24) (XS.lstore X0.here hx rfl (hb hby at_25) rfl (l' := #[oJ q1, oS, oJ q2, oS, oJ q3, oS, oJ q4, oS, oI p5, oI p6, oJ hh1, oS, oJ (1 : Int64), oS, oU, oU, oU, oU, oU, oU, oU, oU, oU, oU, oU, oU, oU, oU, oU, oU, oU, oU, oU, oU, oU, oU, oU]) rfl ?_))
        show Steps p.tables e below (s₁.setTop (mkF m 27 #[oJ q1, oS, oJ q2, oS, oJ q3, oS, oJ q4, oS, oI p5, oI p6, oJ hh1, oS, oJ (1 : Int64), oS, oU, oU, oU, oU, oU, oU, oU, oU, oU, oU, oU, oU, oU, oU, oU, oU, oU, oU, oU, oU, oU, oU, oU] [])) t
        simp only [if_pos hc14_879, if_pos hc21_880] at k
        exact k
      · refine XS.ifYes X0.here hx rfl (pc0 := 21) (pc' := 27) rfl (hb hby at_21) rfl ((if0 _ _).trans (feq (fun q => hc21_880 ((lw_eq _ _).mp q))).2) (by decide) (by decide) ?_
        show Steps p.tables e below (s₁.setTop (mkF m 27 #[oJ q1, oS, oJ q2, oS, oJ q3, oS, oJ q4, oS, oI p5, oI p6, oJ hh1, oS, oJ q2, oS, oU, oU, oU, oU, oU, oU, oU, oU, oU, oU, oU, oU, oU, oU, oU, oU, oU, oU, oU, oU, oU, oU, oU] [])) t
        simp only [if_pos hc14_879, if_neg hc21_880] at k
        exact k
    · refine XS.ifYes X0.here hx rfl (pc0 := 14) (pc' := 27) rfl (hb hby at_14) rfl ((if0 _ _).trans (feq (fun q => hc14_879 ((lw_eq _ _).mp q))).2) (by decide) (by decide) ?_
      show Steps p.tables e below (s₁.setTop (mkF m 27 #[oJ q1, oS, oJ q2, oS, oJ q3, oS, oJ q4, oS, oI p5, oI p6, oJ hh1, oS, oJ q2, oS, oU, oU, oU, oU, oU, oU, oU, oU, oU, oU, oU, oU, oU, oU, oU, oU, oU, oU, oU, oU, oU, oU, oU] [])) t
      simp only [if_neg hc14_879] at k
      exact k
  refine up ?_ dm881
  show own_G (s₁.setTop (mkF m 27 #[oJ q1, oS, oJ q2, oS, oJ q3, oS, oJ q4, oS, oI p5, oI p6, oJ hh1, oS, oJ (if hh1 = (-4611686018427387904 : Int64) then (if q2 = (0 : Int64) then (1 : Int64) else q2) else q2), oS, oU, oU, oU, oU, oU, oU, oU, oU, oU, oU, oU, oU, oU, oU, oU, oU, oU, oU, oU, oU, oU, oU, oU] []))
  obtain ⟨ll1, h_ll1⟩ : ∃ z, z = (if hh1 = (-4611686018427387904 : Int64) then (if q2 = (0 : Int64) then (1 : Int64) else q2) else q2) := ⟨_, rfl⟩
  rw [← h_ll1]
  show own_G (s₁.setTop (mkF m 27 #[oJ q1, oS, oJ q2, oS, oJ q3, oS, oJ q4, oS, oI p5, oI p6, oJ hh1, oS, oJ ll1, oS, oU, oU, oU, oU, oU, oU, oU, oU, oU, oU, oU, oU, oU, oU, oU, oU, oU, oU, oU, oU, oU, oU, oU] []))
  refine up ?_ fun t k => XS.lload X0.here hx rfl (hb hby at_27) rfl (XS.iconst X0.here hx rfl (hb hby at_29) (XS.lshr X0.here hx rfl (hb hby at_30) rfl (XS.lstore X0.here hx rfl (hb hby at_31) rfl (l' := #[oJ q1, oS, oJ q2, oS, oJ q3, oS, oJ q4, oS, oI p5, oI p6, oJ hh1, oS, oJ ll1, oS, oJ (q3 >>> ((4 : Int32) &&& 0x3f).toInt64), oS, oU, oU, oU, oU, oU, oU, oU, oU, oU, oU, oU, oU, oU, oU, oU, oU, oU, oU, oU, oU, oU]) rfl k)))
  show own_G (s₁.setTop (mkF m 33 #[oJ q1, oS, oJ q2, oS, oJ q3, oS, oJ q4, oS, oI p5, oI p6, oJ hh1, oS, oJ ll1, oS, oJ (q3 >>> ((4 : Int32) &&& 0x3f).toInt64), oS, oU, oU, oU, oU, oU, oU, oU, oU, oU, oU, oU, oU, oU, oU, oU, oU, oU, oU, oU, oU, oU] []))
  obtain ⟨hh2, h_hh2⟩ : ∃ z, z = (q3 >>> ((4 : Int32) &&& 0x3f).toInt64) := ⟨_, rfl⟩
  rw [← h_hh2]
  show own_G (s₁.setTop (mkF m 33 #[oJ q1, oS, oJ q2, oS, oJ q3, oS, oJ q4, oS, oI p5, oI p6, oJ hh1, oS, oJ ll1, oS, oJ hh2, oS, oU, oU, oU, oU, oU, oU, oU, oU, oU, oU, oU, oU, oU, oU, oU, oU, oU, oU, oU, oU, oU] []))
  refine up ?_ fun t k => XS.lload X0.here hx rfl (hb hby at_33) rfl (XS.lstore X0.here hx rfl (hb hby at_35) rfl (l' := #[oJ q1, oS, oJ q2, oS, oJ q3, oS, oJ q4, oS, oI p5, oI p6, oJ hh1, oS, oJ ll1, oS, oJ hh2, oS, oJ q4, oS, oU, oU, oU, oU, oU, oU, oU, oU, oU, oU, oU, oU, oU, oU, oU, oU, oU, oU, oU]) rfl (XS.iload X0.here hx rfl (hb hby at_37) rfl (XS.iconst X0.here hx rfl (hb hby at_39) (XS.iand X0.here hx rfl (hb hby at_40) rfl (XS.istore X0.here hx rfl (hb hby at_41) rfl (l' := #[oJ q1, oS, oJ q2, oS, oJ q3, oS, oJ q4, oS, oI p5, oI p6, oJ hh1, oS, oJ ll1, oS, oJ hh2, oS, oJ q4, oS, oI (p6 &&& (3 : Int32)), oU, oU, oU, oU, oU, oU, oU, oU, oU, oU, oU, oU, oU, oU, oU, oU, oU, oU]) rfl k)))))
  show own_G (s₁.setTop (mkF m 43 #[oJ q1, oS, oJ q2, oS, oJ q3, oS, oJ q4, oS, oI p5, oI p6, oJ hh1, oS, oJ ll1, oS, oJ hh2, oS, oJ q4, oS, oI (p6 &&& (3 : Int32)), oU, oU, oU, oU, oU, oU, oU, oU, oU, oU, oU, oU, oU, oU, oU, oU, oU, oU] []))
  obtain ⟨dd, h_dd⟩ : ∃ z, z = (p6 &&& (3 : Int32)) := ⟨_, rfl⟩
  rw [← h_dd]
  show own_G (s₁.setTop (mkF m 43 #[oJ q1, oS, oJ q2, oS, oJ q3, oS, oJ q4, oS, oI p5, oI p6, oJ hh1, oS, oJ ll1, oS, oJ hh2, oS, oJ q4, oS, oI dd, oU, oU, oU, oU, oU, oU, oU, oU, oU, oU, oU, oU, oU, oU, oU, oU, oU, oU] []))
  refine up ?_ fun t k => XS.iload X0.here hx rfl (hb hby at_43) rfl (XS.iconst X0.here hx rfl (hb hby at_45) (XS.ishr X0.here hx rfl (hb hby at_46) rfl (XS.istore X0.here hx rfl (hb hby at_47) rfl (l' := #[oJ q1, oS, oJ q2, oS, oJ q3, oS, oJ q4, oS, oI p5, oI p6, oJ hh1, oS, oJ ll1, oS, oJ hh2, oS, oJ q4, oS, oI dd, oI (p5 >>> ((2 : Int32) &&& 31)), oU, oU, oU, oU, oU, oU, oU, oU, oU, oU, oU, oU, oU, oU, oU, oU, oU]) rfl k)))
  show own_G (s₁.setTop (mkF m 49 #[oJ q1, oS, oJ q2, oS, oJ q3, oS, oJ q4, oS, oI p5, oI p6, oJ hh1, oS, oJ ll1, oS, oJ hh2, oS, oJ q4, oS, oI dd, oI (p5 >>> ((2 : Int32) &&& 31)), oU, oU, oU, oU, oU, oU, oU, oU, oU, oU, oU, oU, oU, oU, oU, oU, oU] []))
  obtain ⟨pp, h_pp⟩ : ∃ z, z = (p5 >>> ((2 : Int32) &&& 31)) := ⟨_, rfl⟩
  rw [← h_pp]
  show own_G (s₁.setTop (mkF m 49 #[oJ q1, oS, oJ q2, oS, oJ q3, oS, oJ q4, oS, oI p5, oI p6, oJ hh1, oS, oJ ll1, oS, oJ hh2, oS, oJ q4, oS, oI dd, oI pp, oU, oU, oU, oU, oU, oU, oU, oU, oU, oU, oU, oU, oU, oU, oU, oU, oU] []))
  refine up ?_ fun t k => XS.iload X0.here hx rfl (hb hby at_49) rfl (XS.iconst X0.here hx rfl (hb hby at_51) (XS.iand X0.here hx rfl (hb hby at_52) rfl k))
  show own_G (s₁.setTop (mkF m 53 #[oJ q1, oS, oJ q2, oS, oJ q3, oS, oJ q4, oS, oI p5, oI p6, oJ hh1, oS, oJ ll1, oS, oJ hh2, oS, oJ q4, oS, oI dd, oI pp, oU, oU, oU, oU, oU, oU, oU, oU, oU, oU, oU, oU, oU, oU, oU, oU, oU] [(.int (p6 &&& (4 : Int32)))]))
  have dm883 : ∀ t, Steps p.tables e below (s₁.setTop (mkF m 61 #[oJ q1, oS, oJ q2, oS, oJ q3, oS, oJ q4, oS, oI p5, oI p6, oJ hh1, oS, oJ ll1, oS, oJ hh2, oS, oJ q4, oS, oI dd, oI pp, oU, oU, oU, oU, oU, oU, oU, oU, oU, oU, oU, oU, oU, oU, oU, oU, oU] [(.int (if (p6 &&& (4 : Int32)) = (0 : Int32) then (0 : Int32) else (1 : Int32)))])) t → Steps p.tables e below (s₁.setTop (mkF m 53 #[oJ q1, oS, oJ q2, oS, oJ q3, oS, oJ q4, oS, oI p5, oI p6, oJ hh1, oS, oJ ll1, oS, oJ hh2, oS, oJ q4, oS, oI dd, oI pp, oU, oU, oU, oU, oU, oU, oU, oU, oU, oU, oU, oU, oU, oU, oU, oU, oU] [(.int (p6 &&& (4 : Int32)))])) t := by
    intro t k
    by_cases hc53_882 : (p6 &&& (4 : Int32)) = (0 : Int32)
    · refine XS.ifYes X0.here hx rfl (pc0 := 53) (pc' := 60) rfl (hb hby at_53) rfl ((if0 _ _).trans (teq hc53_882).1) (by decide) (by decide) (XS.iconst X0.here hx rfl (hb hby at_60) ?_)
      show Steps p.tables e below (s₁.setTop (mkF m 61 #[oJ q1, oS, oJ q2, oS, oJ q3, oS, oJ q4, oS, oI p5, oI p6, oJ hh1, oS, oJ ll1, oS, oJ hh2, oS, oJ q4, oS, oI dd, oI pp, oU, oU, oU, oU, oU, oU, oU, oU, oU, oU, oU, oU, oU, oU, oU, oU, oU] [(.int (0 : Int32))])) t
      simp only [if_pos hc53_882] at k
      exact k
    · refine XS.ifNo X0.here hx rfl (hb hby at_53) rfl ((if0 _ _).trans (feq hc53_882).1) (XS.iconst X0.here hx rfl (hb hby at_56) (XS.goto X0.here hx rfl (pc0 := 57) (pc' := 61) rfl (hb hby at_57) (by decide) (by decide) ?_))
      show Steps p.tables e below (s₁.setTop (mkF m 61 #[oJ q1, oS, oJ q2, oS, oJ q3, oS, oJ q4, oS, oI p5, oI p6, oJ hh1, oS, oJ ll1, oS, oJ hh2, oS, oJ q4, oS, oI dd, oI pp, oU, oU, oU, oU, oU, oU, oU, oU, oU, oU, oU, oU, oU, oU, oU, oU, oU] [(.int (1 : Int32))])) t
      simp only [if_neg hc53_882] at k
      exact k
  refine up ?_ dm883
  show own_G (s₁.setTop (mkF m 61 #[oJ q1, oS, oJ q2, oS, oJ q3, oS, oJ q4, oS, oI p5, oI p6, oJ hh1, oS, oJ ll1, oS, oJ hh2, oS, oJ q4, oS, oI dd, oI pp, oU, oU, oU, oU, oU, oU, oU, oU, oU, oU, oU, oU, oU, oU, oU, oU, oU] [(.int (if (p6 &&& (4 : Int32)) = (0 : Int32) then (0 : Int32) else (1 : Int32)))]))
  obtain ⟨sw, h_sw⟩ : ∃ z, z = (if (p6 &&& (4 : Int32)) = (0 : Int32) then (0 : Int32) else (1 : Int32)) := ⟨_, rfl⟩
  rw [← h_sw]
  show own_G (s₁.setTop (mkF m 61 #[oJ q1, oS, oJ q2, oS, oJ q3, oS, oJ q4, oS, oI p5, oI p6, oJ hh1, oS, oJ ll1, oS, oJ hh2, oS, oJ q4, oS, oI dd, oI pp, oU, oU, oU, oU, oU, oU, oU, oU, oU, oU, oU, oU, oU, oU, oU, oU, oU] [(.int sw)]))
  refine up ?_ fun t k => XS.istore X0.here hx rfl (hb hby at_61) rfl (l' := #[oJ q1, oS, oJ q2, oS, oJ q3, oS, oJ q4, oS, oI p5, oI p6, oJ hh1, oS, oJ ll1, oS, oJ hh2, oS, oJ q4, oS, oI dd, oI pp, oI sw, oU, oU, oU, oU, oU, oU, oU, oU, oU, oU, oU, oU, oU, oU, oU, oU]) rfl (XS.iload X0.here hx rfl (hb hby at_63) rfl (XS.bipush X0.here hx rfl (hb hby at_65) (XS.iand X0.here hx rfl (hb hby at_67) rfl k)))
  show own_G (s₁.setTop (mkF m 68 #[oJ q1, oS, oJ q2, oS, oJ q3, oS, oJ q4, oS, oI p5, oI p6, oJ hh1, oS, oJ ll1, oS, oJ hh2, oS, oJ q4, oS, oI dd, oI pp, oI sw, oU, oU, oU, oU, oU, oU, oU, oU, oU, oU, oU, oU, oU, oU, oU, oU] [(.int (p6 &&& (8 : Int32)))]))
  have dm885 : ∀ t, Steps p.tables e below (s₁.setTop (mkF m 76 #[oJ q1, oS, oJ q2, oS, oJ q3, oS, oJ q4, oS, oI p5, oI p6, oJ hh1, oS, oJ ll1, oS, oJ hh2, oS, oJ q4, oS, oI dd, oI pp, oI sw, oU, oU, oU, oU, oU, oU, oU, oU, oU, oU, oU, oU, oU, oU, oU, oU] [(.int (if (p6 &&& (8 : Int32)) = (0 : Int32) then (0 : Int32) else (1 : Int32)))])) t → Steps p.tables e below (s₁.setTop (mkF m 68 #[oJ q1, oS, oJ q2, oS, oJ q3, oS, oJ q4, oS, oI p5, oI p6, oJ hh1, oS, oJ ll1, oS, oJ hh2, oS, oJ q4, oS, oI dd, oI pp, oI sw, oU, oU, oU, oU, oU, oU, oU, oU, oU, oU, oU, oU, oU, oU, oU, oU] [(.int (p6 &&& (8 : Int32)))])) t := by
    intro t k
    by_cases hc68_884 : (p6 &&& (8 : Int32)) = (0 : Int32)
    · refine XS.ifYes X0.here hx rfl (pc0 := 68) (pc' := 75) rfl (hb hby at_68) rfl ((if0 _ _).trans (teq hc68_884).1) (by decide) (by decide) (XS.iconst X0.here hx rfl (hb hby at_75) ?_)
      show Steps p.tables e below (s₁.setTop (mkF m 76 #[oJ q1, oS, oJ q2, oS, oJ q3, oS, oJ q4, oS, oI p5, oI p6, oJ hh1, oS, oJ ll1, oS, oJ hh2, oS, oJ q4, oS, oI dd, oI pp, oI sw, oU, oU, oU, oU, oU, oU, oU, oU, oU, oU, oU, oU, oU, oU, oU, oU] [(.int (0 : Int32))])) t
      simp only [if_pos hc68_884] at k
      exact k
    · refine XS.ifNo X0.here hx rfl (hb hby at_68) rfl ((if0 _ _).trans (feq hc68_884).1) (XS.iconst X0.here hx rfl (hb hby at_71) (XS.goto X0.here hx rfl (pc0 := 72) (pc' := 76) rfl (hb hby at_72) (by decide) (by decide) ?_))
      show Steps p.tables e below (s₁.setTop (mkF m 76 #[oJ q1, oS, oJ q2, oS, oJ q3, oS, oJ q4, oS, oI p5, oI p6, oJ hh1, oS, oJ ll1, oS, oJ hh2, oS, oJ q4, oS, oI dd, oI pp, oI sw, oU, oU, oU, oU, oU, oU, oU, oU, oU, oU, oU, oU, oU, oU, oU, oU] [(.int (1 : Int32))])) t
      simp only [if_neg hc68_884] at k
      exact k
  refine up ?_ dm885
  show own_G (s₁.setTop (mkF m 76 #[oJ q1, oS, oJ q2, oS, oJ q3, oS, oJ q4, oS, oI p5, oI p6, oJ hh1, oS, oJ ll1, oS, oJ hh2, oS, oJ q4, oS, oI dd, oI pp, oI sw, oU, oU, oU, oU, oU, oU, oU, oU, oU, oU, oU, oU, oU, oU, oU, oU] [(.int (if (p6 &&& (8 : Int32)) = (0 : Int32) then (0 : Int32) else (1 : Int32)))]))
  obtain ⟨ca, h_ca⟩ : ∃ z, z = (if (p6 &&& (8 : Int32)) = (0 : Int32) then (0 : Int32) else (1 : Int32)) := ⟨_, rfl⟩
  rw [← h_ca]
  show own_G (s₁.setTop (mkF m 76 #[oJ q1, oS, oJ q2, oS, oJ q3, oS, oJ q4, oS, oI p5, oI p6, oJ hh1, oS, oJ ll1, oS, oJ hh2, oS, oJ q4, oS, oI dd, oI pp, oI sw, oU, oU, oU, oU, oU, oU, oU, oU, oU, oU, oU, oU, oU, oU, oU, oU] [(.int ca)]))
  refine up ?_ fun t k => XS.istore X0.here hx rfl (hb hby at_76) rfl (l' := #[oJ q1, oS, oJ q2, oS, oJ q3, oS, oJ q4, oS, oI p5, oI p6, oJ hh1, oS, oJ ll1, oS, oJ hh2, oS, oJ q4, oS, oI dd, oI pp, oI sw, oI ca, oU, oU, oU, oU, oU, oU, oU, oU, oU, oU, oU, oU, oU, oU, oU]) rfl (XS.iload X0.here hx rfl (hb hby at_78) rfl k)
  show own_G (s₁.setTop (mkF m 80 #[oJ q1, oS, oJ q2, oS, oJ q3, oS, oJ q4, oS, oI p5, oI p6, oJ hh1, oS, oJ ll1, oS, oJ hh2, oS, oJ q4, oS, oI dd, oI pp, oI sw, oI ca, oU, oU, oU, oU, oU, oU, oU, oU, oU, oU, oU, oU, oU, oU, oU] [(.int dd)]))
  have dm887 : ∀ t, Steps p.tables e below (s₁.setTop (mkF m 102 #[oJ q1, oS, oJ q2, oS, oJ q3, oS, oJ q4, oS, oI p5, oI p6, oJ hh1, oS, oJ ll1, oS, oJ hh2, oS, oJ q4, oS, oI dd, oI pp, oI sw, oI ca, oU, oU, oU, oU, oU, oU, oU, oU, oU, oU, oU, oU, oU, oU, oU] [(.long (if dd = (0 : Int32) then hh2 else ((hh2 <<< (dd &&& 0x3f).toInt64) ||| ((q4.toUInt64 >>> (((64 : Int32) - dd) &&& 0x3f).toInt64.toUInt64).toInt64))))])) t → Steps p.tables e below (s₁.setTop (mkF m 80 #[oJ q1, oS, oJ q2, oS, oJ q3, oS, oJ q4, oS, oI p5, oI p6, oJ hh1, oS, oJ ll1, oS, oJ hh2, oS, oJ q4, oS, oI dd, oI pp, oI sw, oI ca, oU, oU, oU, oU, oU, oU, oU, oU, oU, oU, oU, oU, oU, oU, oU] [(.int dd)])) t := by
    intro t k
    by_cases hc80_886 : dd = (0 : Int32)
    · refine XS.ifNo X0.here hx rfl (hb hby at_80) rfl ((if0 _ _).trans (teq hc80_886).2) (XS.lload X0.here hx rfl (hb hby at_83) rfl (XS.goto X0.here hx rfl (pc0 := 85) (pc' := 102) rfl (hb hby at_85) (by decide) (by decide) ?_))
      show Steps p.tables e below (s₁.setTop (mkF m 102 #[oJ q1, oS, oJ q2, oS, oJ q3, oS, oJ q4, oS, oI p5, oI p6, oJ hh1, oS, oJ ll1, oS, oJ hh2, oS, oJ q4, oS, oI dd, oI pp, oI sw, oI ca, oU, oU, oU, oU, oU, oU, oU, oU, oU, oU, oU, oU, oU, oU, oU] [(.long hh2)])) t
      simp only [if_pos hc80_886] at k
      exact k
    · refine XS.ifYes X0.here hx rfl (pc0 := 80) (pc' := 88) rfl (hb hby at_80) rfl ((if0 _ _).trans (feq hc80_886).2) (by decide) (by decide) (XS.lload X0.here hx rfl (hb hby at_88) rfl (XS.iload X0.here hx rfl (hb hby at_90) rfl (XS.lshl X0.here hx rfl (hb hby at_92) rfl (XS.lload X0.here hx rfl (hb hby at_93) rfl (XS.bipush X0.here hx rfl (hb hby at_95) (XS.iload X0.here hx rfl (hb hby at_97) rfl (XS.isub X0.here hx rfl (hb hby at_99) rfl (XS.lushr X0.here hx rfl (hb hby at_100) rfl (XS.lor X0.here hx rfl (hb hby at_101) rfl ?_)))))))))
      show Steps p.tables e below (s₁.setTop (mkF m 102 #[oJ q1, oS, oJ q2, oS, oJ q3, oS, oJ q4, oS, oI p5, oI p6, oJ hh1, oS, oJ ll1, oS, oJ hh2, oS, oJ q4, oS, oI dd, oI pp, oI sw, oI ca, oU, oU, oU, oU, oU, oU, oU, oU, oU, oU, oU, oU, oU, oU, oU] [(.long ((hh2 <<< (dd &&& 0x3f).toInt64) ||| ((q4.toUInt64 >>> (((64 : Int32) - dd) &&& 0x3f).toInt64.toUInt64).toInt64)))])) t
      simp only [if_neg hc80_886] at k
      exact k
  refine up ?_ dm887
  show own_G (s₁.setTop (mkF m 102 #[oJ q1, oS, oJ q2, oS, oJ q3, oS, oJ q4, oS, oI p5, oI p6, oJ hh1, oS, oJ ll1, oS, oJ hh2, oS, oJ q4, oS, oI dd, oI pp, oI sw, oI ca, oU, oU, oU, oU, oU, oU, oU, oU, oU, oU, oU, oU, oU, oU, oU] [(.long (if dd = (0 : Int32) then hh2 else ((hh2 <<< (dd &&& 0x3f).toInt64) ||| ((q4.toUInt64 >>> (((64 : Int32) - dd) &&& 0x3f).toInt64.toUInt64).toInt64))))]))
  obtain ⟨yh, h_yh⟩ : ∃ z, z = (if dd = (0 : Int32) then hh2 else ((hh2 <<< (dd &&& 0x3f).toInt64) ||| ((q4.toUInt64 >>> (((64 : Int32) - dd) &&& 0x3f).toInt64.toUInt64).toInt64))) := ⟨_, rfl⟩
  rw [← h_yh]
  show own_G (s₁.setTop (mkF m 102 #[oJ q1, oS, oJ q2, oS, oJ q3, oS, oJ q4, oS, oI p5, oI p6, oJ hh1, oS, oJ ll1, oS, oJ hh2, oS, oJ q4, oS, oI dd, oI pp, oI sw, oI ca, oU, oU, oU, oU, oU, oU, oU, oU, oU, oU, oU, oU, oU, oU, oU] [(.long yh)]))
  refine up ?_ fun t k => XS.lstore X0.here hx rfl (hb hby at_102) rfl (l' := #[oJ q1, oS, oJ q2, oS, oJ q3, oS, oJ q4, oS, oI p5, oI p6, oJ hh1, oS, oJ ll1, oS, oJ hh2, oS, oJ q4, oS, oI dd, oI pp, oI sw, oI ca, oJ yh, oS, oU, oU, oU, oU, oU, oU, oU, oU, oU, oU, oU, oU, oU]) rfl (XS.lload X0.here hx rfl (hb hby at_104) rfl (XS.iload X0.here hx rfl (hb hby at_106) rfl (XS.lshl X0.here hx rfl (hb hby at_108) rfl (XS.lstore X0.here hx rfl (hb hby at_109) rfl (l' := #[oJ q1, oS, oJ q2, oS, oJ q3, oS, oJ q4, oS, oI p5, oI p6, oJ hh1, oS, oJ ll1, oS, oJ hh2, oS, oJ q4, oS, oI dd, oI pp, oI sw, oI ca, oJ yh, oS, oJ (q4 <<< (dd &&& 0x3f).toInt64), oS, oU, oU, oU, oU, oU, oU, oU, oU, oU, oU, oU]) rfl k))))
  show own_G (s₁.setTop (mkF m 111 #[oJ q1, oS, oJ q2, oS, oJ q3, oS, oJ q4, oS, oI p5, oI p6, oJ hh1, oS, oJ ll1, oS, oJ hh2, oS, oJ q4, oS, oI dd, oI pp, oI sw, oI ca, oJ yh, oS, oJ (q4 <<< (dd &&& 0x3f).toInt64), oS, oU, oU, oU, oU, oU, oU, oU, oU, oU, oU, oU] []))
  obtain ⟨yl, h_yl⟩ : ∃ z, z = (q4 <<< (dd &&& 0x3f).toInt64) := ⟨_, rfl⟩
  rw [← h_yl]
  show own_G (s₁.setTop (mkF m 111 #[oJ q1, oS, oJ q2, oS, oJ q3, oS, oJ q4, oS, oI p5, oI p6, oJ hh1, oS, oJ ll1, oS, oJ hh2, oS, oJ q4, oS, oI dd, oI pp, oI sw, oI ca, oJ yh, oS, oJ yl, oS, oU, oU, oU, oU, oU, oU, oU, oU, oU, oU, oU] []))
  refine up ?_ fun t k => XS.lload X0.here hx rfl (hb hby at_111) rfl k
  show own_G (s₁.setTop (mkF m 113 #[oJ q1, oS, oJ q2, oS, oJ q3, oS, oJ q4, oS, oI p5, oI p6, oJ hh1, oS, oJ ll1, oS, oJ hh2, oS, oJ q4, oS, oI dd, oI pp, oI sw, oI ca, oJ yh, oS, oJ yl, oS, oU, oU, oU, oU, oU, oU, oU, oU, oU, oU, oU] [(.long hh1)]))
  refine up ?_ fun t k => X0.ldc2Long hx hown (mvT hZ (hw _ (own_m 1 rfl))) (g := (mkF m 113 #[oJ q1, oS, oJ q2, oS, oJ q3, oS, oJ q4, oS, oI p5, oI p6, oJ hh1, oS, oJ ll1, oS, oJ hh2, oS, oJ q4, oS, oI dd, oI pp, oI sw, oI ca, oJ yh, oS, oJ yl, oS, oU, oU, oU, oU, oU, oU, oU, oU, oU, oU, oU] [(.long hh1)])) rfl (hb hby at_113) _ (XS.lxor X0.here hx rfl (hb hby at_116) rfl (XS.lload X0.here hx rfl (hb hby at_117) rfl (XS.lconst X0.here hx rfl (hb hby at_119) (XS.lcmp X0.here hx rfl (hb hby at_120) rfl k))))
  show own_G (s₁.setTop (mkF m 121 #[oJ q1, oS, oJ q2, oS, oJ q3, oS, oJ q4, oS, oI p5, oI p6, oJ hh1, oS, oJ ll1, oS, oJ hh2, oS, oJ q4, oS, oI dd, oI pp, oI sw, oI ca, oJ yh, oS, oJ yl, oS, oU, oU, oU, oU, oU, oU, oU, oU, oU, oU, oU] [(.int (lcmpW ll1 (0 : Int64))), (.long (hh1 ^^^ (-1 : Int64)))]))
  have dm889 : ∀ t, Steps p.tables e below (s₁.setTop (mkF m 129 #[oJ q1, oS, oJ q2, oS, oJ q3, oS, oJ q4, oS, oI p5, oI p6, oJ hh1, oS, oJ ll1, oS, oJ hh2, oS, oJ q4, oS, oI dd, oI pp, oI sw, oI ca, oJ yh, oS, oJ yl, oS, oU, oU, oU, oU, oU, oU, oU, oU, oU, oU, oU] [(.long (if ll1 = (0 : Int64) then (1 : Int64) else (0 : Int64))), (.long (hh1 ^^^ (-1 : Int64)))])) t → Steps p.tables e below (s₁.setTop (mkF m 121 #[oJ q1, oS, oJ q2, oS, oJ q3, oS, oJ q4, oS, oI p5, oI p6, oJ hh1, oS, oJ ll1, oS, oJ hh2, oS, oJ q4, oS, oI dd, oI pp, oI sw, oI ca, oJ yh, oS, oJ yl, oS, oU, oU, oU, oU, oU, oU, oU, oU, oU, oU, oU] [(.int (lcmpW ll1 (0 : Int64))), (.long (hh1 ^^^ (-1 : Int64)))])) t := by
    intro t k
    by_cases hc121_888 : ll1 = (0 : Int64)
    · refine XS.ifNo X0.here hx rfl (hb hby at_121) rfl ((if0 _ _).trans (teq ((lw_eq _ _).mpr hc121_888)).2) (XS.lconst X0.here hx rfl (hb hby at_124) (XS.goto X0.here hx rfl (pc0 := 125) (pc' := 129) rfl (hb hby at_125) (by decide) (by decide) ?_))
      show Steps p.tables e below (s₁.setTop (mkF m 129 #[oJ q1, oS, oJ q2, oS, oJ q3, oS, oJ q4, oS, oI p5, oI p6, oJ hh1, oS, oJ ll1, oS, oJ hh2, oS, oJ q4, oS, oI dd, oI pp, oI sw, oI ca, oJ yh, oS, oJ yl, oS, oU, oU, oU, oU, oU, oU, oU, oU, oU, oU, oU] [(.long (1 : Int64)), (.long (hh1 ^^^ (-1 : Int64)))])) t
      simp only [if_pos hc121_888] at k
      exact k
    · refine XS.ifYes X0.here hx rfl (pc0 := 121) (pc' := 128) rfl (hb hby at_121) rfl ((if0 _ _).trans (feq (fun q => hc121_888 ((lw_eq _ _).mp q))).2) (by decide) (by decide) (XS.lconst X0.here hx rfl (hb hby at_128) ?_)
      show Steps p.tables e below (s₁.setTop (mkF m 129 #[oJ q1, oS, oJ q2, oS, oJ q3, oS, oJ q4, oS, oI p5, oI p6, oJ hh1, oS, oJ ll1, oS, oJ hh2, oS, oJ q4, oS, oI dd, oI pp, oI sw, oI ca, oJ yh, oS, oJ yl, oS, oU, oU, oU, oU, oU, oU, oU, oU, oU, oU, oU] [(.long (0 : Int64)), (.long (hh1 ^^^ (-1 : Int64)))])) t
      simp only [if_neg hc121_888] at k
      exact k
  refine up ?_ dm889
  show own_G (s₁.setTop (mkF m 129 #[oJ q1, oS, oJ q2, oS, oJ q3, oS, oJ q4, oS, oI p5, oI p6, oJ hh1, oS, oJ ll1, oS, oJ hh2, oS, oJ q4, oS, oI dd, oI pp, oI sw, oI ca, oJ yh, oS, oJ yl, oS, oU, oU, oU, oU, oU, oU, oU, oU, oU, oU, oU] [(.long (if ll1 = (0 : Int64) then (1 : Int64) else (0 : Int64))), (.long (hh1 ^^^ (-1 : Int64)))]))
  obtain ⟨cz, h_cz⟩ : ∃ z, z = (if ll1 = (0 : Int64) then (1 : Int64) else (0 : Int64)) := ⟨_, rfl⟩
  rw [← h_cz]
  show own_G (s₁.setTop (mkF m 129 #[oJ q1, oS, oJ q2, oS, oJ q3, oS, oJ q4, oS, oI p5, oI p6, oJ hh1, oS, oJ ll1, oS, oJ hh2, oS, oJ q4, oS, oI dd, oI pp, oI sw, oI ca, oJ yh, oS, oJ yl, oS, oU, oU, oU, oU, oU, oU, oU, oU, oU, oU, oU] [(.long cz), (.long (hh1 ^^^ (-1 : Int64)))]))
  refine up ?_ fun t k => XS.ladd X0.here hx rfl (hb hby at_129) rfl (XS.lstore X0.here hx rfl (hb hby at_130) rfl (l' := #[oJ q1, oS, oJ q2, oS, oJ q3, oS, oJ q4, oS, oI p5, oI p6, oJ hh1, oS, oJ ll1, oS, oJ hh2, oS, oJ q4, oS, oI dd, oI pp, oI sw, oI ca, oJ yh, oS, oJ yl, oS, oJ ((hh1 ^^^ (-1 : Int64)) + cz), oS, oU, oU, oU, oU, oU, oU, oU, oU, oU]) rfl k)
  show own_G (s₁.setTop (mkF m 132 #[oJ q1, oS, oJ q2, oS, oJ q3, oS, oJ q4, oS, oI p5, oI p6, oJ hh1, oS, oJ ll1, oS, oJ hh2, oS, oJ q4, oS, oI dd, oI pp, oI sw, oI ca, oJ yh, oS, oJ yl, oS, oJ ((hh1 ^^^ (-1 : Int64)) + cz), oS, oU, oU, oU, oU, oU, oU, oU, oU, oU] []))
  obtain ⟨nh, h_nh⟩ : ∃ z, z = ((hh1 ^^^ (-1 : Int64)) + cz) := ⟨_, rfl⟩
  rw [← h_nh]
  show own_G (s₁.setTop (mkF m 132 #[oJ q1, oS, oJ q2, oS, oJ q3, oS, oJ q4, oS, oI p5, oI p6, oJ hh1, oS, oJ ll1, oS, oJ hh2, oS, oJ q4, oS, oI dd, oI pp, oI sw, oI ca, oJ yh, oS, oJ yl, oS, oJ nh, oS, oU, oU, oU, oU, oU, oU, oU, oU, oU] []))
  refine up ?_ fun t k => XS.lload X0.here hx rfl (hb hby at_132) rfl (XS.lneg X0.here hx rfl (hb hby at_134) rfl (XS.lstore X0.here hx rfl (hb hby at_135) rfl (l' := #[oJ q1, oS, oJ q2, oS, oJ q3, oS, oJ q4, oS, oI p5, oI p6, oJ hh1, oS, oJ ll1, oS, oJ hh2, oS, oJ q4, oS, oI dd, oI pp, oI sw, oI ca, oJ yh, oS, oJ yl, oS, oJ nh, oS, oJ (-ll1), oS, oU, oU, oU, oU, oU, oU, oU]) rfl k))
  show own_G (s₁.setTop (mkF m 137 #[oJ q1, oS, oJ q2, oS, oJ q3, oS, oJ q4, oS, oI p5, oI p6, oJ hh1, oS, oJ ll1, oS, oJ hh2, oS, oJ q4, oS, oI dd, oI pp, oI sw, oI ca, oJ yh, oS, oJ yl, oS, oJ nh, oS, oJ (-ll1), oS, oU, oU, oU, oU, oU, oU, oU] []))
  obtain ⟨nl, h_nl⟩ : ∃ z, z = (-ll1) := ⟨_, rfl⟩
  rw [← h_nl]
  show own_G (s₁.setTop (mkF m 137 #[oJ q1, oS, oJ q2, oS, oJ q3, oS, oJ q4, oS, oI p5, oI p6, oJ hh1, oS, oJ ll1, oS, oJ hh2, oS, oJ q4, oS, oI dd, oI pp, oI sw, oI ca, oJ yh, oS, oJ yl, oS, oJ nh, oS, oJ nl, oS, oU, oU, oU, oU, oU, oU, oU] []))
  obtain ⟨dk, dk3, hpd, pl1, pl2, hN, hY, X1, X2, Y1, Y2⟩ := own_pack h_hh1 h_hh2 h_dd h_pp h_yh h_yl h_cz h_nh h_nl
  obtain ⟨T890, h890, X890, e890, E890, A890, D890, -, st890⟩ := newO X0 hx hZ hown (hw _ (own_m 2 rfl)) (hw _ (own_m 3 rfl)) (hw _ (own_m 4 rfl)) e0 (g := (mkF m 137 #[oJ q1, oS, oJ q2, oS, oJ q3, oS, oJ q4, oS, oI p5, oI p6, oJ hh1, oS, oJ ll1, oS, oJ hh2, oS, oJ q4, oS, oI dd, oI pp, oI sw, oI ca, oJ yh, oS, oJ yl, oS, oJ nh, oS, oJ nl, oS, oU, oU, oU, oU, oU, oU, oU] [])) rfl (hb hby at_137) (by decide) (by decide)
  obtain ⟨b890, g890⟩ : ∃ z, z = h0.size := ⟨_, rfl⟩
  rw [← g890] at A890 D890 st890
  refine up ?_ st890
  have ne891 : rn ≠ b890 := Nat.ne_of_lt (Nat.lt_of_lt_of_le V_n.lt (Nat.le_of_eq g890.symm))
  have ge892 : n0 ≤ b890 := Nat.le_trans Z0 (Nat.le_of_eq g890.symm)
  have S_n_c893 := S_n.ext E890
  have V_n_c893 := V_n.ext E890
  have Zs894 : n0 ≤ h890.size := Nat.le_trans Z0 E890.1
  have F_words_b890 : Fld Z h890 b890 "com/example/eventweir/eventweir/ExactSum" "words" "[J" .null := D890 (Or.inl (hw _ (own_m 14 rfl))) (ty := (.array .long)) (by decide)
  have F_length_b890 : Fld Z h890 b890 "com/example/eventweir/eventweir/ExactSum" "length" "I" (.int (0 : Int32)) := D890 (Or.inl (hw _ (own_m 21 rfl))) (ty := .int) (by decide)
  have F_power_b890 : Fld Z h890 b890 "com/example/eventweir/eventweir/ExactSum" "power" "I" (.int (0 : Int32)) := D890 (Or.inl (hw _ (own_m 23 rfl))) (ty := .int) (by decide)
  show own_G (T890.setTop (mkF m 140 #[oJ q1, oS, oJ q2, oS, oJ q3, oS, oJ q4, oS, oI p5, oI p6, oJ hh1, oS, oJ ll1, oS, oJ hh2, oS, oJ q4, oS, oI dd, oI pp, oI sw, oI ca, oJ yh, oS, oJ yl, oS, oJ nh, oS, oJ nl, oS, oU, oU, oU, oU, oU, oU, oU] [(.ref b890)]))
  refine up ?_ fun t k => XS.dup X890.here hx rfl (hb hby at_140) rfl rfl k
  show own_G (T890.setTop (mkF m 141 #[oJ q1, oS, oJ q2, oS, oJ q3, oS, oJ q4, oS, oI p5, oI p6, oJ hh1, oS, oJ ll1, oS, oJ hh2, oS, oJ q4, oS, oI dd, oI pp, oI sw, oI ca, oJ yh, oS, oJ yl, oS, oJ nh, oS, oJ nl, oS, oU, oU, oU, oU, oU, oU, oU] [(.ref b890), (.ref b890)]))
  obtain ⟨_, _, ⟨T895, L895, k895, n895⟩, -, X895, ⟨Lc895, hQ895, l895, y895, z895⟩, st895⟩ := X890.specialBack hx (y := (⟨"com/example/eventweir/eventweir/ExactSum", "<init>", "()V"⟩ : MethodName)) rfl hown (mvT hZ (hw _ (own_m 5 rfl))) (mvT hZ (hw _ (own_m 6 rfl))) (mvT hZ (hw _ (own_m 7 rfl))) (by decide) (backOf (W := 1) (rmin l Z a0 hw [] b890 rn .null h890 n0 Zs894 A890 F_words_b890 F_length_b890 F_power_b890 S_n_c893 ge892) hZ (hw _ (own_m 7 rfl)) (hw _ (own_m 4 rfl)) (by decide) (by decide)) (g := (mkF m 141 #[oJ q1, oS, oJ q2, oS, oJ q3, oS, oJ q4, oS, oI p5, oI p6, oJ hh1, oS, oJ ll1, oS, oJ hh2, oS, oJ q4, oS, oI dd, oI pp, oI sw, oI ca, oJ yh, oS, oJ yl, oS, oJ nh, oS, oJ nl, oS, oU, oU, oU, oU, oU, oU, oU] [(.ref b890), (.ref b890)])) rfl (by rw [hml]; rfl) (Steps.refl _) (a := b890) (argsL := []) (rest := [(.ref b890)]) (lenOf own_pd7 rfl) rfl (by show 2 * 0 + _ ≤ _; exact Nat.le_of_eq rfl) (hb hby at_141) (fun _ _ => ⟨rfl, e890, (by decide : 1 + 0 ≤ _), (by decide : 3 + 0 ≤ _)⟩)
  dsimp only [Pt.U, Pt.locs, Pt.cells, Pt.slots] at X895 l895 y895 z895 st895 hQ895
  subst l895 y895 z895
  obtain ⟨rfl, Nq895, Kq895, Fq895_0, Fq895_1, Fq895_2⟩ := hQ895
  have N895 := Fr.app N0 Nq895
  have V_n_c896 := V_n_c893.keep Kq895 (ninS ne891 nin0)
  have A890_c896 := A890.keep Kq895
  have Zs897 : n0 ≤ T895.heap.size := Nat.le_trans Zs894 Kq895.1
  refine up ?_ (fun t k => st895.trans k)
  show own_G (T895.setTop (mkF m 144 #[oJ q1, oS, oJ q2, oS, oJ q3, oS, oJ q4, oS, oI p5, oI p6, oJ hh1, oS, oJ ll1, oS, oJ hh2, oS, oJ q4, oS, oI dd, oI pp, oI sw, oI ca, oJ yh, oS, oJ yl, oS, oJ nh, oS, oJ nl, oS, oU, oU, oU, oU, oU, oU, oU] [(.ref b890)]))
  refine up ?_ fun t k => XS.astore X895.here hx rfl (hb hby at_144) rfl rfl (l' := #[oJ q1, oS, oJ q2, oS, oJ q3, oS, oJ q4, oS, oI p5, oI p6, oJ hh1, oS, oJ ll1, oS, oJ hh2, oS, oJ q4, oS, oI dd, oI pp, oI sw, oI ca, oJ yh, oS, oJ yl, oS, oJ nh, oS, oJ nl, oS, oA b890, oU, oU, oU, oU, oU, oU]) rfl (XS.iload X895.here hx rfl (hb hby at_146) rfl k)
  show own_G (T895.setTop (mkF m 148 #[oJ q1, oS, oJ q2, oS, oJ q3, oS, oJ q4, oS, oI p5, oI p6, oJ hh1, oS, oJ ll1, oS, oJ hh2, oS, oJ q4, oS, oI dd, oI pp, oI sw, oI ca, oJ yh, oS, oJ yl, oS, oJ nh, oS, oJ nl, oS, oA b890, oU, oU, oU, oU, oU, oU] [(.int sw)]))
  have St898 : own_St Z T895.heap n0 b890 0 0 pp := ⟨rn, kn, (0 : Int32), (0 : Int32), (0 : Int32), [], ⟨A890_c896, Fq895_0, Fq895_1, Fq895_2, V_n_c896⟩, Or.inl ⟨rfl, rfl, rfl, Or.inl ⟨rfl, rfl⟩⟩⟩
  by_cases hc148_899 : sw = (0 : Int32)
  · refine up ?_ fun t k => XS.ifYes X895.here hx rfl (pc0 := 148) (pc' := 179) rfl (hb hby at_148) rfl ((if0 _ _).trans (teq hc148_899).1) (by decide) (by decide) (XS.aload X895.here hx rfl (hb hby at_179) rfl rfl (XS.lload X895.here hx rfl (hb hby at_181) rfl (XS.lload X895.here hx rfl (hb hby at_183) rfl (XS.iload X895.here hx rfl (hb hby at_185) rfl k))))
    show own_G (T895.setTop (mkF m 187 #[oJ q1, oS, oJ q2, oS, oJ q3, oS, oJ q4, oS, oI p5, oI p6, oJ hh1, oS, oJ ll1, oS, oJ hh2, oS, oJ q4, oS, oI dd, oI pp, oI sw, oI ca, oJ yh, oS, oJ yl, oS, oJ nh, oS, oJ nl, oS, oA b890, oU, oU, oU, oU, oU, oU] [(.int pp), (.long ll1), (.long hh1), (.ref b890)]))
    obtain ⟨u900, v900, r900, d900, hd900, hr900, hv900, hM900⟩ := own_addSt l Z a0 hw b890 hh1 ll1 pp 0 0 pp T895.heap n0 Zs897 St898 ge892 pp.toInt 0 0 (Nat.zero_le 3) (Nat.zero_le 3) pl1 pl2 (Int.add_zero _).symm (Int.add_zero _).symm 0 (by decide) (by rw [own_m0]; omega) (by rw [own_m0]; omega)
    rw [own_m0] at hv900
    obtain ⟨cq901, kq901, q901a, q901b, q901c⟩ := isOf hZ rfl A890_c896
    obtain ⟨_, _, ⟨T901, L901, k901, n901⟩, -, X901, ⟨Lc901, hQ901, l901, y901, z901⟩, st901⟩ := X895.virtualBack hx (y := (⟨"com/example/eventweir/eventweir/ExactSum", "add", "(JJI)V"⟩ : MethodName)) (z := (⟨"com/example/eventweir/eventweir/ExactSum", "add", "(JJI)V"⟩ : MethodName)) hown (mvT hZ (hw _ (own_m 15 rfl))) (mvT hZ (hw _ (own_m 16 rfl))) (notFace_of_selects (args := #[]) (mvT hZ (hw _ (own_m 18 rfl)))) (mvT hZ (hw _ (own_m 18 rfl))) (mvT hZ (hw _ (own_m 17 rfl))) (by decide) (backOf (W := 0) hM900 hZ (hw _ (own_m 19 rfl)) (hw _ (own_m 4 rfl)) (by decide) (by decide)) q901a q901c (g := (mkF m 187 #[oJ q1, oS, oJ q2, oS, oJ q3, oS, oJ q4, oS, oI p5, oI p6, oJ hh1, oS, oJ ll1, oS, oJ hh2, oS, oJ q4, oS, oI dd, oI pp, oI sw, oI ca, oJ yh, oS, oJ yl, oS, oJ nh, oS, oJ nl, oS, oA b890, oU, oU, oU, oU, oU, oU] [(.int pp), (.long ll1), (.long hh1), (.ref b890)])) rfl (by rw [hml]; rfl) (Steps.refl _) (argsL := [(.long hh1), (.long ll1), (.int pp)]) (rest := []) (lenOf own_pd10 rfl) rfl (by show 2 * 0 + _ ≤ _; exact Nat.le_of_eq rfl) (hb hby at_187) (fun _ _ => ⟨rfl, rfl, (by decide : 1 + 2 ≤ _), (by decide : 3 + 8 ≤ _)⟩)
    dsimp only [Pt.U, Pt.locs, Pt.cells, Pt.slots] at X901 l901 y901 z901 st901 hQ901
    subst l901 y901 z901
    obtain ⟨rfl, Nq901, hsq901, St901⟩ := hQ901
    have N901 := Fr.app N895 Nq901
    have Zs902 : n0 ≤ T901.heap.size := Nat.le_trans Zs897 hsq901
    have Es901 := own_StE St901
    refine up ?_ (fun t k => st901.trans k)
    show own_G (T901.setTop (mkF m 190 #[oJ q1, oS, oJ q2, oS, oJ q3, oS, oJ q4, oS, oI p5, oI p6, oJ hh1, oS, oJ ll1, oS, oJ hh2, oS, oJ q4, oS, oI dd, oI pp, oI sw, oI ca, oJ yh, oS, oJ yl, oS, oJ nh, oS, oJ nl, oS, oA b890, oU, oU, oU, oU, oU, oU] []))
    refine up ?_ fun t k => XS.aload X901.here hx rfl (hb hby at_190) rfl rfl (XS.lload X901.here hx rfl (hb hby at_192) rfl (XS.lload X901.here hx rfl (hb hby at_194) rfl (XS.iload X901.here hx rfl (hb hby at_196) rfl (XS.iload X901.here hx rfl (hb hby at_198) rfl (XS.iadd X901.here hx rfl (hb hby at_200) rfl k)))))
    show own_G (T901.setTop (mkF m 201 #[oJ q1, oS, oJ q2, oS, oJ q3, oS, oJ q4, oS, oI p5, oI p6, oJ hh1, oS, oJ ll1, oS, oJ hh2, oS, oJ q4, oS, oI dd, oI pp, oI sw, oI ca, oJ yh, oS, oJ yl, oS, oJ nh, oS, oJ nl, oS, oA b890, oU, oU, oU, oU, oU, oU] [(.int (pp + dd)), (.long q4), (.long hh2), (.ref b890)]))
    obtain ⟨u903, v903, r903, d903, hd903, hr903, hv903, hM903⟩ := own_addSt l Z a0 hw b890 hh2 q4 (pp + dd) u900 v900 r900 T901.heap n0 Zs902 St901 ge892 pp.toInt d900 dk hd900 dk3 pl1 pl2 hr900 hpd (0 + own_val ll1 hh1) hv900 (by rw [← hY]; omega) (by rw [← hY]; omega)
    obtain ⟨cq904, kq904, q904a, q904b, q904c⟩ := isOf hZ rfl Es901
    obtain ⟨_, _, ⟨T904, L904, k904, n904⟩, -, X904, ⟨Lc904, hQ904, l904, y904, z904⟩, st904⟩ := X901.virtualBack hx (y := (⟨"com/example/eventweir/eventweir/ExactSum", "add", "(JJI)V"⟩ : MethodName)) (z := (⟨"com/example/eventweir/eventweir/ExactSum", "add", "(JJI)V"⟩ : MethodName)) hown (mvT hZ (hw _ (own_m 15 rfl))) (mvT hZ (hw _ (own_m 16 rfl))) (notFace_of_selects (args := #[]) (mvT hZ (hw _ (own_m 18 rfl)))) (mvT hZ (hw _ (own_m 18 rfl))) (mvT hZ (hw _ (own_m 17 rfl))) (by decide) (backOf (W := 0) hM903 hZ (hw _ (own_m 19 rfl)) (hw _ (own_m 4 rfl)) (by decide) (by decide)) q904a q904c (g := (mkF m 201 #[oJ q1, oS, oJ q2, oS, oJ q3, oS, oJ q4, oS, oI p5, oI p6, oJ hh1, oS, oJ ll1, oS, oJ hh2, oS, oJ q4, oS, oI dd, oI pp, oI sw, oI ca, oJ yh, oS, oJ yl, oS, oJ nh, oS, oJ nl, oS, oA b890, oU, oU, oU, oU, oU, oU] [(.int (pp + dd)), (.long q4), (.long hh2), (.ref b890)])) rfl (by rw [hml]; rfl) (Steps.refl _) (argsL := [(.long hh2), (.long q4), (.int (pp + dd))]) (rest := []) (lenOf own_pd10 rfl) rfl (by show 2 * 0 + _ ≤ _; exact Nat.le_of_eq rfl) (hb hby at_201) (fun _ _ => ⟨rfl, rfl, (by decide : 3 + 2 ≤ _), (by decide : 11 + 8 ≤ _)⟩)
    dsimp only [Pt.U, Pt.locs, Pt.cells, Pt.slots] at X904 l904 y904 z904 st904 hQ904
    subst l904 y904 z904
    obtain ⟨rfl, Nq904, hsq904, St904⟩ := hQ904
    have N904 := Fr.app N901 Nq904
    have Zs905 : n0 ≤ T904.heap.size := Nat.le_trans Zs902 hsq904
    have Es904 := own_StE St904
    refine up ?_ (fun t k => st904.trans k)
    show own_G (T904.setTop (mkF m 204 #[oJ q1, oS, oJ q2, oS, oJ q3, oS, oJ q4, oS, oI p5, oI p6, oJ hh1, oS, oJ ll1, oS, oJ hh2, oS, oJ q4, oS, oI dd, oI pp, oI sw, oI ca, oJ yh, oS, oJ yl, oS, oJ nh, oS, oJ nl, oS, oA b890, oU, oU, oU, oU, oU, oU] []))
    exact bl204 Z a0 hw b890 q1 q2 q3 q4 hh1 ll1 hh2 yh yl nh nl u903 v903 p5 p6 dd pp sw ca r903 d903 T904.heap n0 Zs905 St904 ge892 hd903 hr903 (by rw [hv903, hY]; omega) pl1 pl2 hN X1 X2 Y1 Y2 X904 hx hZ hby hml hown hlk hret rfl N904
  · refine up ?_ fun t k => XS.ifNo X895.here hx rfl (hb hby at_148) rfl ((if0 _ _).trans (feq hc148_899).1) (XS.aload X895.here hx rfl (hb hby at_151) rfl rfl (XS.lload X895.here hx rfl (hb hby at_153) rfl (XS.lload X895.here hx rfl (hb hby at_155) rfl (XS.iload X895.here hx rfl (hb hby at_157) rfl (XS.iload X895.here hx rfl (hb hby at_159) rfl (XS.iadd X895.here hx rfl (hb hby at_161) rfl k))))))
    show own_G (T895.setTop (mkF m 162 #[oJ q1, oS, oJ q2, oS, oJ q3, oS, oJ q4, oS, oI p5, oI p6, oJ hh1, oS, oJ ll1, oS, oJ hh2, oS, oJ q4, oS, oI dd, oI pp, oI sw, oI ca, oJ yh, oS, oJ yl, oS, oJ nh, oS, oJ nl, oS, oA b890, oU, oU, oU, oU, oU, oU] [(.int (pp + dd)), (.long q4), (.long hh2), (.ref b890)]))
    obtain ⟨u906, v906, r906, d906, hd906, hr906, hv906, hM906⟩ := own_addSt l Z a0 hw b890 hh2 q4 (pp + dd) 0 0 pp T895.heap n0 Zs897 St898 ge892 pp.toInt 0 dk (Nat.zero_le 3) dk3 pl1 pl2 (Int.add_zero _).symm hpd 0 (by decide) (by rw [← hY]; omega) (by rw [← hY]; omega)
    obtain ⟨cq907, kq907, q907a, q907b, q907c⟩ := isOf hZ rfl A890_c896
    obtain ⟨_, _, ⟨T907, L907, k907, n907⟩, -, X907, ⟨Lc907, hQ907, l907, y907, z907⟩, st907⟩ := X895.virtualBack hx (y := (⟨"com/example/eventweir/eventweir/ExactSum", "add", "(JJI)V"⟩ : MethodName)) (z := (⟨"com/example/eventweir/eventweir/ExactSum", "add", "(JJI)V"⟩ : MethodName)) hown (mvT hZ (hw _ (own_m 15 rfl))) (mvT hZ (hw _ (own_m 16 rfl))) (notFace_of_selects (args := #[]) (mvT hZ (hw _ (own_m 18 rfl)))) (mvT hZ (hw _ (own_m 18 rfl))) (mvT hZ (hw _ (own_m 17 rfl))) (by decide) (backOf (W := 0) hM906 hZ (hw _ (own_m 19 rfl)) (hw _ (own_m 4 rfl)) (by decide) (by decide)) q907a q907c (g := (mkF m 162 #[oJ q1, oS, oJ q2, oS, oJ q3, oS, oJ q4, oS, oI p5, oI p6, oJ hh1, oS, oJ ll1, oS, oJ hh2, oS, oJ q4, oS, oI dd, oI pp, oI sw, oI ca, oJ yh, oS, oJ yl, oS, oJ nh, oS, oJ nl, oS, oA b890, oU, oU, oU, oU, oU, oU] [(.int (pp + dd)), (.long q4), (.long hh2), (.ref b890)])) rfl (by rw [hml]; rfl) (Steps.refl _) (argsL := [(.long hh2), (.long q4), (.int (pp + dd))]) (rest := []) (lenOf own_pd10 rfl) rfl (by show 2 * 0 + _ ≤ _; exact Nat.le_of_eq rfl) (hb hby at_162) (fun _ _ => ⟨rfl, rfl, (by decide : 1 + 2 ≤ _), (by decide : 3 + 8 ≤ _)⟩)
    dsimp only [Pt.U, Pt.locs, Pt.cells, Pt.slots] at X907 l907 y907 z907 st907 hQ907
    subst l907 y907 z907
    obtain ⟨rfl, Nq907, hsq907, St907⟩ := hQ907
    have N907 := Fr.app N895 Nq907
    have Zs908 : n0 ≤ T907.heap.size := Nat.le_trans Zs897 hsq907
    have Es907 := own_StE St907
    refine up ?_ (fun t k => st907.trans k)
    show own_G (T907.setTop (mkF m 165 #[oJ q1, oS, oJ q2, oS, oJ q3, oS, oJ q4, oS, oI p5, oI p6, oJ hh1, oS, oJ ll1, oS, oJ hh2, oS, oJ q4, oS, oI dd, oI pp, oI sw, oI ca, oJ yh, oS, oJ yl, oS, oJ nh, oS, oJ nl, oS, oA b890, oU, oU, oU, oU, oU, oU] []))
    refine up ?_ fun t k => XS.aload X907.here hx rfl (hb hby at_165) rfl rfl (XS.lload X907.here hx rfl (hb hby at_167) rfl (XS.lload X907.here hx rfl (hb hby at_169) rfl (XS.iload X907.here hx rfl (hb hby at_171) rfl k)))
    show own_G (T907.setTop (mkF m 173 #[oJ q1, oS, oJ q2, oS, oJ q3, oS, oJ q4, oS, oI p5, oI p6, oJ hh1, oS, oJ ll1, oS, oJ hh2, oS, oJ q4, oS, oI dd, oI pp, oI sw, oI ca, oJ yh, oS, oJ yl, oS, oJ nh, oS, oJ nl, oS, oA b890, oU, oU, oU, oU, oU, oU] [(.int pp), (.long ll1), (.long hh1), (.ref b890)]))
    obtain ⟨u909, v909, r909, d909, hd909, hr909, hv909, hM909⟩ := own_addSt l Z a0 hw b890 hh1 ll1 pp u906 v906 r906 T907.heap n0 Zs908 St907 ge892 pp.toInt d906 0 hd906 (Nat.zero_le 3) pl1 pl2 hr906 (Int.add_zero _).symm (0 + own_val q4 hh2 * ((2 ^ dk : Nat) : Int)) hv906 (by rw [own_m0]; omega) (by rw [own_m0]; omega)
    rw [own_m0] at hv909
    obtain ⟨cq910, kq910, q910a, q910b, q910c⟩ := isOf hZ rfl Es907
    obtain ⟨_, _, ⟨T910, L910, k910, n910⟩, -, X910, ⟨Lc910, hQ910, l910, y910, z910⟩, st910⟩ := X907.virtualBack hx (y := (⟨"com/example/eventweir/eventweir/ExactSum", "add", "(JJI)V"⟩ : MethodName)) (z := (⟨"com/example/eventweir/eventweir/ExactSum", "add", "(JJI)V"⟩ : MethodName)) hown (mvT hZ (hw _ (own_m 15 rfl))) (mvT hZ (hw _ (own_m 16 rfl))) (notFace_of_selects (args := #[]) (mvT hZ (hw _ (own_m 18 rfl)))) (mvT hZ (hw _ (own_m 18 rfl))) (mvT hZ (hw _ (own_m 17 rfl))) (by decide) (backOf (W := 0) hM909 hZ (hw _ (own_m 19 rfl)) (hw _ (own_m 4 rfl)) (by decide) (by decide)) q910a q910c (g := (mkF m 173 #[oJ q1, oS, oJ q2, oS, oJ q3, oS, oJ q4, oS, oI p5, oI p6, oJ hh1, oS, oJ ll1, oS, oJ hh2, oS, oJ q4, oS, oI dd, oI pp, oI sw, oI ca, oJ yh, oS, oJ yl, oS, oJ nh, oS, oJ nl, oS, oA b890, oU, oU, oU, oU, oU, oU] [(.int pp), (.long ll1), (.long hh1), (.ref b890)])) rfl (by rw [hml]; rfl) (Steps.refl _) (argsL := [(.long hh1), (.long ll1), (.int pp)]) (rest := []) (lenOf own_pd10 rfl) rfl (by show 2 * 0 + _ ≤ _; exact Nat.le_of_eq rfl) (hb hby at_173) (fun _ _ => ⟨rfl, rfl, (by decide : 3 + 2 ≤ _), (by decide : 11 + 8 ≤ _)⟩)
    dsimp only [Pt.U, Pt.locs, Pt.cells, Pt.slots] at X910 l910 y910 z910 st910 hQ910
    subst l910 y910 z910
    obtain ⟨rfl, Nq910, hsq910, St910⟩ := hQ910
    have N910 := Fr.app N907 Nq910
    have Zs911 : n0 ≤ T910.heap.size := Nat.le_trans Zs908 hsq910
    have Es910 := own_StE St910
    refine up ?_ (fun t k => st910.trans k)
    show own_G (T910.setTop (mkF m 176 #[oJ q1, oS, oJ q2, oS, oJ q3, oS, oJ q4, oS, oI p5, oI p6, oJ hh1, oS, oJ ll1, oS, oJ hh2, oS, oJ q4, oS, oI dd, oI pp, oI sw, oI ca, oJ yh, oS, oJ yl, oS, oJ nh, oS, oJ nl, oS, oA b890, oU, oU, oU, oU, oU, oU] []))
    refine up ?_ fun t k => XS.goto X910.here hx rfl (pc0 := 176) (pc' := 204) rfl (hb hby at_176) (by decide) (by decide) k
    show own_G (T910.setTop (mkF m 204 #[oJ q1, oS, oJ q2, oS, oJ q3, oS, oJ q4, oS, oI p5, oI p6, oJ hh1, oS, oJ ll1, oS, oJ hh2, oS, oJ q4, oS, oI dd, oI pp, oI sw, oI ca, oJ yh, oS, oJ yl, oS, oJ nh, oS, oJ nl, oS, oA b890, oU, oU, oU, oU, oU, oU] []))
    exact bl204 Z a0 hw b890 q1 q2 q3 q4 hh1 ll1 hh2 yh yl nh nl u909 v909 p5 p6 dd pp sw ca r909 d909 T910.heap n0 Zs911 St910 ge892 hd909 hr909 (by rw [hv909, hY]; omega) pl1 pl2 hN X1 X2 Y1 Y2 X910 hx hZ hby hml hown hlk hret rfl N910
set_option maxRecDepth 65536 in
set_option maxHeartbeats 40000000 in
theorem comes_1 {Post : Tables → Env → Array Value → State → Outcome → State → Prop} (hpost : ∀ tb e args s v u, (limb_1_1.after args s (.returned v) u = true ∧ limb_1_2.after args s (.returned v) u = true ∧ True) → FrameEnd s (.returned v) u (Jvm.fieldLocs frame_1_writes args s ++ Jvm.arrayLocs frame_1_arrays args s ++ Jvm.staticLocs frame_1_statics s) 16 128 → Post tb e args s (.returned v) u) :
    ArmFor flags0 classFile x code maxLocals ret World_1 tables_1 room_1 Calls_1 rest_1 Pre_1 Post := by
  intro l hfl _ _ p e ha hc hk s m args below hf hA hF happ hP
  obtain ⟨hcalls, hrest, hpre⟩ := hP
  obtain ⟨-, -, -, hnamed, -, -, -, hat⟩ := (Spec.applies_iff hf).mp happ
  obtain ⟨hg, hn⟩ := and_e (Cond.before_iff.mp (show (Jvm.Cond.and given_1 narrow_1).before args s = true from hpre))
  obtain ⟨gc, g0⟩ := and_e hg
  obtain ⟨gv0, g1⟩ := and_e g0
  obtain ⟨gv1, g2⟩ := and_e g1
  obtain ⟨gv2, g3⟩ := and_e g2
  obtain ⟨gv3, g4⟩ := and_e g3
  obtain ⟨gv4, g5⟩ := and_e g4
  obtain ⟨w0, w1, w2, w3, w4, w5, rfl⟩ : ∃ w0 w1 w2 w3 w4 w5 : Value, args = #[w0, w1, w2, w3, w4, w5] := by
    have hs : args.size = 6 := by simpa [Cond.value, given_1] using gc
    obtain ⟨L⟩ := args
    match L, hs with
    | [w0, w1, w2, w3, w4, w5], _ => exact ⟨w0, w1, w2, w3, w4, w5, rfl⟩
  have hw := fun d (hd : d ∈ tables_1) => atoms_spec (ws := Jvm.Cond.code x code maxLocals ret :: tables_1) hat d (List.mem_cons_of_mem _ hd)
  have hfit : Fit s := fun {y c} hc i hi => by
    obtain ⟨ha, rfl⟩ := Array.getElem?_eq_some_iff.mp hc
    have q := List.all_eq_true.mp ((Array.all_eq_true_iff_forall_mem.mp hF) _ (Array.getElem_mem ha)) i (List.mem_range.mpr hi)
    simpa [Array.getElem?_eq_getElem hi] using q
  obtain ⟨i0, ei0⟩ := isL_v gv0
  obtain rfl : w0 = (.long i0) := Option.some.inj ei0
  obtain ⟨i1, ei1⟩ := isL_v gv1
  obtain rfl : w1 = (.long i1) := Option.some.inj ei1
  obtain ⟨i2, ei2⟩ := isL_v gv2
  obtain rfl : w2 = (.long i2) := Option.some.inj ei2
  obtain ⟨i3, ei3⟩ := isL_v gv3
  obtain rfl : w3 = (.long i3) := Option.some.inj ei3
  obtain ⟨i4, ei4⟩ := is_v gv4
  obtain rfl : w4 = (.int i4) := Option.some.inj ei4
  obtain ⟨i5, ei5⟩ := is_v g5
  obtain rfl : w5 = (.int i5) := Option.some.inj ei5
  obtain ⟨n1, n2⟩ := and_e hn
  obtain ⟨n2, n3⟩ := and_e n2
  obtain ⟨rn, ern⟩ := arr_v n1
  obtain ⟨cl, A⟩ := Arr.start ern n1
  have S_n : Sta s s.heap "com/example/eventweir/eventweir/ExactSum" "NONE" "[J" (.ref rn) := Sta.start ern (Or.inr ⟨(hw _ (own_m 4 rfl)), (hw _ (own_m 12 rfl))⟩)
  obtain ⟨l1, l2⟩ := own_len0 ern A (eqv_i (Term.int_eval (0)) n3)
  have V_n : Arv s s.heap rn cl.cls .long (0 : Int32) [] (.long (0 : Int64)) := Arv.start hfit A l1 l2 (by decide) (by decide) trivial
  obtain ⟨n, o, h1, h2, h3, _, L, rfl, ⟨rfl, N⟩, hq⟩ := rm0 l s _ hw tables_1 i0 i1 i2 i3 i4 i5 rn cl.cls s.heap s.heap.size (Nat.le_refl _) S_n V_n p e ha hc hk s m _ below hf ((Spec.applies_iff_loose hf).mp happ).1 ⟨rfl, State.Warmed39.refl s, rfl⟩ trivial
  refine ⟨n, _, h1, h2, h3, hpost _ _ _ _ _ _ ⟨Cond.after_iff.mpr rfl, Cond.after_iff.mpr (eq_i res_at (Term.int_eval (1)) rfl), trivial⟩ ⟨hq.1, hq.2.1, (hq.2.2.sift fun y hy => Or.inr (N y hy)).mono (by decide) (by decide)⟩⟩
theorem main_1_1 : Claimed_1_1 := comes_1 fun _ _ _ _ _ _ h hF => ⟨h.1, hF⟩
theorem main_1_2 : Claimed_1_2 := comes_1 fun _ _ _ _ _ _ h hF => ⟨h.2.1, hF⟩
end Jvm.Pilot.@@N@@
namespace Jvm.Pilot.@@N@@
open Jvm Jvm.ClassFile Sem Op Lib Jvm.Free Jvm.Stand Jvm.Pilot.@@N@@.Jvm.D
/-! MADE BY PROGRAM (witnessworld.py) out of the Statement's table words and the real class files: 14 classes; the members and pool entries that the words name. The judged class is class 1, her method 1. -/
namespace start1
open Jvm.ClassFile
def u (s : String) : CpInfo := .utf8 (stringToUtf16 s)
/-- a pool by its gaps: so many unusable entries, then the entry; so many at the end -/
def gap : Nat → List CpInfo → List CpInfo
  | 0, r => r
  | n + 1, r => .unusable :: gap n r
def poolList (es : List (Nat × CpInfo)) (last : Nat) : List CpInfo := es.foldr (fun e r => gap e.1 (e.2 :: r)) (gap last [])
def pool (es : List (Nat × CpInfo)) (last : Nat) : Array CpInfo := ⟨poolList es last⟩
def fileOf (pool : Array CpInfo) (this : Nat) (attrs : Array Attribute := #[]) (ms : Array MethodInfo := #[]) (fl : Nat := 33) (sup : Nat := 0) (ifs : Array Nat := #[]) (fds : Array FieldInfo := #[]) : ClassFile where
  minorVersion := 0
  majorVersion := 65
  constantPool := pool
  accessFlags := fl
  thisClass := this
  superClass := sup
  interfaces := ifs
  fields := fds
  methods := ms
  attributes := attrs
def plain (name : String) (sup : Option ClassId) : Class where
  name := name
  kind := .ordinary
  loader := none
  accessFlags := 33
  super := sup
  interfaces := #[]
  cf := none
  fields := #[]
  methods := #[]
  instanceTypes := #[]
  staticTypes := #[]
  resolved := #[]
  callSites := []
  init := .initialized
  statics := none
  mirror := none

def pool0 : Array CpInfo := pool [(5, u "<init>"), (0, u "()V"), (1, .class_ 10), (1, u "java/lang/Object")] 113

def k0c0 : Code := { maxStack := 0, maxLocals := 1, code := object_method_1_code, exceptionTable := #[], attributes := #[] }
def k0m0 : Method := { name := "<init>", desc := "()V", sig := { parameters := [], returnType := none }, accessFlags := 1, code := some k0c0 }
/-- java/lang/Object -/
def k0 : Class := { plain "java/lang/Object" none with
  accessFlags := 33
  interfaces := #[]
  cf := some (fileOf pool0 8 #[] #[{ accessFlags := 1, nameIndex := 5, descriptorIndex := 6, attributes := #[] }] 33 0 #[] #[])
  fields := #[]
  methods := #[k0m0]
  instanceTypes := #[]
  staticTypes := #[]
  resolved := Array.replicate 124 none
  statics := none }

def pool1 : Array CpInfo := pool [(2, .class_ 4), (0, .nameAndType 5 6), (0, u "java/lang/Object"), (0, u "<init>"), (0, u "()V"), (0, .long 13835058055282163712), (1, .long 18446744073709551615), (1, .class_ 12), (0, u "com/example/eventweir/eventweir/ExactSum"), (0, .methodref 11 3), (0, .methodref 11 15), (0, .nameAndType 16 17), (0, u "add"), (0, u "(JJI)V"), (0, .long 9223372036854775808), (1, .methodref 11 21), (0, .nameAndType 22 23), (0, u "signum"), (0, u "()I"), (0, .class_ 25), (0, u "com/example/eventweir/eventweir/ExactSumSignumPinLaw"), (2, u "law"), (0, u "(JJJJII)Z")] 3

def k1m0 : Method := { name := "<init>", desc := "()V", sig := { parameters := [], returnType := none }, accessFlags := 1, code := none }
def k1c1 : Code := { maxStack := 7, maxLocals := 37, code := code, exceptionTable := #[], attributes := #[] }
def k1m1 : Method := { name := "law", desc := "(JJJJII)Z", sig := { parameters := [.long, .long, .long, .long, .int, .int], returnType := some .boolean }, accessFlags := 9, code := some k1c1 }
/-- com/example/eventweir/eventweir/ExactSumSignumPinLaw -/
def k1 : Class := { plain "com/example/eventweir/eventweir/ExactSumSignumPinLaw" (some 0) with
  accessFlags := 49
  interfaces := #[]
  cf := some (fileOf pool1 24 #[] #[{ accessFlags := 1, nameIndex := 5, descriptorIndex := 6, attributes := #[] }, { accessFlags := 9, nameIndex := 28, descriptorIndex := 29, attributes := #[] }] 49 2 #[] #[])
  fields := #[]
  methods := #[k1m0, k1m1]
  instanceTypes := #[]
  staticTypes := #[]
  resolved := Array.replicate 33 none
  statics := none }

def pool2 : Array CpInfo := pool [(1, .methodref 2 3), (0, .class_ 4), (0, .nameAndType 5 6), (0, u "java/lang/Object"), (0, u "<init>"), (0, u "()V"), (0, .fieldref 8 9), (0, .class_ 10), (0, .nameAndType 11 12), (0, u "com/example/eventweir/eventweir/ExactSum"), (0, u "NONE"), (0, u "[J"), (0, .fieldref 8 14), (0, .nameAndType 15 12), (0, u "words"), (0, .fieldref 8 17), (0, .nameAndType 18 19), (0, u "length"), (0, u "I"), (0, .fieldref 8 21), (0, .nameAndType 22 19), (0, u "power"), (0, .methodref 8 24), (0, .nameAndType 25 6), (0, u "normalize"), (0, .methodref 8 27), (0, .nameAndType 28 29), (0, u "shiftUp"), (0, u "(I)V"), (0, .methodref 8 31), (0, .nameAndType 32 29), (0, u "widen"), (0, .methodref 8 34), (0, .nameAndType 35 36), (0, u "addAt"), (0, u "(IJJ)J"), (0, .methodref 8 38), (0, .nameAndType 39 40), (0, u "repeatsSign"), (0, u "(I)Z"), (2, u "signum"), (0, u "()I"), (12, u "([JI)[J"), (37, .methodref 8 96), (0, .nameAndType 97 98), (0, u "carryOut"), (0, u "(JJJ)J"), (0, .methodref 100 101), (0, .class_ 102), (0, .nameAndType 103 57), (0, u "java/util/Arrays"), (0, u "copyOf"), (0, .methodref 105 106), (0, .class_ 107), (0, .nameAndType 108 109), (0, u "java/lang/System"), (0, u "arraycopy"), (0, u "(Ljava/lang/Object;ILjava/lang/Object;II)V"), (0, .methodref 100 111), (0, .nameAndType 112 113), (0, u "fill"), (0, u "([JIIJ)V"), (0, .long 18446744073709551615), (14, u "add"), (0, u "(JJI)V")] 11

def k2c0 : Code := { maxStack := 2, maxLocals := 1, code := prog_78_method_1_code, exceptionTable := #[], attributes := #[] }
def k2m0 : Method := { name := "<init>", desc := "()V", sig := { parameters := [], returnType := none }, accessFlags := 0, code := some k2c0 }
def k2c1 : Code := { maxStack := 6, maxLocals := 20, code := prog_78_method_3_code, exceptionTable := #[], attributes := #[] }
def k2m1 : Method := { name := "add", desc := "(JJI)V", sig := { parameters := [.long, .long, .int], returnType := none }, accessFlags := 0, code := some k2c1 }
def k2c2 : Code := { maxStack := 4, maxLocals := 2, code := prog_78_method_5_code, exceptionTable := #[], attributes := #[] }
def k2m2 : Method := { name := "signum", desc := "()I", sig := { parameters := [], returnType := some .int }, accessFlags := 0, code := some k2c2 }
def k2c3 : Code := { maxStack := 6, maxLocals := 10, code := prog_78_method_9_code, exceptionTable := #[], attributes := #[] }
def k2m3 : Method := { name := "addAt", desc := "(IJJ)J", sig := { parameters := [.int, .long, .long], returnType := some .long }, accessFlags := 2, code := some k2c3 }
def k2c4 : Code := { maxStack := 4, maxLocals := 5, code := prog_78_method_10_code, exceptionTable := #[], attributes := #[] }
def k2m4 : Method := { name := "widen", desc := "(I)V", sig := { parameters := [.int], returnType := none }, accessFlags := 2, code := some k2c4 }
def k2c5 : Code := { maxStack := 5, maxLocals := 2, code := prog_78_method_11_code, exceptionTable := #[], attributes := #[] }
def k2m5 : Method := { name := "repeatsSign", desc := "(I)Z", sig := { parameters := [.int], returnType := some .boolean }, accessFlags := 2, code := some k2c5 }
def k2c6 : Code := { maxStack := 6, maxLocals := 2, code := prog_78_method_12_code, exceptionTable := #[], attributes := #[] }
def k2m6 : Method := { name := "normalize", desc := "()V", sig := { parameters := [], returnType := none }, accessFlags := 2, code := some k2c6 }
def k2c7 : Code := { maxStack := 8, maxLocals := 13, code := prog_78_method_13_code, exceptionTable := #[], attributes := #[] }
def k2m7 : Method := { name := "shiftUp", desc := "(I)V", sig := { parameters := [.int], returnType := none }, accessFlags := 2, code := some k2c7 }
def k2c8 : Code := { maxStack := 8, maxLocals := 6, code := prog_78_method_19_code, exceptionTable := #[], attributes := #[] }
def k2m8 : Method := { name := "carryOut", desc := "(JJJ)J", sig := { parameters := [.long, .long, .long], returnType := some .long }, accessFlags := 10, code := some k2c8 }
/-- com/example/eventweir/eventweir/ExactSum -/
def k2 : Class := { plain "com/example/eventweir/eventweir/ExactSum" (some 0) with
  accessFlags := 48
  interfaces := #[]
  cf := some (fileOf pool2 8 #[] #[{ accessFlags := 0, nameIndex := 5, descriptorIndex := 6, attributes := #[] }, { accessFlags := 0, nameIndex := 129, descriptorIndex := 130, attributes := #[] }, { accessFlags := 0, nameIndex := 43, descriptorIndex := 44, attributes := #[] }, { accessFlags := 2, nameIndex := 35, descriptorIndex := 36, attributes := #[] }, { accessFlags := 2, nameIndex := 32, descriptorIndex := 29, attributes := #[] }, { accessFlags := 2, nameIndex := 39, descriptorIndex := 40, attributes := #[] }, { accessFlags := 2, nameIndex := 25, descriptorIndex := 6, attributes := #[] }, { accessFlags := 2, nameIndex := 28, descriptorIndex := 29, attributes := #[] }, { accessFlags := 10, nameIndex := 97, descriptorIndex := 98, attributes := #[] }] 48 2 #[] #[{ accessFlags := 26, nameIndex := 11, descriptorIndex := 12, attributes := #[] }, { accessFlags := 2, nameIndex := 15, descriptorIndex := 12, attributes := #[] }, { accessFlags := 2, nameIndex := 18, descriptorIndex := 19, attributes := #[] }, { accessFlags := 2, nameIndex := 22, descriptorIndex := 19, attributes := #[] }])
  fields := #[{ name := "NONE", type := (.array .long), accessFlags := 26, slot := 0, constantValue := 0 }, { name := "words", type := (.array .long), accessFlags := 2, slot := 0, constantValue := 0 }, { name := "length", type := .int, accessFlags := 2, slot := 1, constantValue := 0 }, { name := "power", type := .int, accessFlags := 2, slot := 2, constantValue := 0 }]
  methods := #[k2m0, k2m1, k2m2, k2m3, k2m4, k2m5, k2m6, k2m7, k2m8]
  instanceTypes := #[(.array .long), .int, .int]
  staticTypes := #[(.array .long)]
  resolved := Array.replicate 142 none
  statics := some 0 }

def pool3 : Array CpInfo := pool [(2, .class_ 4), (1, u "java/lang/Object"), (0, u "<init>"), (0, u "()V"), (6, .methodref 14 15), (0, .class_ 16), (0, .nameAndType 17 18), (0, u "java/util/Arrays"), (0, u "rangeCheck"), (0, u "(III)V"), (55, .class_ 76), (1, u "java/util/Arrays$NaturalOrder"), (36, .class_ 115), (1, u "java/util/Arrays$LegacyMergeSort"), (1, u "Z"), (32, .methodref 151 152), (0, .class_ 153), (0, .nameAndType 154 155), (0, u "java/lang/System"), (0, u "arraycopy"), (0, u "(Ljava/lang/Object;ILjava/lang/Object;II)V"), (146, u "copyOf"), (1, .methodref 305 306), (0, .class_ 307), (0, .nameAndType 308 309), (0, u "java/lang/Math"), (0, u "min"), (0, u "(II)I"), (65, .class_ 376), (0, u "java/util/Arrays$ArrayList"), (68, u "$assertionsDisabled"), (269, u "MIN_ARRAY_SORT_GRAN"), (0, u "I"), (2, u "INSERTIONSORT_THRESHOLD"), (120, u "fill"), (3, u "([JIIJ)V"), (27, u "([JI)[J"), (102, .class_ 976), (0, u "java/util/Arrays$ArrayItr")] 52

def k3m0 : Method := { name := "<init>", desc := "()V", sig := { parameters := [], returnType := none }, accessFlags := 2, code := none }
def k3c1 : Code := { maxStack := 4, maxLocals := 3, code := jdk_65_method_30_code, exceptionTable := #[], attributes := #[] }
def k3m1 : Method := { name := "rangeCheck", desc := "(III)V", sig := { parameters := [.int, .int, .int], returnType := none }, accessFlags := 8, code := some k3c1 }
def k3c2 : Code := { maxStack := 4, maxLocals := 6, code := jdk_65_method_102_code, exceptionTable := #[], attributes := #[] }
def k3m2 : Method := { name := "fill", desc := "([JIIJ)V", sig := { parameters := [(.array .long), .int, .int, .long], returnType := none }, accessFlags := 9, code := some k3c2 }
def k3c3 : Code := { maxStack := 6, maxLocals := 3, code := jdk_65_method_124_code, exceptionTable := #[], attributes := #[] }
def k3m3 : Method := { name := "copyOf", desc := "([JI)[J", sig := { parameters := [(.array .long), .int], returnType := some (.array .long) }, accessFlags := 9, code := some k3c3 }
/-- java/util/Arrays -/
def k3 : Class := { plain "java/util/Arrays" (some 0) with
  accessFlags := 49
  interfaces := #[]
  cf := some (fileOf pool3 14 #[.nestMembers #[975, 375, 113, 74]] #[{ accessFlags := 2, nameIndex := 5, descriptorIndex := 6, attributes := #[] }, { accessFlags := 8, nameIndex := 17, descriptorIndex := 18, attributes := #[] }, { accessFlags := 9, nameIndex := 840, descriptorIndex := 844, attributes := #[] }, { accessFlags := 9, nameIndex := 302, descriptorIndex := 872, attributes := #[] }] 49 2 #[] #[{ accessFlags := 26, nameIndex := 715, descriptorIndex := 716, attributes := #[] }, { accessFlags := 26, nameIndex := 719, descriptorIndex := 716, attributes := #[] }, { accessFlags := 4120, nameIndex := 445, descriptorIndex := 117, attributes := #[] }])
  fields := #[{ name := "MIN_ARRAY_SORT_GRAN", type := .int, accessFlags := 26, slot := 0, constantValue := 0 }, { name := "INSERTIONSORT_THRESHOLD", type := .int, accessFlags := 26, slot := 1, constantValue := 0 }, { name := "$assertionsDisabled", type := .boolean, accessFlags := 4120, slot := 2, constantValue := 0 }]
  methods := #[k3m0, k3m1, k3m2, k3m3]
  instanceTypes := #[]
  staticTypes := #[.int, .int, .boolean]
  resolved := Array.replicate 1029 none
  statics := none }

def pool4 : Array CpInfo := pool [(1, .class_ 2), (0, u "java/lang/Math"), (1, .class_ 6), (1, u "java/lang/Object"), (0, u "<init>"), (0, u "()V"), (89, .class_ 100), (1, u "java/lang/Math$RandomNumberGeneratorHolder"), (71, u "negativeZeroFloatBits"), (0, u "J"), (2, u "negativeZeroDoubleBits"), (24, u "min"), (43, u "$assertionsDisabled"), (0, u "Z"), (88, u "(II)I"), (2, u "twoToTheDoubleScaleDown"), (0, u "D"), (4, u "twoToTheDoubleScaleUp"), (9, u "E"), (3, u "PI"), (2, u "TAU"), (2, u "DEGREES_TO_RADIANS"), (0, u "RADIANS_TO_DEGREES")] 94

def k4m0 : Method := { name := "<init>", desc := "()V", sig := { parameters := [], returnType := none }, accessFlags := 2, code := none }
def k4c1 : Code := { maxStack := 2, maxLocals := 2, code := jdk_29_method_69_code, exceptionTable := #[], attributes := #[] }
def k4m1 : Method := { name := "min", desc := "(II)I", sig := { parameters := [.int, .int], returnType := some .int }, accessFlags := 9, code := some k4c1 }
/-- java/lang/Math -/
def k4 : Class := { plain "java/lang/Math" (some 0) with
  accessFlags := 49
  interfaces := #[]
  cf := some (fileOf pool4 1 #[.nestMembers #[98]] #[{ accessFlags := 2, nameIndex := 7, descriptorIndex := 8, attributes := #[] }, { accessFlags := 9, nameIndex := 201, descriptorIndex := 335, attributes := #[] }] 49 4 #[] #[{ accessFlags := 25, nameIndex := 354, descriptorIndex := 339, attributes := #[] }, { accessFlags := 25, nameIndex := 358, descriptorIndex := 339, attributes := #[] }, { accessFlags := 25, nameIndex := 361, descriptorIndex := 339, attributes := #[] }, { accessFlags := 26, nameIndex := 364, descriptorIndex := 339, attributes := #[] }, { accessFlags := 26, nameIndex := 365, descriptorIndex := 339, attributes := #[] }, { accessFlags := 26, nameIndex := 172, descriptorIndex := 173, attributes := #[] }, { accessFlags := 26, nameIndex := 176, descriptorIndex := 173, attributes := #[] }, { accessFlags := 8, nameIndex := 344, descriptorIndex := 339, attributes := #[] }, { accessFlags := 8, nameIndex := 338, descriptorIndex := 339, attributes := #[] }, { accessFlags := 4120, nameIndex := 245, descriptorIndex := 246, attributes := #[] }])
  fields := #[{ name := "E", type := .double, accessFlags := 25, slot := 0, constantValue := 0 }, { name := "PI", type := .double, accessFlags := 25, slot := 1, constantValue := 0 }, { name := "TAU", type := .double, accessFlags := 25, slot := 2, constantValue := 0 }, { name := "DEGREES_TO_RADIANS", type := .double, accessFlags := 26, slot := 3, constantValue := 0 }, { name := "RADIANS_TO_DEGREES", type := .double, accessFlags := 26, slot := 4, constantValue := 0 }, { name := "negativeZeroFloatBits", type := .long, accessFlags := 26, slot := 5, constantValue := 0 }, { name := "negativeZeroDoubleBits", type := .long, accessFlags := 26, slot := 6, constantValue := 0 }, { name := "twoToTheDoubleScaleUp", type := .double, accessFlags := 8, slot := 7, constantValue := 0 }, { name := "twoToTheDoubleScaleDown", type := .double, accessFlags := 8, slot := 8, constantValue := 0 }, { name := "$assertionsDisabled", type := .boolean, accessFlags := 4120, slot := 9, constantValue := 0 }]
  methods := #[k4m0, k4m1]
  instanceTypes := #[]
  staticTypes := #[.double, .double, .double, .double, .double, .long, .long, .double, .double, .boolean]
  resolved := Array.replicate 460 none
  statics := none }

def pool5 : Array CpInfo := pool [(2, .class_ 4), (1, u "java/lang/Object"), (0, u "<init>"), (0, u "()V"), (1, .class_ 10), (1, u "java/lang/System"), (0, u "allowSecurityManager"), (0, u "I"), (16, u "cons"), (0, u "Ljava/io/Console;"), (77, .class_ 110), (1, u "java/lang/System$CallersHolder"), (43, u "initialErrStream"), (0, u "Ljava/io/PrintStream;"), (19, u "security"), (0, u "Ljava/lang/SecurityManager;"), (31, .class_ 209), (0, u "java/lang/System$1"), (7, u "props"), (0, u "Ljava/util/Properties;"), (2, u "lineSeparator"), (0, u "Ljava/lang/String;"), (96, .class_ 321), (1, u "java/lang/System$LoggerFinder"), (5, .class_ 328), (0, u "java/lang/System$Logger"), (67, u "err"), (2, u "out"), (91, u "notSupportedJnuEncoding"), (15, u "in"), (17, u "initialIn"), (0, u "Ljava/io/InputStream;"), (35, u "bootLayer"), (0, u "Ljava/lang/ModuleLayer;"), (99, .class_ 664), (0, u "java/lang/System$2"), (9, u "NEVER"), (2, u "MAYBE"), (49, u "arraycopy"), (0, u "(Ljava/lang/Object;ILjava/lang/Object;II)V"), (72, .class_ 802), (0, u "java/lang/System$Logger$Level")] 31

def k5m0 : Method := { name := "<init>", desc := "()V", sig := { parameters := [], returnType := none }, accessFlags := 2, code := none }
def k5m1 : Method := { name := "arraycopy", desc := "(Ljava/lang/Object;ILjava/lang/Object;II)V", sig := { parameters := [(.object "java/lang/Object"), .int, (.object "java/lang/Object"), .int, .int], returnType := none }, accessFlags := 265, code := none }
/-- java/lang/System -/
def k5 : Class := { plain "java/lang/System" (some 0) with
  accessFlags := 49
  interfaces := #[]
  cf := some (fileOf pool5 8 #[.nestMembers #[319, 327, 801, 108, 663, 208]] #[{ accessFlags := 2, nameIndex := 5, descriptorIndex := 6, attributes := #[] }, { accessFlags := 265, nameIndex := 727, descriptorIndex := 728, attributes := #[] }] 49 2 #[] #[{ accessFlags := 25, nameIndex := 507, descriptorIndex := 526, attributes := #[] }, { accessFlags := 25, nameIndex := 399, descriptorIndex := 155, attributes := #[] }, { accessFlags := 25, nameIndex := 396, descriptorIndex := 155, attributes := #[] }, { accessFlags := 10, nameIndex := 525, descriptorIndex := 526, attributes := #[] }, { accessFlags := 26, nameIndex := 674, descriptorIndex := 12, attributes := #[] }, { accessFlags := 26, nameIndex := 677, descriptorIndex := 12, attributes := #[] }, { accessFlags := 10, nameIndex := 11, descriptorIndex := 12, attributes := #[] }, { accessFlags := 74, nameIndex := 175, descriptorIndex := 176, attributes := #[] }, { accessFlags := 10, nameIndex := 491, descriptorIndex := 222, attributes := #[] }, { accessFlags := 74, nameIndex := 29, descriptorIndex := 30, attributes := #[] }, { accessFlags := 74, nameIndex := 154, descriptorIndex := 155, attributes := #[] }, { accessFlags := 10, nameIndex := 217, descriptorIndex := 218, attributes := #[] }, { accessFlags := 10, nameIndex := 221, descriptorIndex := 222, attributes := #[] }, { accessFlags := 8, nameIndex := 562, descriptorIndex := 563, attributes := #[] }])
  fields := #[{ name := "in", type := (.object "java/io/InputStream"), accessFlags := 25, slot := 0, constantValue := 0 }, { name := "out", type := (.object "java/io/PrintStream"), accessFlags := 25, slot := 1, constantValue := 0 }, { name := "err", type := (.object "java/io/PrintStream"), accessFlags := 25, slot := 2, constantValue := 0 }, { name := "initialIn", type := (.object "java/io/InputStream"), accessFlags := 10, slot := 3, constantValue := 0 }, { name := "NEVER", type := .int, accessFlags := 26, slot := 4, constantValue := 0 }, { name := "MAYBE", type := .int, accessFlags := 26, slot := 5, constantValue := 0 }, { name := "allowSecurityManager", type := .int, accessFlags := 10, slot := 6, constantValue := 0 }, { name := "security", type := (.object "java/lang/SecurityManager"), accessFlags := 74, slot := 7, constantValue := 0 }, { name := "notSupportedJnuEncoding", type := (.object "java/lang/String"), accessFlags := 10, slot := 8, constantValue := 0 }, { name := "cons", type := (.object "java/io/Console"), accessFlags := 74, slot := 9, constantValue := 0 }, { name := "initialErrStream", type := (.object "java/io/PrintStream"), accessFlags := 74, slot := 10, constantValue := 0 }, { name := "props", type := (.object "java/util/Properties"), accessFlags := 10, slot := 11, constantValue := 0 }, { name := "lineSeparator", type := (.object "java/lang/String"), accessFlags := 10, slot := 12, constantValue := 0 }, { name := "bootLayer", type := (.object "java/lang/ModuleLayer"), accessFlags := 8, slot := 13, constantValue := 0 }]
  methods := #[k5m0, k5m1]
  instanceTypes := #[]
  staticTypes := #[(.object "java/io/InputStream"), (.object "java/io/PrintStream"), (.object "java/io/PrintStream"), (.object "java/io/InputStream"), .int, .int, .int, (.object "java/lang/SecurityManager"), (.object "java/lang/String"), (.object "java/io/Console"), (.object "java/io/PrintStream"), (.object "java/util/Properties"), (.object "java/lang/String"), (.object "java/lang/ModuleLayer")]
  resolved := Array.replicate 834 none
  statics := none }

def pool6 : Array CpInfo := pool [(1, u "java/lang/Cloneable"), (0, .class_ 1), (0, u "java/lang/Object"), (0, .class_ 3)] 3

/-- java/lang/Cloneable -/
def k6 : Class := { plain "java/lang/Cloneable" (some 0) with
  accessFlags := 1537
  interfaces := #[]
  cf := some (fileOf pool6 2 #[] #[] 1537 4 #[] #[])
  fields := #[]
  methods := #[]
  instanceTypes := #[]
  staticTypes := #[]
  resolved := Array.replicate 8 none
  statics := none }

def pool7 : Array CpInfo := pool [(1, u "java/io/Serializable"), (0, .class_ 1), (0, u "java/lang/Object"), (0, .class_ 3)] 3

/-- java/io/Serializable -/
def k7 : Class := { plain "java/io/Serializable" (some 0) with
  accessFlags := 1537
  interfaces := #[]
  cf := some (fileOf pool7 2 #[] #[] 1537 4 #[] #[])
  fields := #[]
  methods := #[]
  instanceTypes := #[]
  staticTypes := #[]
  resolved := Array.replicate 8 none
  statics := none }

/-- the primitive byte -/
def k8 : Class := { plain "byte" none with kind := .primitive 'B', accessFlags := 0x411 }
/-- [B -/
def k9 : Class := { plain "[B" (some 0) with kind := .array 8 .byte, interfaces := #[6, 7], accessFlags := 1041 }

/-- the primitive int -/
def k10 : Class := { plain "int" none with kind := .primitive 'I', accessFlags := 0x411 }
/-- [I -/
def k11 : Class := { plain "[I" (some 0) with kind := .array 10 .int, interfaces := #[6, 7], accessFlags := 1041 }

/-- the primitive long -/
def k12 : Class := { plain "long" none with kind := .primitive 'J', accessFlags := 0x411 }
/-- [J -/
def k13 : Class := { plain "[J" (some 0) with kind := .array 12 .long, interfaces := #[6, 7], accessFlags := 1041 }

def heap : Heap := #[{ cls := 2, slots := #[.ref 1], vm := .statics 2 },
  { cls := 13, slots := #[], vm := .none }]
def classes : Array Class := #[k0, k1, k2, k3, k4, k5, k6, k7, k8, k9, k10, k11, k12, k13]
def interned : List (Array UInt16 × Addr) := []
def slotsUsed : Nat := 1
def theMethod : MethodId := ⟨1, 1⟩
def args0 : Array Value := #[.long 6, .long 5, .long 32, .long 7, .int 8, .int 9]
def aboutOver (below : List Frame) : State where
  vm := { classes := classes, interned := interned.toArray }
  heap := heap
  slotsUsed := slotsUsed
  threads := #[{ frames := .invoking theMethod args0 :: below }]
def below0 : List Frame := [.native { method := ⟨0, 0⟩, args := #[] }]
def about1 : State := aboutOver below0
def p0 : Program := .bare "" "" ""
def e0 : Env := launch0.env 0 0 0
theorem w_frames : about1.frames = Frame.invoking theMethod args0 :: below0 := rfl
set_option maxRecDepth 65536 in
theorem w_args : argsFit about1.vm theMethod args0 = true := by decide +kernel
set_option maxRecDepth 65536 in
theorem w_heap : heapFits about1 = true := by decide +kernel
set_option maxRecDepth 65536 in
theorem w_runnable : about1.curStatus? = some .runnable := by decide +kernel
set_option maxRecDepth 65536 in
theorem w_alone : about1.alone = true := by decide +kernel
set_option maxRecDepth 65536 in
theorem w_named : about1.methodNamed? x = some theMethod := by decide +kernel
set_option maxRecDepth 65536 in
theorem w_hears : about1.hears theMethod below0 = true := by decide +kernel
set_option maxRecDepth 65536 in
theorem w_ripe : about1.ripe theMethod args0 below0 = true := by decide +kernel
theorem w_running : about1.status = .running := rfl
set_option maxRecDepth 65536 in
theorem w_room : about1.hasRoom e0.platform room_1 = true :=
  launch0.hasRoom_least _ room_1 (by decide +kernel) (by decide +kernel) (by decide +kernel) (by decide +kernel) (by decide +kernel) (by decide +kernel)
theorem allAtoms_all (ts : List Jvm.Cond) (a : Array Jvm.Value) (st : Jvm.State) : (allAtoms ts).before a st = ts.all (fun c => c.before a st) := by
  induction ts with
  | nil => rfl
  | cons c t ih =>
    show (Jvm.Cond.and c (allAtoms t)).before a st = _
    rw [Jvm.Cond.before_and, ih, List.all_cons]
def words1 : List Jvm.Cond := Jvm.Cond.code x code maxLocals ret :: tables_1
/-- a 'code' word, met by the world's own term for the bytes: nothing is compared byte by byte -/
theorem code_word {y : MethodName} {bytes : ByteArray} {mx : Nat} {rt : Option FieldType} {a : Array Value} {s : State} {m : MethodId} {meth : Method} {c : Code} (h1 : s.methodNamed? y = some m) (h2 : s.vm.method? m = some meth) (h3 : meth.code = some c) (h4 : c.code = bytes)
    (h5 : (c.maxLocals == mx && c.exceptionTable.isEmpty && decide (c.maxStack ≤ mostOperands) && decide (meth.sig.returnType = rt) && !meth.locks && decide (parseMethodDescriptor y.desc = some meth.sig)) = true) : (Jvm.Cond.code y bytes mx rt).before a s = true := by
  simp only [Bool.and_eq_true, beq_iff_eq, Bool.not_eq_true', decide_eq_true_eq] at h5
  obtain ⟨⟨⟨⟨⟨g1, g2⟩, g3⟩, g4⟩, g5⟩, g6⟩ := h5
  simp [Cond.before, Cond.holds, Cond.value, h1, h2, h3, h4, g1, g2, g3, g4, g5, g6]
def isCode : Jvm.Cond → Bool
  | .code _ _ _ _ => true
  | _ => false
theorem all_split {L : List Jvm.Cond} {P : Jvm.Cond → Bool} (h1 : L.all (fun c => isCode c || P c) = true) (h2 : ∀ c ∈ L.filter isCode, P c = true) : L.all P = true := by
  refine List.all_eq_true.mpr fun c hc => ?_
  have h := List.all_eq_true.mp h1 c hc
  rcases Bool.eq_false_or_eq_true (isCode c) with hi | hi
  · exact h2 c (List.mem_filter.mpr ⟨hc, hi⟩)
  · simpa [hi] using h
set_option maxRecDepth 65536 in
theorem w_c0 : (Jvm.Cond.code x code maxLocals ret).before args0 about1 = true := code_word (m := ⟨1, 1⟩) (meth := k1m1) (c := k1c1) (by decide +kernel) rfl rfl rfl (by decide +kernel)
set_option maxRecDepth 65536 in
theorem w_c1 : (Jvm.Cond.code ({ cls := "com/example/eventweir/eventweir/ExactSum", name := "<init>", desc := "()V" } : Jvm.MethodName) prog_78_method_1_code (1 : Nat) (Option.none : Option Jvm.ClassFile.FieldType)).before args0 about1 = true := code_word (m := ⟨2, 0⟩) (meth := k2m0) (c := k2c0) (by decide +kernel) rfl rfl rfl (by decide +kernel)
set_option maxRecDepth 65536 in
theorem w_c2 : (Jvm.Cond.code ({ cls := "java/lang/Object", name := "<init>", desc := "()V" } : Jvm.MethodName) object_method_1_code (1 : Nat) (Option.none : Option Jvm.ClassFile.FieldType)).before args0 about1 = true := code_word (m := ⟨0, 0⟩) (meth := k0m0) (c := k0c0) (by decide +kernel) rfl rfl rfl (by decide +kernel)
set_option maxRecDepth 65536 in
theorem w_c3 : (Jvm.Cond.code ({ cls := "com/example/eventweir/eventweir/ExactSum", name := "add", desc := "(JJI)V" } : Jvm.MethodName) prog_78_method_3_code (20 : Nat) (Option.none : Option Jvm.ClassFile.FieldType)).before args0 about1 = true := code_word (m := ⟨2, 1⟩) (meth := k2m1) (c := k2c1) (by decide +kernel) rfl rfl rfl (by decide +kernel)
set_option maxRecDepth 65536 in
theorem w_c4 : (Jvm.Cond.code ({ cls := "com/example/eventweir/eventweir/ExactSum", name := "widen", desc := "(I)V" } : Jvm.MethodName) prog_78_method_10_code (5 : Nat) (Option.none : Option Jvm.ClassFile.FieldType)).before args0 about1 = true := code_word (m := ⟨2, 4⟩) (meth := k2m4) (c := k2c4) (by decide +kernel) rfl rfl rfl (by decide +kernel)
set_option maxRecDepth 65536 in
theorem w_c5 : (Jvm.Cond.code ({ cls := "java/util/Arrays", name := "copyOf", desc := "([JI)[J" } : Jvm.MethodName) jdk_65_method_124_code (3 : Nat) (Option.some (Jvm.ClassFile.FieldType.array Jvm.ClassFile.FieldType.long))).before args0 about1 = true := code_word (m := ⟨3, 3⟩) (meth := k3m3) (c := k3c3) (by decide +kernel) rfl rfl rfl (by decide +kernel)
set_option maxRecDepth 65536 in
theorem w_c6 : (Jvm.Cond.code ({ cls := "java/lang/Math", name := "min", desc := "(II)I" } : Jvm.MethodName) jdk_29_method_69_code (2 : Nat) (Option.some Jvm.ClassFile.FieldType.int)).before args0 about1 = true := code_word (m := ⟨4, 1⟩) (meth := k4m1) (c := k4c1) (by decide +kernel) rfl rfl rfl (by decide +kernel)
set_option maxRecDepth 65536 in
theorem w_c7 : (Jvm.Cond.code ({ cls := "com/example/eventweir/eventweir/ExactSum", name := "addAt", desc := "(IJJ)J" } : Jvm.MethodName) prog_78_method_9_code (10 : Nat) (Option.some Jvm.ClassFile.FieldType.long)).before args0 about1 = true := code_word (m := ⟨2, 3⟩) (meth := k2m3) (c := k2c3) (by decide +kernel) rfl rfl rfl (by decide +kernel)
set_option maxRecDepth 65536 in
theorem w_c8 : (Jvm.Cond.code ({ cls := "com/example/eventweir/eventweir/ExactSum", name := "carryOut", desc := "(JJJ)J" } : Jvm.MethodName) prog_78_method_19_code (6 : Nat) (Option.some Jvm.ClassFile.FieldType.long)).before args0 about1 = true := code_word (m := ⟨2, 8⟩) (meth := k2m8) (c := k2c8) (by decide +kernel) rfl rfl rfl (by decide +kernel)
set_option maxRecDepth 65536 in
theorem w_c9 : (Jvm.Cond.code ({ cls := "com/example/eventweir/eventweir/ExactSum", name := "repeatsSign", desc := "(I)Z" } : Jvm.MethodName) prog_78_method_11_code (2 : Nat) (Option.some Jvm.ClassFile.FieldType.boolean)).before args0 about1 = true := code_word (m := ⟨2, 5⟩) (meth := k2m5) (c := k2c5) (by decide +kernel) rfl rfl rfl (by decide +kernel)
set_option maxRecDepth 65536 in
theorem w_c10 : (Jvm.Cond.code ({ cls := "com/example/eventweir/eventweir/ExactSum", name := "signum", desc := "()I" } : Jvm.MethodName) prog_78_method_5_code (2 : Nat) (Option.some Jvm.ClassFile.FieldType.int)).before args0 about1 = true := code_word (m := ⟨2, 2⟩) (meth := k2m2) (c := k2c2) (by decide +kernel) rfl rfl rfl (by decide +kernel)
set_option maxRecDepth 65536 in
theorem w_c11 : (Jvm.Cond.code ({ cls := "com/example/eventweir/eventweir/ExactSum", name := "shiftUp", desc := "(I)V" } : Jvm.MethodName) prog_78_method_13_code (13 : Nat) (Option.none : Option Jvm.ClassFile.FieldType)).before args0 about1 = true := code_word (m := ⟨2, 7⟩) (meth := k2m7) (c := k2c7) (by decide +kernel) rfl rfl rfl (by decide +kernel)
set_option maxRecDepth 65536 in
theorem w_c12 : (Jvm.Cond.code ({ cls := "java/util/Arrays", name := "fill", desc := "([JIIJ)V" } : Jvm.MethodName) jdk_65_method_102_code (6 : Nat) (Option.none : Option Jvm.ClassFile.FieldType)).before args0 about1 = true := code_word (m := ⟨3, 2⟩) (meth := k3m2) (c := k3c2) (by decide +kernel) rfl rfl rfl (by decide +kernel)
set_option maxRecDepth 65536 in
theorem w_c13 : (Jvm.Cond.code ({ cls := "java/util/Arrays", name := "rangeCheck", desc := "(III)V" } : Jvm.MethodName) jdk_65_method_30_code (3 : Nat) (Option.none : Option Jvm.ClassFile.FieldType)).before args0 about1 = true := code_word (m := ⟨3, 1⟩) (meth := k3m1) (c := k3c1) (by decide +kernel) rfl rfl rfl (by decide +kernel)
set_option maxRecDepth 65536 in
theorem w_c14 : (Jvm.Cond.code ({ cls := "com/example/eventweir/eventweir/ExactSum", name := "normalize", desc := "()V" } : Jvm.MethodName) prog_78_method_12_code (2 : Nat) (Option.none : Option Jvm.ClassFile.FieldType)).before args0 about1 = true := code_word (m := ⟨2, 6⟩) (meth := k2m6) (c := k2c6) (by decide +kernel) rfl rfl rfl (by decide +kernel)
def codes1 : List Jvm.Cond := [Jvm.Cond.code x code maxLocals ret, Jvm.Cond.code ({ cls := "com/example/eventweir/eventweir/ExactSum", name := "<init>", desc := "()V" } : Jvm.MethodName) prog_78_method_1_code (1 : Nat) (Option.none : Option Jvm.ClassFile.FieldType), Jvm.Cond.code ({ cls := "java/lang/Object", name := "<init>", desc := "()V" } : Jvm.MethodName) object_method_1_code (1 : Nat) (Option.none : Option Jvm.ClassFile.FieldType), Jvm.Cond.code ({ cls := "com/example/eventweir/eventweir/ExactSum", name := "add", desc := "(JJI)V" } : Jvm.MethodName) prog_78_method_3_code (20 : Nat) (Option.none : Option Jvm.ClassFile.FieldType), Jvm.Cond.code ({ cls := "com/example/eventweir/eventweir/ExactSum", name := "widen", desc := "(I)V" } : Jvm.MethodName) prog_78_method_10_code (5 : Nat) (Option.none : Option Jvm.ClassFile.FieldType), Jvm.Cond.code ({ cls := "java/util/Arrays", name := "copyOf", desc := "([JI)[J" } : Jvm.MethodName) jdk_65_method_124_code (3 : Nat) (Option.some (Jvm.ClassFile.FieldType.array Jvm.ClassFile.FieldType.long)), Jvm.Cond.code ({ cls := "java/lang/Math", name := "min", desc := "(II)I" } : Jvm.MethodName) jdk_29_method_69_code (2 : Nat) (Option.some Jvm.ClassFile.FieldType.int), Jvm.Cond.code ({ cls := "com/example/eventweir/eventweir/ExactSum", name := "addAt", desc := "(IJJ)J" } : Jvm.MethodName) prog_78_method_9_code (10 : Nat) (Option.some Jvm.ClassFile.FieldType.long), Jvm.Cond.code ({ cls := "com/example/eventweir/eventweir/ExactSum", name := "carryOut", desc := "(JJJ)J" } : Jvm.MethodName) prog_78_method_19_code (6 : Nat) (Option.some Jvm.ClassFile.FieldType.long), Jvm.Cond.code ({ cls := "com/example/eventweir/eventweir/ExactSum", name := "repeatsSign", desc := "(I)Z" } : Jvm.MethodName) prog_78_method_11_code (2 : Nat) (Option.some Jvm.ClassFile.FieldType.boolean), Jvm.Cond.code ({ cls := "com/example/eventweir/eventweir/ExactSum", name := "signum", desc := "()I" } : Jvm.MethodName) prog_78_method_5_code (2 : Nat) (Option.some Jvm.ClassFile.FieldType.int), Jvm.Cond.code ({ cls := "com/example/eventweir/eventweir/ExactSum", name := "shiftUp", desc := "(I)V" } : Jvm.MethodName) prog_78_method_13_code (13 : Nat) (Option.none : Option Jvm.ClassFile.FieldType), Jvm.Cond.code ({ cls := "java/util/Arrays", name := "fill", desc := "([JIIJ)V" } : Jvm.MethodName) jdk_65_method_102_code (6 : Nat) (Option.none : Option Jvm.ClassFile.FieldType), Jvm.Cond.code ({ cls := "java/util/Arrays", name := "rangeCheck", desc := "(III)V" } : Jvm.MethodName) jdk_65_method_30_code (3 : Nat) (Option.none : Option Jvm.ClassFile.FieldType), Jvm.Cond.code ({ cls := "com/example/eventweir/eventweir/ExactSum", name := "normalize", desc := "()V" } : Jvm.MethodName) prog_78_method_12_code (2 : Nat) (Option.none : Option Jvm.ClassFile.FieldType)]
set_option maxRecDepth 65536 in
theorem codes_eq : words1.filter isCode = codes1 := rfl
theorem w_codes : ∀ c ∈ words1.filter isCode, c.before args0 about1 = true := by
  rw [codes_eq]
  intro c hc
  simp only [codes1, List.mem_cons, List.not_mem_nil, or_false] at hc
  rcases hc with rfl | rfl | rfl | rfl | rfl | rfl | rfl | rfl | rfl | rfl | rfl | rfl | rfl | rfl | rfl
  · exact w_c0
  · exact w_c1
  · exact w_c2
  · exact w_c3
  · exact w_c4
  · exact w_c5
  · exact w_c6
  · exact w_c7
  · exact w_c8
  · exact w_c9
  · exact w_c10
  · exact w_c11
  · exact w_c12
  · exact w_c13
  · exact w_c14
set_option maxRecDepth 65536 in
theorem w_t1 : (words1.take 24).all (fun c => isCode c || c.before args0 about1) = true := by decide +kernel
set_option maxRecDepth 65536 in
theorem w_t2 : ((words1.drop 24).take 24).all (fun c => isCode c || c.before args0 about1) = true := by decide +kernel
set_option maxRecDepth 65536 in
theorem w_t3 : (((words1.drop 24).drop 24).take 24).all (fun c => isCode c || c.before args0 about1) = true := by decide +kernel
set_option maxRecDepth 65536 in
theorem w_t4 : (((words1.drop 24).drop 24).drop 24).all (fun c => isCode c || c.before args0 about1) = true := by decide +kernel
theorem w_tables : (allAtoms (Jvm.Cond.code x code maxLocals ret :: tables_1)).before args0 about1 = true := by
  rw [allAtoms_all]
  show words1.all (fun c => c.before args0 about1) = true
  refine all_split ?_ w_codes
  rw [← List.take_append_drop 24 words1, List.all_append, w_t1, ← List.take_append_drop 24 (words1.drop 24), List.all_append, w_t2, ← List.take_append_drop 24 ((words1.drop 24).drop 24), List.all_append, w_t3, w_t4]
  rfl
set_option maxRecDepth 65536 in
theorem w_case : (Jvm.Cond.and given_1 narrow_1).before args0 about1 = true := by decide +kernel
theorem w_applies : (headSpec (Jvm.Cond.code x code maxLocals ret :: tables_1) room_1).applies x e0.platform about1 = true :=
  (Spec.applies_iff w_frames).mpr ⟨w_running, w_runnable, w_alone, w_named, w_hears, w_ripe, w_room, w_tables⟩
theorem atStart : AtStart classFile x code maxLocals ret World_1 tables_1 room_1 Calls_1 rest_1 Pre_1 launch0 p0 e0 about1 theMethod args0 below0 :=
  ⟨lists_1, trivial, launch0.admits_env _ _ _, launch0.least_env, fairChoices_fair.cas, fairChoices_fair.clock, w_frames, w_args, w_heap, w_applies, trivial, trivial, w_case⟩
end start1
theorem witness_1 : WitnessClaimed_1 := ⟨start1.p0, start1.e0, start1.about1, start1.theMethod, start1.args0, start1.below0, start1.atStart⟩
end Jvm.Pilot.@@N@@
