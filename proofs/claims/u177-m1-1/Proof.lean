import JvmDerived
import JvmDerived.Pilot.@@N@@Statement
import JvmDerived.Pilot.@@N@@Code
set_option linter.unusedVariables false
set_option linter.unusedSimpArgs false
namespace Jvm.Pilot.@@N@@
open Jvm Jvm.ClassFile Sem Op Lib Jvm.Free Jvm.Stand Jvm.LawKit Jvm.RoadKit Bundle Jvm.Pilot.@@N@@.Jvm.D
section Own
/-- from the state U the body comes to its end, and P holds there of what it returns, of the heap and of the places that were written -/
def own_G (tb : Tables) (e : Env) (below : List Frame) (s : State) (P : Option Value → Heap → List Loc → Prop) (k n : Nat) (U : State) : Prop :=
  ∃ s₂ o, Steps tb e below U s₂ ∧ s₂.status = .running ∧ Ended s₂ below o ∧ ∃ v L, o = .returned v ∧ P v s₂.heap L ∧ FrameEnd s o s₂ L k n
theorem own_up {tb : Tables} {e : Env} {below : List Frame} {s : State} {P : Option Value → Heap → List Loc → Prop} {k n : Nat} {U U' : State} (h : own_G tb e below s P k n U') (q : ∀ t, Steps tb e below U' t → Steps tb e below U t) : own_G tb e below s P k n U := by
  obtain ⟨s₂, o, h1, r⟩ := h
  exact ⟨s₂, o, q _ h1, r⟩
variable {p : Program} {l : Launch} {e : Env} {R : Room} {s : State} {m : MethodId} {args : Array Value} {below : List Frame} {meth : Method} {c : Code} {T : State} {locs : List Loc} {cells slots : Nat} {P : Option Value → Heap → List Loc → Prop} {k n : Nat}
theorem own_retI (X : Stand p l e R s m args below meth c T locs cells slots) (hx : p.tables.exec = Jvm.exec) (hlk : meth.locks = false) {t : FieldType} (hret : meth.sig.returnType = some t) (hti : t = .int ∨ t = .boolean ∨ t = .byte ∨ t = .char ∨ t = .short) {pc : Nat} {Ls : Array Slot} {w : Int32} (hn : narrow t (.int w) = .int w) (hd : decode c.code pc = .ok (.ireturn, 1)) (hP : P (some (.int w)) T.heap locs) (hk : cells ≤ k) (hs : slots ≤ n) : own_G p.tables e below s P k n (T.setTop (mkF m pc Ls [.int w])) := by
  obtain ⟨fs, hr, hrun, hended, hW, hsame⟩ := X.leave (v := some (.int w)) (fun h => by rw [hret] at h; cases h) hlk
  exact ⟨_, _, X.ireturnOut hx hret hn hti hd hr, hrun, hended, _, _, rfl, hP, ⟨_, rfl⟩, hW, hsame.mono hk hs⟩
theorem own_retJ (X : Stand p l e R s m args below meth c T locs cells slots) (hx : p.tables.exec = Jvm.exec) (hlk : meth.locks = false) (hret : meth.sig.returnType = some .long) {pc : Nat} {Ls : Array Slot} {w : Int64} (hd : decode c.code pc = .ok (.lreturn, 1)) (hP : P (some (.long w)) T.heap locs) (hk : cells ≤ k) (hs : slots ≤ n) : own_G p.tables e below s P k n (T.setTop (mkF m pc Ls [.long w])) := by
  obtain ⟨fs, hr, hrun, hended, hW, hsame⟩ := X.leave (v := some (.long w)) (fun h => by rw [hret] at h; cases h) hlk
  exact ⟨_, _, X.lreturnOut hx hret hd hr, hrun, hended, _, _, rfl, hP, ⟨_, rfl⟩, hW, hsame.mono hk hs⟩
theorem own_retA (X : Stand p l e R s m args below meth c T locs cells slots) (hx : p.tables.exec = Jvm.exec) (hlk : meth.locks = false) {t : FieldType} (hret : meth.sig.returnType = some t) (ht : t.isReference = true) {pc : Nat} {Ls : Array Slot} {w : Value} (hw : w.isRef = true) (hd : decode c.code pc = .ok (.areturn, 1)) (hP : P (some w) T.heap locs) (hk : cells ≤ k) (hs : slots ≤ n) : own_G p.tables e below s P k n (T.setTop (mkF m pc Ls [w])) := by
  obtain ⟨fs, hr, hrun, hended, hW, hsame⟩ := X.leave (v := some w) (fun h => by rw [hret] at h; cases h) hlk
  exact ⟨_, _, X.areturnOut hx hw hret ht hd hr, hrun, hended, _, _, rfl, hP, ⟨_, rfl⟩, hW, hsame.mono hk hs⟩
theorem own_retV (X : Stand p l e R s m args below meth c T locs cells slots) (hx : p.tables.exec = Jvm.exec) (hlk : meth.locks = false) (hret : meth.sig.returnType = none) {pc : Nat} {Ls : Array Slot} (hd : decode c.code pc = .ok (.return_, 1)) (hP : P none T.heap locs) (hk : cells ≤ k) (hs : slots ≤ n) : own_G p.tables e below s P k n (T.setTop (mkF m pc Ls [])) := by
  obtain ⟨fs, hr, hrun, hended, hW, hsame⟩ := X.leave (v := none) (fun _ => rfl) hlk
  exact ⟨_, _, X.returnOut hx hret hd hr, hrun, hended, _, _, rfl, hP, ⟨_, rfl⟩, hW, hsame.mono hk hs⟩
end Own
theorem own_retD {p : Program} {l : Launch} {e : Env} {R : Room} {s : State} {m : MethodId} {args : Array Value} {below : List Frame} {meth : Method} {c : Code} {T : State} {locs : List Loc} {cells slots : Nat} {P : Option Value → Heap → List Loc → Prop} {k n : Nat} (X : Stand p l e R s m args below meth c T locs cells slots) (hx : p.tables.exec = Jvm.exec) (hlk : meth.locks = false) (hret : meth.sig.returnType = some .double) {pc : Nat} {Ls : Array Slot} {w : UInt64} (hd : decode c.code pc = .ok (.dreturn, 1)) (hP : P (some (.double w)) T.heap locs) (hk : cells ≤ k) (hs : slots ≤ n) : own_G p.tables e below s P k n (T.setTop (mkF m pc Ls [.double w])) := by
  obtain ⟨fs, hr, hrun, hended, hW, hsame⟩ := X.leave (v := some (.double w)) (fun h => by rw [hret] at h; cases h) hlk
  exact ⟨_, _, retOut X hx hret rfl (Or.inr (Or.inr (Or.inl ⟨rfl, rfl, _, rfl⟩))) hd hr, hrun, hended, _, _, rfl, hP, ⟨_, rfl⟩, hW, hsame.mono hk hs⟩
def own_byte (b : Int64) : Prop := -128 ≤ b.toInt ∧ b.toInt ≤ 127
def own_shift (b : Int64) (z p : Int32) : Int64 := if z = (0 : Int32) then b else ((b + (1 : Int64)) + (p.toInt64))
theorem own_b1 : B53 (1 : Int64) := ⟨by decide, by decide⟩
theorem own_bb {b : Int64} (h : own_byte b) : B53 b := ⟨by have := h.1; omega, by have := h.2; omega⟩
theorem own_add1 {b : Int64} (h : own_byte b) : (b + (1 : Int64)).toInt = b.toInt + 1 := by
  have := c_ladd b 1; have := h.1; have := h.2; have := rng64 (b + 1)
  have : (1 : Int64).toInt = 1 := rfl
  omega
theorem own_bb1 {b : Int64} (h : own_byte b) : B53 (b + (1 : Int64)) := by
  have e := own_add1 h
  exact ⟨by have := h.1; omega, by have := h.2; omega⟩
theorem own_bp {p : Int32} (h : 0 ≤ p.toInt ∧ p.toInt ≤ 3) : B53 (p.toInt64) := by
  have e := c_i2l p
  exact ⟨by omega, by omega⟩
theorem own_isb {b : Int64} {x : Int32} (h : b = ((x.toInt8.toInt32).toInt64)) : own_byte b := by
  have e := c_i2l x.toInt8.toInt32
  have := c_i2b x
  subst h
  exact ⟨by omega, by omega⟩
theorem own_amt {m x : Int32} (h : m = (x &&& (3 : Int32))) : 0 ≤ m.toInt ∧ m.toInt ≤ 3 := by
  subst h
  have := c_and x 3 (by decide)
  have : (3 : Int32).toInt = 3 := rfl
  omega
theorem own_sum {b : Int64} {p : Int32} (h : own_byte b) (hp : 0 ≤ p.toInt ∧ p.toInt ≤ 3) : ((b + (1 : Int64)) + (p.toInt64)).toInt = b.toInt + 1 + p.toInt := by
  have := c_ladd (b + 1) p.toInt64; have := own_add1 h; have := h.1; have := h.2; have := rng64 ((b + 1) + p.toInt64); have := c_i2l p
  omega
theorem own_bs {w b : Int64} {z p : Int32} (h : w = own_shift b z p) (hb : own_byte b) (hp : 0 ≤ p.toInt ∧ p.toInt ≤ 3) : B53 w := by
  subst h
  unfold own_shift
  split
  · exact own_bb hb
  · have := own_sum hb hp; have := hb.1; have := hb.2
    exact ⟨by omega, by omega⟩
/-- the two values are alike just where nothing differs -/
theorem own_sh {w b : Int64} {z p x : Int32} (h : w = own_shift b z p) (hz : z = (if x = (0 : Int32) then (0 : Int32) else (1 : Int32))) (hb : own_byte b) (hp : 0 ≤ p.toInt ∧ p.toInt ≤ 3) : b = w ↔ z = (0 : Int32) := by
  subst h
  unfold own_shift
  by_cases c : z = 0
  · rw [if_pos c]; exact ⟨fun _ => c, fun _ => rfl⟩
  · rw [if_neg c]
    refine ⟨fun q => ?_, fun q => absurd q c⟩
    have h1 := congrArg Int64.toInt q
    have := own_sum hb hp
    omega
def own_same (va x1 x2 x3 vo y1 y2 y3 : Int64) : Int32 := if va = vo then (if x1 = y1 then (if x2 = y2 then (if x3 = y3 then 1 else 0) else 0) else 0) else 0
theorem own_l1 {v0 v1 v2 v3 w0 w1 w2 w3 : Int64} {dv d0 d1 d2 : Int32} (h0 : v0 = w0 ↔ dv = (0 : Int32)) (h1 : v1 = w1 ↔ d0 = (0 : Int32)) (h2 : v2 = w2 ↔ d1 = (0 : Int32)) (h3 : v3 = w3 ↔ d2 = (0 : Int32)) :
    own_same v0 v1 v2 v3 w0 w1 w2 w3 = (if dv = (0 : Int32) then (if d0 = (0 : Int32) then (if d1 = (0 : Int32) then (if d2 = (0 : Int32) then (1 : Int32) else (0 : Int32)) else (0 : Int32)) else (0 : Int32)) else (0 : Int32)) := by
  unfold own_same
  simp only [h0, h1, h2, h3]
theorem own_l2 {v0 v1 v2 v3 w0 w1 w2 w3 : Int64} {dv d0 d1 d2 : Int32} (h0 : v0 = w0 ↔ dv = (0 : Int32)) (h1 : v1 = w1 ↔ d0 = (0 : Int32)) (h2 : v2 = w2 ↔ d1 = (0 : Int32)) (h3 : v3 = w3 ↔ d2 = (0 : Int32)) :
    own_same w0 w1 w2 w3 v0 v1 v2 v3 = (if dv = (0 : Int32) then (if d0 = (0 : Int32) then (if d1 = (0 : Int32) then (if d2 = (0 : Int32) then (1 : Int32) else (0 : Int32)) else (0 : Int32)) else (0 : Int32)) else (0 : Int32)) := by
  unfold own_same
  simp only [eq_comm (a := w0) (b := v0), eq_comm (a := w1) (b := v1), eq_comm (a := w2) (b := v2), eq_comm (a := w3) (b := v3), h0, h1, h2, h3]
theorem own_pd0 : parseMethodDescriptor "(DZI)D" = some ⟨[.double, .boolean, .int], some .double⟩ := by decide +kernel
theorem own_pd1 : parseMethodDescriptor "([D[DD)V" = some ⟨[(.array .double), (.array .double), .double], none⟩ := by decide +kernel
theorem own_pd2 : parseMethodDescriptor "(Lcom/example/swarmfront/swarmfront/swarm/Point;)Z" = some ⟨[(.object "com/example/swarmfront/swarmfront/swarm/Point")], some .boolean⟩ := by decide +kernel
theorem own_d1_0 : decode method_2_code 0 = .ok (.iload_n 2, 1) := by decide +kernel
theorem own_d1_1 : decode method_2_code 1 = .ok (.ifCond .eq 12, 3) := by decide +kernel
theorem own_d1_4 : decode method_2_code 4 = .ok (.dload_n 0, 1) := by decide +kernel
theorem own_d1_5 : decode method_2_code 5 = .ok (.dconst 1, 1) := by decide +kernel
theorem own_d1_6 : decode method_2_code 6 = .ok (.dadd, 1) := by decide +kernel
theorem own_d1_7 : decode method_2_code 7 = .ok (.iload_n 3, 1) := by decide +kernel
theorem own_d1_8 : decode method_2_code 8 = .ok (.i2d, 1) := by decide +kernel
theorem own_d1_9 : decode method_2_code 9 = .ok (.dadd, 1) := by decide +kernel
theorem own_d1_10 : decode method_2_code 10 = .ok (.goto 4, 3) := by decide +kernel
theorem own_d1_13 : decode method_2_code 13 = .ok (.dload_n 0, 1) := by decide +kernel
theorem own_d1_14 : decode method_2_code 14 = .ok (.dreturn, 1) := by decide +kernel
theorem own_pn0 : plainName "com/example/swarmfront/swarmfront/swarm/PointSameValuesPinLaw" = true := by first | (simp [plainName, overriddenIn]; done) | decide +kernel
theorem own_ef_rm1 (m : MethodId) (x0 : UInt64) (x1 : Int32) (x2 : Int32) : entryFrame m #[(.double x0), (.int x1), (.int x2)] 4 = mkF m 0 #[.val (.double x0), .second, .val (.int x1), .val (.int x2)] [] := by first | (simp [entryFrame, mkF, argsToLocals, Value.category]; done) | rfl
def own_Q_rm1 (Z : State) (z : Int32) (am : Int32) (b : Int64) (h0 : Heap) (n0 : Nat) (v : Option Value) (h : Heap) (L : List Loc) : Prop := v = some (.double (FP.l2d (own_shift b z am))) ∧ Fr n0 L ∧ h = h0
set_option maxRecDepth 65536 in
set_option maxHeartbeats 40000000 in
theorem rm1 (l : Launch) (Z : State) (a0 : Array Value) (hw : ∀ d ∈ tables_1, d.before a0 Z = true) (ws : List Jvm.Cond) (z : Int32) (am : Int32) (b : Int64) (h0 : Heap) (n0 : Nat) (Z0 : n0 ≤ h0.size) (hbt : own_byte b) (hp : 0 ≤ am.toInt ∧ am.toInt ≤ 3) :
    MetFree l (⟨"com/example/swarmfront/swarmfront/swarm/PointSameValuesPinLaw", "shifted", "(DZI)D"⟩ : MethodName) (head1 (Jvm.Cond.code (⟨"com/example/swarmfront/swarmfront/swarm/PointSameValuesPinLaw", "shifted", "(DZI)D"⟩ : MethodName) method_2_code 4 (some .double) :: ws) ({ frames := 0, cells := 0, slots := 0, locals := 0 } : Room)) (fun aa UU => aa = #[(.double (FP.l2d b)), (.int z), (.int am)] ∧ Z.Warmed39 UU.vm ∧ UU.heap = h0) (fun _ _ _ _ _ => True) (fun _ UU oo UU' => ∃ vv LL, oo = .returned vv ∧ own_Q_rm1 Z z am b h0 n0 vv UU'.heap LL ∧ FrameEnd UU oo UU' LL ({ frames := 0, cells := 0, slots := 0, locals := 0 } : Room).cells ({ frames := 0, cells := 0, slots := 0, locals := 0 } : Room).slots) := by
  refine MetFree.of_bodySF (plainFor_of_name own_pn0) hisR ?_
  intro p e s m args below meth c s₁ Bd hml0 hP hK
  obtain ⟨rfl, hZ, hh⟩ := hP
  have hx := Bd.exec
  have hby := Bd.bytes
  have hlk := Bd.notSynchronized
  have hml : c.maxLocals = 4 := hml0
  have hown : s.vm.findClass "com/example/swarmfront/swarmfront/swarm/PointSameValuesPinLaw" = some m.cls := findClass_of_methodNamed Bd.named
  have hnm := (name_of_methodNamed Bd.named Bd.method).1
  have X0 : Stand p l e ({ frames := 0, cells := 0, slots := 0, locals := 0 } : Room) s m #[(.double (FP.l2d b)), (.int z), (.int am)] below meth c s₁ [] 0 0 := Stand.of_body Bd
  have e0 : s₁.heap = h0 := by rw [← hh, Bd.state]; rfl
  have N0 := Fr.nil n0
  show own_G p.tables e below s (own_Q_rm1 Z z am b h0 n0) ({ frames := 0, cells := 0, slots := 0, locals := 0 } : Room).cells ({ frames := 0, cells := 0, slots := 0, locals := 0 } : Room).slots (s₁.setTop (entryFrame m #[(.double (FP.l2d b)), (.int z), (.int am)] 4))
  refine own_up (U' := s₁.setTop (mkF m 0 #[.val (.double (FP.l2d b)), .second, .val (.int z), .val (.int am)] [])) ?_ (fun t k => castTop (own_ef_rm1 m (FP.l2d b) z am) k)
  refine own_up ?_ fun t k => XS.iloadN X0.here hx rfl (hb hby own_d1_0) rfl k
  show own_G p.tables e below s _ _ _ (s₁.setTop (mkF m 1 #[.val (.double (FP.l2d b)), .second, .val (.int z), .val (.int am)] [(.int z)]))
  by_cases hc1_1 : z = (0 : Int32)
  · refine own_up ?_ fun t k => XS.ifYes X0.here hx rfl (pc0 := 1) (pc' := 13) rfl (hb hby own_d1_1) rfl ((if0 _ _).trans (teq hc1_1).1) (by decide) (by decide) k
    show own_G p.tables e below s _ _ _ (s₁.setTop (mkF m 13 #[.val (.double (FP.l2d b)), .second, .val (.int z), .val (.int am)] []))
    refine own_up ?_ fun t k => XS.dloadN X0.here hx rfl (hb hby own_d1_13) rfl k
    show own_G p.tables e below s _ _ _ (s₁.setTop (mkF m 14 #[.val (.double (FP.l2d b)), .second, .val (.int z), .val (.int am)] [(.double (FP.l2d b))]))
    exact own_retD X0 hx hlk Bd.returns (hb hby own_d1_14) ⟨congrArg (fun z => some (Value.double (FP.l2d z))) (by simp only [own_shift, if_pos hc1_1]), N0, e0⟩ (by decide) (by decide)
  · refine own_up ?_ fun t k => XS.ifNo X0.here hx rfl (hb hby own_d1_1) rfl ((if0 _ _).trans (feq hc1_1).1) k
    show own_G p.tables e below s _ _ _ (s₁.setTop (mkF m 4 #[.val (.double (FP.l2d b)), .second, .val (.int z), .val (.int am)] []))
    refine own_up ?_ fun t k => XS.dloadN X0.here hx rfl (hb hby own_d1_4) rfl k
    show own_G p.tables e below s _ _ _ (s₁.setTop (mkF m 5 #[.val (.double (FP.l2d b)), .second, .val (.int z), .val (.int am)] [(.double (FP.l2d b))]))
    refine own_up ?_ fun t k => XS.dconst1 X0.here hx rfl (hb hby own_d1_5) (by decide +kernel : FP.dconst1 = FP.l2d (1 : Int64)) k
    show own_G p.tables e below s _ _ _ (s₁.setTop (mkF m 6 #[.val (.double (FP.l2d b)), .second, .val (.int z), .val (.int am)] [(.double (FP.l2d (1 : Int64))), (.double (FP.l2d b))]))
    refine own_up ?_ fun t k => XS.daddS X0.here hx rfl (hb hby own_d1_6) rfl (nn_w (dadd_w (own_bb hbt) own_b1)) (dadd_w (own_bb hbt) own_b1) k
    show own_G p.tables e below s _ _ _ (s₁.setTop (mkF m 7 #[.val (.double (FP.l2d b)), .second, .val (.int z), .val (.int am)] [(.double (FP.l2d (b + (1 : Int64))))]))
    refine own_up ?_ fun t k => XS.iloadN X0.here hx rfl (hb hby own_d1_7) rfl k
    show own_G p.tables e below s _ _ _ (s₁.setTop (mkF m 8 #[.val (.double (FP.l2d b)), .second, .val (.int z), .val (.int am)] [(.int am), (.double (FP.l2d (b + (1 : Int64))))]))
    refine own_up ?_ fun t k => XS.i2dS X0.here hx rfl (hb hby own_d1_8) rfl (i2d_w _) k
    show own_G p.tables e below s _ _ _ (s₁.setTop (mkF m 9 #[.val (.double (FP.l2d b)), .second, .val (.int z), .val (.int am)] [(.double (FP.l2d (am.toInt64))), (.double (FP.l2d (b + (1 : Int64))))]))
    refine own_up ?_ fun t k => XS.daddS X0.here hx rfl (hb hby own_d1_9) rfl (nn_w (dadd_w (own_bb1 hbt) (own_bp hp))) (dadd_w (own_bb1 hbt) (own_bp hp)) k
    show own_G p.tables e below s _ _ _ (s₁.setTop (mkF m 10 #[.val (.double (FP.l2d b)), .second, .val (.int z), .val (.int am)] [(.double (FP.l2d ((b + (1 : Int64)) + (am.toInt64))))]))
    refine own_up ?_ fun t k => XS.goto X0.here hx rfl (pc0 := 10) (pc' := 14) rfl (hb hby own_d1_10) (by decide) (by decide) k
    show own_G p.tables e below s _ _ _ (s₁.setTop (mkF m 14 #[.val (.double (FP.l2d b)), .second, .val (.int z), .val (.int am)] [(.double (FP.l2d ((b + (1 : Int64)) + (am.toInt64))))]))
    exact own_retD X0 hx hlk Bd.returns (hb hby own_d1_14) ⟨congrArg (fun z => some (Value.double (FP.l2d z))) (by simp only [own_shift, if_neg hc1_1]), N0, e0⟩ (by decide) (by decide)
theorem own_d2_0 : decode prog_23_method_1_code 0 = .ok (.aload_n 0, 1) := by decide +kernel
theorem own_d2_1 : decode prog_23_method_1_code 1 = .ok (.invokespecial 1, 3) := by decide +kernel
theorem own_d2_4 : decode prog_23_method_1_code 4 = .ok (.aload_n 0, 1) := by decide +kernel
theorem own_d2_5 : decode prog_23_method_1_code 5 = .ok (.aload_n 1, 1) := by decide +kernel
theorem own_d2_6 : decode prog_23_method_1_code 6 = .ok (.putfield 7, 3) := by decide +kernel
theorem own_d2_9 : decode prog_23_method_1_code 9 = .ok (.aload_n 0, 1) := by decide +kernel
theorem own_d2_10 : decode prog_23_method_1_code 10 = .ok (.aload_n 2, 1) := by decide +kernel
theorem own_d2_11 : decode prog_23_method_1_code 11 = .ok (.putfield 13, 3) := by decide +kernel
theorem own_d2_14 : decode prog_23_method_1_code 14 = .ok (.aload_n 0, 1) := by decide +kernel
theorem own_d2_15 : decode prog_23_method_1_code 15 = .ok (.dload_n 3, 1) := by decide +kernel
theorem own_d2_16 : decode prog_23_method_1_code 16 = .ok (.putfield 16, 3) := by decide +kernel
theorem own_d2_19 : decode prog_23_method_1_code 19 = .ok (.return_, 1) := by decide +kernel
theorem own_pn1 : plainName "com/example/swarmfront/swarmfront/swarm/Point" = true := by first | (simp [plainName, overriddenIn]; done) | decide +kernel
theorem own_ef_rm2 (m : MethodId) (x0 : Addr) (x1 : Addr) (x2 : Addr) (x3 : UInt64) : entryFrame m #[(.ref x0), (.ref x1), (.ref x2), (.double x3)] 5 = mkF m 0 #[.val (.ref x0), .val (.ref x1), .val (.ref x2), .val (.double x3), .second] [] := by first | (simp [entryFrame, mkF, argsToLocals, Value.category]; done) | rfl
def own_Q_rm2 (Z : State) (a : Addr) (r1 : Addr) (r2 : Addr) (d1 : UInt64) (u_variables : Value) (u_objectives : Value) (u_violation : Value) (h0 : Heap) (n0 : Nat) (v : Option Value) (h : Heap) (L : List Loc) : Prop := v = none ∧ Fr n0 L ∧ Keep h0 h [a] ∧ Fld Z h a "com/example/swarmfront/swarmfront/swarm/Point" "variables" "[D" (.ref r1) ∧ Fld Z h a "com/example/swarmfront/swarmfront/swarm/Point" "objectives" "[D" (.ref r2) ∧ Fld Z h a "com/example/swarmfront/swarmfront/swarm/Point" "violation" "D" (.double d1)
set_option maxRecDepth 65536 in
set_option maxHeartbeats 40000000 in
theorem rm2 (l : Launch) (Z : State) (a0 : Array Value) (hw : ∀ d ∈ tables_1, d.before a0 Z = true) (ws : List Jvm.Cond) (a : Addr) (r1 : Addr) (r2 : Addr) (d1 : UInt64) (u_variables : Value) (u_objectives : Value) (u_violation : Value) (h0 : Heap) (n0 : Nat) (Z0 : n0 ≤ h0.size) (E_a : Exa Z h0 a "com/example/swarmfront/swarmfront/swarm/Point") (F_variables : Fld Z h0 a "com/example/swarmfront/swarmfront/swarm/Point" "variables" "[D" u_variables) (F_objectives : Fld Z h0 a "com/example/swarmfront/swarmfront/swarm/Point" "objectives" "[D" u_objectives) (F_violation : Fld Z h0 a "com/example/swarmfront/swarmfront/swarm/Point" "violation" "D" u_violation) (g_a : n0 ≤ a) :
    MetFree l (⟨"com/example/swarmfront/swarmfront/swarm/Point", "<init>", "([D[DD)V"⟩ : MethodName) (head1 (Jvm.Cond.code (⟨"com/example/swarmfront/swarmfront/swarm/Point", "<init>", "([D[DD)V"⟩ : MethodName) prog_23_method_1_code 5 none :: ws) ({ frames := 1, cells := 0, slots := 0, locals := 12 } : Room)) (fun aa UU => aa = #[(.ref a), (.ref r1), (.ref r2), (.double d1)] ∧ Z.Warmed39 UU.vm ∧ UU.heap = h0) (fun _ _ _ _ _ => True) (fun _ UU oo UU' => ∃ vv LL, oo = .returned vv ∧ own_Q_rm2 Z a r1 r2 d1 u_variables u_objectives u_violation h0 n0 vv UU'.heap LL ∧ FrameEnd UU oo UU' LL ({ frames := 1, cells := 0, slots := 0, locals := 12 } : Room).cells ({ frames := 1, cells := 0, slots := 0, locals := 12 } : Room).slots) := by
  refine MetFree.of_bodySF (plainFor_of_name own_pn1) hisR ?_
  intro p e s m args below meth c s₁ Bd hml0 hP hK
  obtain ⟨rfl, hZ, hh⟩ := hP
  have hx := Bd.exec
  have hby := Bd.bytes
  have hlk := Bd.notSynchronized
  have hml : c.maxLocals = 5 := hml0
  have hown : s.vm.findClass "com/example/swarmfront/swarmfront/swarm/Point" = some m.cls := findClass_of_methodNamed Bd.named
  have hnm := (name_of_methodNamed Bd.named Bd.method).1
  have X0 : Stand p l e ({ frames := 1, cells := 0, slots := 0, locals := 12 } : Room) s m #[(.ref a), (.ref r1), (.ref r2), (.double d1)] below meth c s₁ [] 0 0 := Stand.of_body Bd
  have e0 : s₁.heap = h0 := by rw [← hh, Bd.state]; rfl
  have N0 := Fr.nil n0
  show own_G p.tables e below s (own_Q_rm2 Z a r1 r2 d1 u_variables u_objectives u_violation h0 n0) ({ frames := 1, cells := 0, slots := 0, locals := 12 } : Room).cells ({ frames := 1, cells := 0, slots := 0, locals := 12 } : Room).slots (s₁.setTop (entryFrame m #[(.ref a), (.ref r1), (.ref r2), (.double d1)] 5))
  have K0 := Keep.refl h0 [a]
  refine own_up (U' := s₁.setTop (mkF m 0 #[.val (.ref a), .val (.ref r1), .val (.ref r2), .val (.double d1), .second] [])) ?_ (fun t k => castTop (own_ef_rm2 m a r1 r2 d1) k)
  refine own_up ?_ fun t k => XS.aloadN X0.here hx rfl (hb hby own_d2_0) rfl rfl k
  show own_G p.tables e below s _ _ _ (s₁.setTop (mkF m 1 #[.val (.ref a), .val (.ref r1), .val (.ref r2), .val (.double d1), .second] [(.ref a)]))
  obtain ⟨T2, X2, e2, st2⟩ := initO X0 hx hZ hown (hw _ (List.mem_of_getElem? (i := 11) rfl)) (hw _ (List.mem_of_getElem? (i := 12) rfl)) (hw _ (List.mem_of_getElem? (i := 13) rfl)) e0 (g := (mkF m 1 #[.val (.ref a), .val (.ref r1), .val (.ref r2), .val (.double d1), .second] [(.ref a)])) rfl (by rw [hml]; rfl) rfl (hb hby own_d2_1) (by decide) (W := 0) (by show 2 * 0 + _ ≤ _; exact Nat.le_of_eq rfl) (by decide)
  refine own_up ?_ st2
  show own_G p.tables e below s _ _ _ (T2.setTop (mkF m 4 #[.val (.ref a), .val (.ref r1), .val (.ref r2), .val (.double d1), .second] []))
  refine own_up ?_ fun t k => XS.aloadN X2.here hx rfl (hb hby own_d2_4) rfl rfl k
  show own_G p.tables e below s _ _ _ (T2.setTop (mkF m 5 #[.val (.ref a), .val (.ref r1), .val (.ref r2), .val (.double d1), .second] [(.ref a)]))
  refine own_up ?_ fun t k => XS.aloadN X2.here hx rfl (hb hby own_d2_5) rfl rfl k
  show own_G p.tables e below s _ _ _ (T2.setTop (mkF m 6 #[.val (.ref a), .val (.ref r1), .val (.ref r2), .val (.double d1), .second] [(.ref r1), (.ref a)]))
  obtain ⟨T3, h3, X3, e3, W3, st3⟩ := putF X2 hx hZ hown (host := "") (Or.inl (hw _ (List.mem_of_getElem? (i := 14) rfl))) Via.refl e2 F_variables E_a (Or.inr ⟨(hw _ (List.mem_of_getElem? (i := 15) rfl)), rfl, hnm⟩) (hw _ (List.mem_of_getElem? (i := 5) rfl)) (ty := (.array .double)) (by decide) rfl rfl (g := (mkF m 6 #[.val (.ref a), .val (.ref r1), .val (.ref r2), .val (.double d1), .second] [(.ref r1), (.ref a)])) rfl rfl (hb hby own_d2_6)
  refine own_up ?_ st3
  have E_a_c4 := E_a.wr W3
  have F_objectives_c4 := F_objectives.other W3 (Or.inr (slot_ne (Or.inr (hw _ (List.mem_of_getElem? (i := 17) rfl))) (Or.inr (hw _ (List.mem_of_getElem? (i := 15) rfl))) (by decide) (t := (.array .double)) (t' := (.array .double)) (by decide) (by decide)))
  have F_violation_c4 := F_violation.other W3 (Or.inr (slot_ne (Or.inr (hw _ (List.mem_of_getElem? (i := 19) rfl))) (Or.inr (hw _ (List.mem_of_getElem? (i := 15) rfl))) (by decide) (t := .double) (t' := (.array .double)) (by decide) (by decide)))
  have F3 := F_variables.same W3
  have N3 := Fr.snoc X3 N0 g_a
  have Zs5 : n0 ≤ h3.size := Nat.le_trans Z0 (Keep.of_wr W3).1
  have K6 : Keep h0 h3 [a] := K0.wr W3 (Or.inl (List.mem_of_getElem? (i := 0) rfl))
  show own_G p.tables e below s _ _ _ (T3.setTop (mkF m 9 #[.val (.ref a), .val (.ref r1), .val (.ref r2), .val (.double d1), .second] []))
  refine own_up ?_ fun t k => XS.aloadN X3.here hx rfl (hb hby own_d2_9) rfl rfl k
  show own_G p.tables e below s _ _ _ (T3.setTop (mkF m 10 #[.val (.ref a), .val (.ref r1), .val (.ref r2), .val (.double d1), .second] [(.ref a)]))
  refine own_up ?_ fun t k => XS.aloadN X3.here hx rfl (hb hby own_d2_10) rfl rfl k
  show own_G p.tables e below s _ _ _ (T3.setTop (mkF m 11 #[.val (.ref a), .val (.ref r1), .val (.ref r2), .val (.double d1), .second] [(.ref r2), (.ref a)]))
  obtain ⟨T7, h7, X7, e7, W7, st7⟩ := putF X3 hx hZ hown (host := "") (Or.inl (hw _ (List.mem_of_getElem? (i := 16) rfl))) Via.refl e3 F_objectives_c4 E_a_c4 (Or.inr ⟨(hw _ (List.mem_of_getElem? (i := 17) rfl)), rfl, hnm⟩) (hw _ (List.mem_of_getElem? (i := 5) rfl)) (ty := (.array .double)) (by decide) rfl rfl (g := (mkF m 11 #[.val (.ref a), .val (.ref r1), .val (.ref r2), .val (.double d1), .second] [(.ref r2), (.ref a)])) rfl rfl (hb hby own_d2_11)
  refine own_up ?_ st7
  have E_a_c8 := E_a_c4.wr W7
  have F3_c8 := F3.other W7 (Or.inr (slot_ne (Or.inr (hw _ (List.mem_of_getElem? (i := 15) rfl))) (Or.inr (hw _ (List.mem_of_getElem? (i := 17) rfl))) (by decide) (t := (.array .double)) (t' := (.array .double)) (by decide) (by decide)))
  have F_violation_c8 := F_violation_c4.other W7 (Or.inr (slot_ne (Or.inr (hw _ (List.mem_of_getElem? (i := 19) rfl))) (Or.inr (hw _ (List.mem_of_getElem? (i := 17) rfl))) (by decide) (t := .double) (t' := (.array .double)) (by decide) (by decide)))
  have F7 := F_objectives_c4.same W7
  have N7 := Fr.snoc X7 N3 g_a
  have Zs9 : n0 ≤ h7.size := Nat.le_trans Zs5 (Keep.of_wr W7).1
  have K10 : Keep h0 h7 [a] := K6.wr W7 (Or.inl (List.mem_of_getElem? (i := 0) rfl))
  show own_G p.tables e below s _ _ _ (T7.setTop (mkF m 14 #[.val (.ref a), .val (.ref r1), .val (.ref r2), .val (.double d1), .second] []))
  refine own_up ?_ fun t k => XS.aloadN X7.here hx rfl (hb hby own_d2_14) rfl rfl k
  show own_G p.tables e below s _ _ _ (T7.setTop (mkF m 15 #[.val (.ref a), .val (.ref r1), .val (.ref r2), .val (.double d1), .second] [(.ref a)]))
  refine own_up ?_ fun t k => XS.dloadN X7.here hx rfl (hb hby own_d2_15) rfl k
  show own_G p.tables e below s _ _ _ (T7.setTop (mkF m 16 #[.val (.ref a), .val (.ref r1), .val (.ref r2), .val (.double d1), .second] [(.double d1), (.ref a)]))
  obtain ⟨T11, h11, X11, e11, W11, st11⟩ := putF X7 hx hZ hown (host := "") (Or.inl (hw _ (List.mem_of_getElem? (i := 18) rfl))) Via.refl e7 F_violation_c8 E_a_c8 (Or.inr ⟨(hw _ (List.mem_of_getElem? (i := 19) rfl)), rfl, hnm⟩) (hw _ (List.mem_of_getElem? (i := 5) rfl)) (ty := .double) (by decide) rfl rfl (g := (mkF m 16 #[.val (.ref a), .val (.ref r1), .val (.ref r2), .val (.double d1), .second] [(.double d1), (.ref a)])) rfl rfl (hb hby own_d2_16)
  refine own_up ?_ st11
  have E_a_c12 := E_a_c8.wr W11
  have F3_c12 := F3_c8.other W11 (Or.inr (slot_ne (Or.inr (hw _ (List.mem_of_getElem? (i := 15) rfl))) (Or.inr (hw _ (List.mem_of_getElem? (i := 19) rfl))) (by decide) (t := (.array .double)) (t' := .double) (by decide) (by decide)))
  have F7_c12 := F7.other W11 (Or.inr (slot_ne (Or.inr (hw _ (List.mem_of_getElem? (i := 17) rfl))) (Or.inr (hw _ (List.mem_of_getElem? (i := 19) rfl))) (by decide) (t := (.array .double)) (t' := .double) (by decide) (by decide)))
  have F11 := F_violation_c8.same W11
  have N11 := Fr.snoc X11 N7 g_a
  have Zs13 : n0 ≤ h11.size := Nat.le_trans Zs9 (Keep.of_wr W11).1
  have K14 : Keep h0 h11 [a] := K10.wr W11 (Or.inl (List.mem_of_getElem? (i := 0) rfl))
  show own_G p.tables e below s _ _ _ (T11.setTop (mkF m 19 #[.val (.ref a), .val (.ref r1), .val (.ref r2), .val (.double d1), .second] []))
  exact own_retV X11 hx hlk Bd.returns (hb hby own_d2_19) (by rw [e11]; exact ⟨rfl, N11, K14, F3_c12, F7_c12, F11⟩) (by decide) (by decide)
theorem own_d4_0 : decode prog_23_method_10_code 0 = .ok (.aload_n 0, 1) := by decide +kernel
theorem own_d4_1 : decode prog_23_method_10_code 1 = .ok (.getfield 16, 3) := by decide +kernel
theorem own_d4_4 : decode prog_23_method_10_code 4 = .ok (.aload_n 1, 1) := by decide +kernel
theorem own_d4_5 : decode prog_23_method_10_code 5 = .ok (.getfield 16, 3) := by decide +kernel
theorem own_d4_8 : decode prog_23_method_10_code 8 = .ok (.dcmp .l, 1) := by decide +kernel
theorem own_d4_9 : decode prog_23_method_10_code 9 = .ok (.ifCond .eq 5, 3) := by decide +kernel
theorem own_d4_12 : decode prog_23_method_10_code 12 = .ok (.iconst 0, 1) := by decide +kernel
theorem own_d4_13 : decode prog_23_method_10_code 13 = .ok (.ireturn, 1) := by decide +kernel
theorem own_d4_14 : decode prog_23_method_10_code 14 = .ok (.iconst 0, 1) := by decide +kernel
theorem own_d4_15 : decode prog_23_method_10_code 15 = .ok (.istore_n 2, 1) := by decide +kernel
theorem own_d4_16 : decode prog_23_method_10_code 16 = .ok (.iload_n 2, 1) := by decide +kernel
theorem own_d4_17 : decode prog_23_method_10_code 17 = .ok (.aload_n 0, 1) := by decide +kernel
theorem own_d4_18 : decode prog_23_method_10_code 18 = .ok (.getfield 13, 3) := by decide +kernel
theorem own_d4_21 : decode prog_23_method_10_code 21 = .ok (.arraylength, 1) := by decide +kernel
theorem own_d4_22 : decode prog_23_method_10_code 22 = .ok (.if_icmp .ge 27, 3) := by decide +kernel
theorem own_d4_25 : decode prog_23_method_10_code 25 = .ok (.aload_n 0, 1) := by decide +kernel
theorem own_d4_26 : decode prog_23_method_10_code 26 = .ok (.getfield 13, 3) := by decide +kernel
theorem own_d4_29 : decode prog_23_method_10_code 29 = .ok (.iload_n 2, 1) := by decide +kernel
theorem own_d4_30 : decode prog_23_method_10_code 30 = .ok (.daload, 1) := by decide +kernel
theorem own_d4_31 : decode prog_23_method_10_code 31 = .ok (.aload_n 1, 1) := by decide +kernel
theorem own_d4_32 : decode prog_23_method_10_code 32 = .ok (.getfield 13, 3) := by decide +kernel
theorem own_d4_35 : decode prog_23_method_10_code 35 = .ok (.iload_n 2, 1) := by decide +kernel
theorem own_d4_36 : decode prog_23_method_10_code 36 = .ok (.daload, 1) := by decide +kernel
theorem own_d4_37 : decode prog_23_method_10_code 37 = .ok (.dcmp .l, 1) := by decide +kernel
theorem own_d4_38 : decode prog_23_method_10_code 38 = .ok (.ifCond .eq 5, 3) := by decide +kernel
theorem own_d4_41 : decode prog_23_method_10_code 41 = .ok (.iconst 0, 1) := by decide +kernel
theorem own_d4_42 : decode prog_23_method_10_code 42 = .ok (.ireturn, 1) := by decide +kernel
theorem own_d4_43 : decode prog_23_method_10_code 43 = .ok (.iinc 2 1, 3) := by decide +kernel
theorem own_d4_46 : decode prog_23_method_10_code 46 = .ok (.goto (-30), 3) := by decide +kernel
theorem own_d4_49 : decode prog_23_method_10_code 49 = .ok (.iconst 1, 1) := by decide +kernel
theorem own_d4_50 : decode prog_23_method_10_code 50 = .ok (.ireturn, 1) := by decide +kernel
theorem own_ef_rm4 (m : MethodId) (x0 : Addr) (x1 : Addr) : entryFrame m #[(.ref x0), (.ref x1)] 3 = mkF m 0 #[.val (.ref x0), .val (.ref x1), .unset] [] := by first | (simp [entryFrame, mkF, argsToLocals, Value.category]; done) | rfl
def own_Q_rm4 (Z : State) (a : Addr) (o : Addr) (va : Int64) (vo : Int64) (ra : Addr) (ro : Addr) (ka : ClassId) (ko : ClassId) (x1 : Int64) (x2 : Int64) (x3 : Int64) (y1 : Int64) (y2 : Int64) (y3 : Int64) (h0 : Heap) (n0 : Nat) (v : Option Value) (h : Heap) (L : List Loc) : Prop := v = some (.int (own_same va x1 x2 x3 vo y1 y2 y3)) ∧ Fr n0 L ∧ h = h0
set_option maxRecDepth 65536 in
set_option maxHeartbeats 40000000 in
theorem rm4 (l : Launch) (Z : State) (a0 : Array Value) (hw : ∀ d ∈ tables_1, d.before a0 Z = true) (ws : List Jvm.Cond) (a : Addr) (o : Addr) (va : Int64) (vo : Int64) (ra : Addr) (ro : Addr) (ka : ClassId) (ko : ClassId) (x1 : Int64) (x2 : Int64) (x3 : Int64) (y1 : Int64) (y2 : Int64) (y3 : Int64) (h0 : Heap) (n0 : Nat) (Z0 : n0 ≤ h0.size) (Fa_v : Fld Z h0 a "com/example/swarmfront/swarmfront/swarm/Point" "violation" "D" (.double (FP.l2d va))) (Fo_v : Fld Z h0 o "com/example/swarmfront/swarmfront/swarm/Point" "violation" "D" (.double (FP.l2d vo))) (Fa_o : Fld Z h0 a "com/example/swarmfront/swarmfront/swarm/Point" "objectives" "[D" (.ref ra)) (Fo_o : Fld Z h0 o "com/example/swarmfront/swarmfront/swarm/Point" "objectives" "[D" (.ref ro)) (Va : Arv Z h0 ra ka .double (3 : Int32) [(.double (FP.l2d x1)), (.double (FP.l2d x2)), (.double (FP.l2d x3))] (.double (FP.l2d 0))) (Vo : Arv Z h0 ro ko .double (3 : Int32) [(.double (FP.l2d y1)), (.double (FP.l2d y2)), (.double (FP.l2d y3))] (.double (FP.l2d 0))) (B_va : B53 va) (B_vo : B53 vo) (B_x1 : B53 x1) (B_x2 : B53 x2) (B_x3 : B53 x3) (B_y1 : B53 y1) (B_y2 : B53 y2) (B_y3 : B53 y3) :
    MetFree l (⟨"com/example/swarmfront/swarmfront/swarm/Point", "sameValues", "(Lcom/example/swarmfront/swarmfront/swarm/Point;)Z"⟩ : MethodName) (head1 (Jvm.Cond.code (⟨"com/example/swarmfront/swarmfront/swarm/Point", "sameValues", "(Lcom/example/swarmfront/swarmfront/swarm/Point;)Z"⟩ : MethodName) prog_23_method_10_code 3 (some .boolean) :: ws) ({ frames := 0, cells := 0, slots := 0, locals := 0 } : Room)) (fun aa UU => aa = #[(.ref a), (.ref o)] ∧ Z.Warmed39 UU.vm ∧ UU.heap = h0) (fun _ _ _ _ _ => True) (fun _ UU oo UU' => ∃ vv LL, oo = .returned vv ∧ own_Q_rm4 Z a o va vo ra ro ka ko x1 x2 x3 y1 y2 y3 h0 n0 vv UU'.heap LL ∧ FrameEnd UU oo UU' LL ({ frames := 0, cells := 0, slots := 0, locals := 0 } : Room).cells ({ frames := 0, cells := 0, slots := 0, locals := 0 } : Room).slots) := by
  refine MetFree.of_bodySF (plainFor_of_name own_pn1) hisR ?_
  intro p e s m args below meth c s₁ Bd hml0 hP hK
  obtain ⟨rfl, hZ, hh⟩ := hP
  have hx := Bd.exec
  have hby := Bd.bytes
  have hlk := Bd.notSynchronized
  have hml : c.maxLocals = 3 := hml0
  have hown : s.vm.findClass "com/example/swarmfront/swarmfront/swarm/Point" = some m.cls := findClass_of_methodNamed Bd.named
  have hnm := (name_of_methodNamed Bd.named Bd.method).1
  have X0 : Stand p l e ({ frames := 0, cells := 0, slots := 0, locals := 0 } : Room) s m #[(.ref a), (.ref o)] below meth c s₁ [] 0 0 := Stand.of_body Bd
  have e0 : s₁.heap = h0 := by rw [← hh, Bd.state]; rfl
  have N0 := Fr.nil n0
  show own_G p.tables e below s (own_Q_rm4 Z a o va vo ra ro ka ko x1 x2 x3 y1 y2 y3 h0 n0) ({ frames := 0, cells := 0, slots := 0, locals := 0 } : Room).cells ({ frames := 0, cells := 0, slots := 0, locals := 0 } : Room).slots (s₁.setTop (entryFrame m #[(.ref a), (.ref o)] 3))
  refine own_up (U' := s₁.setTop (mkF m 0 #[.val (.ref a), .val (.ref o), .unset] [])) ?_ (fun t k => castTop (own_ef_rm4 m a o) k)
  refine own_up ?_ fun t k => XS.aloadN X0.here hx rfl (hb hby own_d4_0) rfl rfl k
  show own_G p.tables e below s _ _ _ (s₁.setTop (mkF m 1 #[.val (.ref a), .val (.ref o), .unset] [(.ref a)]))
  obtain ⟨T15, X15, e15, st15⟩ := getF X0 hx hZ hown (host := "") (Or.inl (hw _ (List.mem_of_getElem? (i := 18) rfl))) Via.refl e0 Fa_v (g := (mkF m 1 #[.val (.ref a), .val (.ref o), .unset] [(.ref a)])) rfl rfl (hb hby own_d4_1)
  refine own_up ?_ st15
  show own_G p.tables e below s _ _ _ (T15.setTop (mkF m 4 #[.val (.ref a), .val (.ref o), .unset] [(.double (FP.l2d va))]))
  refine own_up ?_ fun t k => XS.aloadN X15.here hx rfl (hb hby own_d4_4) rfl rfl k
  show own_G p.tables e below s _ _ _ (T15.setTop (mkF m 5 #[.val (.ref a), .val (.ref o), .unset] [(.ref o), (.double (FP.l2d va))]))
  obtain ⟨T16, X16, e16, st16⟩ := getF X15 hx hZ hown (host := "") (Or.inl (hw _ (List.mem_of_getElem? (i := 18) rfl))) Via.refl e15 Fo_v (g := (mkF m 5 #[.val (.ref a), .val (.ref o), .unset] [(.ref o), (.double (FP.l2d va))])) rfl rfl (hb hby own_d4_5)
  refine own_up ?_ st16
  show own_G p.tables e below s _ _ _ (T16.setTop (mkF m 8 #[.val (.ref a), .val (.ref o), .unset] [(.double (FP.l2d vo)), (.double (FP.l2d va))]))
  refine own_up ?_ fun t k => XS.dcmpS X16.here hx rfl (hb hby own_d4_8) rfl (dcmpV_w B_va B_vo _) k
  show own_G p.tables e below s _ _ _ (T16.setTop (mkF m 9 #[.val (.ref a), .val (.ref o), .unset] [(.int (lcmpW va vo))]))
  by_cases hc9_17 : va = vo
  · refine own_up ?_ fun t k => XS.ifYes X16.here hx rfl (pc0 := 9) (pc' := 14) rfl (hb hby own_d4_9) rfl ((if0 _ _).trans (teq ((lw_eq _ _).mpr hc9_17)).1) (by decide) (by decide) k
    show own_G p.tables e below s _ _ _ (T16.setTop (mkF m 14 #[.val (.ref a), .val (.ref o), .unset] []))
    refine own_up ?_ fun t k => XS.iconst X16.here hx rfl (hb hby own_d4_14) k
    show own_G p.tables e below s _ _ _ (T16.setTop (mkF m 15 #[.val (.ref a), .val (.ref o), .unset] [(.int (0 : Int32))]))
    refine own_up ?_ fun t k => XS.istoreN X16.here hx rfl (hb hby own_d4_15) rfl (l' := #[.val (.ref a), .val (.ref o), .val (.int (0 : Int32))]) rfl k
    show own_G p.tables e below s _ _ _ (T16.setTop (mkF m 16 #[.val (.ref a), .val (.ref o), .val (.int (0 : Int32))] []))
    refine own_up ?_ fun t k => XS.iloadN X16.here hx rfl (hb hby own_d4_16) rfl k
    show own_G p.tables e below s _ _ _ (T16.setTop (mkF m 17 #[.val (.ref a), .val (.ref o), .val (.int (0 : Int32))] [(.int (0 : Int32))]))
    refine own_up ?_ fun t k => XS.aloadN X16.here hx rfl (hb hby own_d4_17) rfl rfl k
    show own_G p.tables e below s _ _ _ (T16.setTop (mkF m 18 #[.val (.ref a), .val (.ref o), .val (.int (0 : Int32))] [(.ref a), (.int (0 : Int32))]))
    obtain ⟨T18, X18, e18, st18⟩ := getF X16 hx hZ hown (host := "") (Or.inl (hw _ (List.mem_of_getElem? (i := 16) rfl))) Via.refl e16 Fa_o (g := (mkF m 18 #[.val (.ref a), .val (.ref o), .val (.int (0 : Int32))] [(.ref a), (.int (0 : Int32))])) rfl rfl (hb hby own_d4_18)
    refine own_up ?_ st18
    show own_G p.tables e below s _ _ _ (T18.setTop (mkF m 21 #[.val (.ref a), .val (.ref o), .val (.int (0 : Int32))] [(.ref ra), (.int (0 : Int32))]))
    obtain ⟨cl19, Ar19, qa19, Sa19, Na19, Ha19, Ga19⟩ := id Va
    refine own_up ?_ fun t k => X18.arraylength hx (by rw [e18]; exact Ar19.1) (State.isArrayOf_alike hZ.alike Ar19.2.1) (g := (mkF m 21 #[.val (.ref a), .val (.ref o), .val (.int (0 : Int32))] [(.ref ra), (.int (0 : Int32))])) rfl rfl (hb hby own_d4_21) _ k
    rw [len_of Sa19 Na19]
    show own_G p.tables e below s _ _ _ (T18.setTop (mkF m 22 #[.val (.ref a), .val (.ref o), .val (.int (0 : Int32))] [(.int (3 : Int32)), (.int (0 : Int32))]))
    refine own_up ?_ fun t k => XS.icmpNo X18.here hx rfl (hb hby own_d4_22) rfl (tlt (by decide : ((0 : Int32) < (3 : Int32)))).2.1 k
    show own_G p.tables e below s _ _ _ (T18.setTop (mkF m 25 #[.val (.ref a), .val (.ref o), .val (.int (0 : Int32))] []))
    refine own_up ?_ fun t k => XS.aloadN X18.here hx rfl (hb hby own_d4_25) rfl rfl k
    show own_G p.tables e below s _ _ _ (T18.setTop (mkF m 26 #[.val (.ref a), .val (.ref o), .val (.int (0 : Int32))] [(.ref a)]))
    obtain ⟨T20, X20, e20, st20⟩ := getF X18 hx hZ hown (host := "") (Or.inl (hw _ (List.mem_of_getElem? (i := 16) rfl))) Via.refl e18 Fa_o (g := (mkF m 26 #[.val (.ref a), .val (.ref o), .val (.int (0 : Int32))] [(.ref a)])) rfl rfl (hb hby own_d4_26)
    refine own_up ?_ st20
    show own_G p.tables e below s _ _ _ (T20.setTop (mkF m 29 #[.val (.ref a), .val (.ref o), .val (.int (0 : Int32))] [(.ref ra)]))
    refine own_up ?_ fun t k => XS.iloadN X20.here hx rfl (hb hby own_d4_29) rfl k
    show own_G p.tables e below s _ _ _ (T20.setTop (mkF m 30 #[.val (.ref a), .val (.ref o), .val (.int (0 : Int32))] [(.int (0 : Int32)), (.ref ra)]))
    obtain ⟨cl21, Ar21, qa21, Sa21, Na21, Ha21, Ga21⟩ := id Va
    have hin21 : ¬ ((0 : Int32) < 0 ∨ cl21.slots.size ≤ ((0 : Int32)).toNatClampNeg) := inb_of Sa21 ⟨by decide, by decide⟩
    refine own_up ?_ fun t k => X20.daload hx (j := (0 : Int32)) (v := (.double (FP.l2d x1))) (by rw [e20]; exact Ar21.1) (State.isArrayOf_alike hZ.alike Ar21.2.1) Ar21.2.2 hin21 (Ha21.at hin21 rfl) (g := (mkF m 30 #[.val (.ref a), .val (.ref o), .val (.int (0 : Int32))] [(.int (0 : Int32)), (.ref ra)])) rfl rfl (hb hby own_d4_30) _ k
    show own_G p.tables e below s _ _ _ (T20.setTop (mkF m 31 #[.val (.ref a), .val (.ref o), .val (.int (0 : Int32))] [(.double (FP.l2d x1))]))
    refine own_up ?_ fun t k => XS.aloadN X20.here hx rfl (hb hby own_d4_31) rfl rfl k
    show own_G p.tables e below s _ _ _ (T20.setTop (mkF m 32 #[.val (.ref a), .val (.ref o), .val (.int (0 : Int32))] [(.ref o), (.double (FP.l2d x1))]))
    obtain ⟨T22, X22, e22, st22⟩ := getF X20 hx hZ hown (host := "") (Or.inl (hw _ (List.mem_of_getElem? (i := 16) rfl))) Via.refl e20 Fo_o (g := (mkF m 32 #[.val (.ref a), .val (.ref o), .val (.int (0 : Int32))] [(.ref o), (.double (FP.l2d x1))])) rfl rfl (hb hby own_d4_32)
    refine own_up ?_ st22
    show own_G p.tables e below s _ _ _ (T22.setTop (mkF m 35 #[.val (.ref a), .val (.ref o), .val (.int (0 : Int32))] [(.ref ro), (.double (FP.l2d x1))]))
    refine own_up ?_ fun t k => XS.iloadN X22.here hx rfl (hb hby own_d4_35) rfl k
    show own_G p.tables e below s _ _ _ (T22.setTop (mkF m 36 #[.val (.ref a), .val (.ref o), .val (.int (0 : Int32))] [(.int (0 : Int32)), (.ref ro), (.double (FP.l2d x1))]))
    obtain ⟨cl23, Ar23, qa23, Sa23, Na23, Ha23, Ga23⟩ := id Vo
    have hin23 : ¬ ((0 : Int32) < 0 ∨ cl23.slots.size ≤ ((0 : Int32)).toNatClampNeg) := inb_of Sa23 ⟨by decide, by decide⟩
    refine own_up ?_ fun t k => X22.daload hx (j := (0 : Int32)) (v := (.double (FP.l2d y1))) (by rw [e22]; exact Ar23.1) (State.isArrayOf_alike hZ.alike Ar23.2.1) Ar23.2.2 hin23 (Ha23.at hin23 rfl) (g := (mkF m 36 #[.val (.ref a), .val (.ref o), .val (.int (0 : Int32))] [(.int (0 : Int32)), (.ref ro), (.double (FP.l2d x1))])) rfl rfl (hb hby own_d4_36) _ k
    show own_G p.tables e below s _ _ _ (T22.setTop (mkF m 37 #[.val (.ref a), .val (.ref o), .val (.int (0 : Int32))] [(.double (FP.l2d y1)), (.double (FP.l2d x1))]))
    refine own_up ?_ fun t k => XS.dcmpS X22.here hx rfl (hb hby own_d4_37) rfl (dcmpV_w B_x1 B_y1 _) k
    show own_G p.tables e below s _ _ _ (T22.setTop (mkF m 38 #[.val (.ref a), .val (.ref o), .val (.int (0 : Int32))] [(.int (lcmpW x1 y1))]))
    by_cases hc38_24 : x1 = y1
    · refine own_up ?_ fun t k => XS.ifYes X22.here hx rfl (pc0 := 38) (pc' := 43) rfl (hb hby own_d4_38) rfl ((if0 _ _).trans (teq ((lw_eq _ _).mpr hc38_24)).1) (by decide) (by decide) k
      show own_G p.tables e below s _ _ _ (T22.setTop (mkF m 43 #[.val (.ref a), .val (.ref o), .val (.int (0 : Int32))] []))
      refine own_up ?_ fun t k => XS.iinc X22.here hx rfl (hb hby own_d4_43) rfl (l' := #[.val (.ref a), .val (.ref o), .val (.int (1 : Int32))]) rfl k
      show own_G p.tables e below s _ _ _ (T22.setTop (mkF m 46 #[.val (.ref a), .val (.ref o), .val (.int (1 : Int32))] []))
      refine own_up ?_ fun t k => XS.goto X22.here hx rfl (pc0 := 46) (pc' := 16) rfl (hb hby own_d4_46) (by decide) (by decide) k
      show own_G p.tables e below s _ _ _ (T22.setTop (mkF m 16 #[.val (.ref a), .val (.ref o), .val (.int (1 : Int32))] []))
      refine own_up ?_ fun t k => XS.iloadN X22.here hx rfl (hb hby own_d4_16) rfl k
      show own_G p.tables e below s _ _ _ (T22.setTop (mkF m 17 #[.val (.ref a), .val (.ref o), .val (.int (1 : Int32))] [(.int (1 : Int32))]))
      refine own_up ?_ fun t k => XS.aloadN X22.here hx rfl (hb hby own_d4_17) rfl rfl k
      show own_G p.tables e below s _ _ _ (T22.setTop (mkF m 18 #[.val (.ref a), .val (.ref o), .val (.int (1 : Int32))] [(.ref a), (.int (1 : Int32))]))
      obtain ⟨T25, X25, e25, st25⟩ := getF X22 hx hZ hown (host := "") (Or.inl (hw _ (List.mem_of_getElem? (i := 16) rfl))) Via.refl e22 Fa_o (g := (mkF m 18 #[.val (.ref a), .val (.ref o), .val (.int (1 : Int32))] [(.ref a), (.int (1 : Int32))])) rfl rfl (hb hby own_d4_18)
      refine own_up ?_ st25
      show own_G p.tables e below s _ _ _ (T25.setTop (mkF m 21 #[.val (.ref a), .val (.ref o), .val (.int (1 : Int32))] [(.ref ra), (.int (1 : Int32))]))
      obtain ⟨cl26, Ar26, qa26, Sa26, Na26, Ha26, Ga26⟩ := id Va
      refine own_up ?_ fun t k => X25.arraylength hx (by rw [e25]; exact Ar26.1) (State.isArrayOf_alike hZ.alike Ar26.2.1) (g := (mkF m 21 #[.val (.ref a), .val (.ref o), .val (.int (1 : Int32))] [(.ref ra), (.int (1 : Int32))])) rfl rfl (hb hby own_d4_21) _ k
      rw [len_of Sa26 Na26]
      show own_G p.tables e below s _ _ _ (T25.setTop (mkF m 22 #[.val (.ref a), .val (.ref o), .val (.int (1 : Int32))] [(.int (3 : Int32)), (.int (1 : Int32))]))
      refine own_up ?_ fun t k => XS.icmpNo X25.here hx rfl (hb hby own_d4_22) rfl (tlt (by decide : ((1 : Int32) < (3 : Int32)))).2.1 k
      show own_G p.tables e below s _ _ _ (T25.setTop (mkF m 25 #[.val (.ref a), .val (.ref o), .val (.int (1 : Int32))] []))
      refine own_up ?_ fun t k => XS.aloadN X25.here hx rfl (hb hby own_d4_25) rfl rfl k
      show own_G p.tables e below s _ _ _ (T25.setTop (mkF m 26 #[.val (.ref a), .val (.ref o), .val (.int (1 : Int32))] [(.ref a)]))
      obtain ⟨T27, X27, e27, st27⟩ := getF X25 hx hZ hown (host := "") (Or.inl (hw _ (List.mem_of_getElem? (i := 16) rfl))) Via.refl e25 Fa_o (g := (mkF m 26 #[.val (.ref a), .val (.ref o), .val (.int (1 : Int32))] [(.ref a)])) rfl rfl (hb hby own_d4_26)
      refine own_up ?_ st27
      show own_G p.tables e below s _ _ _ (T27.setTop (mkF m 29 #[.val (.ref a), .val (.ref o), .val (.int (1 : Int32))] [(.ref ra)]))
      refine own_up ?_ fun t k => XS.iloadN X27.here hx rfl (hb hby own_d4_29) rfl k
      show own_G p.tables e below s _ _ _ (T27.setTop (mkF m 30 #[.val (.ref a), .val (.ref o), .val (.int (1 : Int32))] [(.int (1 : Int32)), (.ref ra)]))
      obtain ⟨cl28, Ar28, qa28, Sa28, Na28, Ha28, Ga28⟩ := id Va
      have hin28 : ¬ ((1 : Int32) < 0 ∨ cl28.slots.size ≤ ((1 : Int32)).toNatClampNeg) := inb_of Sa28 ⟨by decide, by decide⟩
      refine own_up ?_ fun t k => X27.daload hx (j := (1 : Int32)) (v := (.double (FP.l2d x2))) (by rw [e27]; exact Ar28.1) (State.isArrayOf_alike hZ.alike Ar28.2.1) Ar28.2.2 hin28 (Ha28.at hin28 rfl) (g := (mkF m 30 #[.val (.ref a), .val (.ref o), .val (.int (1 : Int32))] [(.int (1 : Int32)), (.ref ra)])) rfl rfl (hb hby own_d4_30) _ k
      show own_G p.tables e below s _ _ _ (T27.setTop (mkF m 31 #[.val (.ref a), .val (.ref o), .val (.int (1 : Int32))] [(.double (FP.l2d x2))]))
      refine own_up ?_ fun t k => XS.aloadN X27.here hx rfl (hb hby own_d4_31) rfl rfl k
      show own_G p.tables e below s _ _ _ (T27.setTop (mkF m 32 #[.val (.ref a), .val (.ref o), .val (.int (1 : Int32))] [(.ref o), (.double (FP.l2d x2))]))
      obtain ⟨T29, X29, e29, st29⟩ := getF X27 hx hZ hown (host := "") (Or.inl (hw _ (List.mem_of_getElem? (i := 16) rfl))) Via.refl e27 Fo_o (g := (mkF m 32 #[.val (.ref a), .val (.ref o), .val (.int (1 : Int32))] [(.ref o), (.double (FP.l2d x2))])) rfl rfl (hb hby own_d4_32)
      refine own_up ?_ st29
      show own_G p.tables e below s _ _ _ (T29.setTop (mkF m 35 #[.val (.ref a), .val (.ref o), .val (.int (1 : Int32))] [(.ref ro), (.double (FP.l2d x2))]))
      refine own_up ?_ fun t k => XS.iloadN X29.here hx rfl (hb hby own_d4_35) rfl k
      show own_G p.tables e below s _ _ _ (T29.setTop (mkF m 36 #[.val (.ref a), .val (.ref o), .val (.int (1 : Int32))] [(.int (1 : Int32)), (.ref ro), (.double (FP.l2d x2))]))
      obtain ⟨cl30, Ar30, qa30, Sa30, Na30, Ha30, Ga30⟩ := id Vo
      have hin30 : ¬ ((1 : Int32) < 0 ∨ cl30.slots.size ≤ ((1 : Int32)).toNatClampNeg) := inb_of Sa30 ⟨by decide, by decide⟩
      refine own_up ?_ fun t k => X29.daload hx (j := (1 : Int32)) (v := (.double (FP.l2d y2))) (by rw [e29]; exact Ar30.1) (State.isArrayOf_alike hZ.alike Ar30.2.1) Ar30.2.2 hin30 (Ha30.at hin30 rfl) (g := (mkF m 36 #[.val (.ref a), .val (.ref o), .val (.int (1 : Int32))] [(.int (1 : Int32)), (.ref ro), (.double (FP.l2d x2))])) rfl rfl (hb hby own_d4_36) _ k
      show own_G p.tables e below s _ _ _ (T29.setTop (mkF m 37 #[.val (.ref a), .val (.ref o), .val (.int (1 : Int32))] [(.double (FP.l2d y2)), (.double (FP.l2d x2))]))
      refine own_up ?_ fun t k => XS.dcmpS X29.here hx rfl (hb hby own_d4_37) rfl (dcmpV_w B_x2 B_y2 _) k
      show own_G p.tables e below s _ _ _ (T29.setTop (mkF m 38 #[.val (.ref a), .val (.ref o), .val (.int (1 : Int32))] [(.int (lcmpW x2 y2))]))
      by_cases hc38_31 : x2 = y2
      · refine own_up ?_ fun t k => XS.ifYes X29.here hx rfl (pc0 := 38) (pc' := 43) rfl (hb hby own_d4_38) rfl ((if0 _ _).trans (teq ((lw_eq _ _).mpr hc38_31)).1) (by decide) (by decide) k
        show own_G p.tables e below s _ _ _ (T29.setTop (mkF m 43 #[.val (.ref a), .val (.ref o), .val (.int (1 : Int32))] []))
        refine own_up ?_ fun t k => XS.iinc X29.here hx rfl (hb hby own_d4_43) rfl (l' := #[.val (.ref a), .val (.ref o), .val (.int (2 : Int32))]) rfl k
        show own_G p.tables e below s _ _ _ (T29.setTop (mkF m 46 #[.val (.ref a), .val (.ref o), .val (.int (2 : Int32))] []))
        refine own_up ?_ fun t k => XS.goto X29.here hx rfl (pc0 := 46) (pc' := 16) rfl (hb hby own_d4_46) (by decide) (by decide) k
        show own_G p.tables e below s _ _ _ (T29.setTop (mkF m 16 #[.val (.ref a), .val (.ref o), .val (.int (2 : Int32))] []))
        refine own_up ?_ fun t k => XS.iloadN X29.here hx rfl (hb hby own_d4_16) rfl k
        show own_G p.tables e below s _ _ _ (T29.setTop (mkF m 17 #[.val (.ref a), .val (.ref o), .val (.int (2 : Int32))] [(.int (2 : Int32))]))
        refine own_up ?_ fun t k => XS.aloadN X29.here hx rfl (hb hby own_d4_17) rfl rfl k
        show own_G p.tables e below s _ _ _ (T29.setTop (mkF m 18 #[.val (.ref a), .val (.ref o), .val (.int (2 : Int32))] [(.ref a), (.int (2 : Int32))]))
        obtain ⟨T32, X32, e32, st32⟩ := getF X29 hx hZ hown (host := "") (Or.inl (hw _ (List.mem_of_getElem? (i := 16) rfl))) Via.refl e29 Fa_o (g := (mkF m 18 #[.val (.ref a), .val (.ref o), .val (.int (2 : Int32))] [(.ref a), (.int (2 : Int32))])) rfl rfl (hb hby own_d4_18)
        refine own_up ?_ st32
        show own_G p.tables e below s _ _ _ (T32.setTop (mkF m 21 #[.val (.ref a), .val (.ref o), .val (.int (2 : Int32))] [(.ref ra), (.int (2 : Int32))]))
        obtain ⟨cl33, Ar33, qa33, Sa33, Na33, Ha33, Ga33⟩ := id Va
        refine own_up ?_ fun t k => X32.arraylength hx (by rw [e32]; exact Ar33.1) (State.isArrayOf_alike hZ.alike Ar33.2.1) (g := (mkF m 21 #[.val (.ref a), .val (.ref o), .val (.int (2 : Int32))] [(.ref ra), (.int (2 : Int32))])) rfl rfl (hb hby own_d4_21) _ k
        rw [len_of Sa33 Na33]
        show own_G p.tables e below s _ _ _ (T32.setTop (mkF m 22 #[.val (.ref a), .val (.ref o), .val (.int (2 : Int32))] [(.int (3 : Int32)), (.int (2 : Int32))]))
        refine own_up ?_ fun t k => XS.icmpNo X32.here hx rfl (hb hby own_d4_22) rfl (tlt (by decide : ((2 : Int32) < (3 : Int32)))).2.1 k
        show own_G p.tables e below s _ _ _ (T32.setTop (mkF m 25 #[.val (.ref a), .val (.ref o), .val (.int (2 : Int32))] []))
        refine own_up ?_ fun t k => XS.aloadN X32.here hx rfl (hb hby own_d4_25) rfl rfl k
        show own_G p.tables e below s _ _ _ (T32.setTop (mkF m 26 #[.val (.ref a), .val (.ref o), .val (.int (2 : Int32))] [(.ref a)]))
        obtain ⟨T34, X34, e34, st34⟩ := getF X32 hx hZ hown (host := "") (Or.inl (hw _ (List.mem_of_getElem? (i := 16) rfl))) Via.refl e32 Fa_o (g := (mkF m 26 #[.val (.ref a), .val (.ref o), .val (.int (2 : Int32))] [(.ref a)])) rfl rfl (hb hby own_d4_26)
        refine own_up ?_ st34
        show own_G p.tables e below s _ _ _ (T34.setTop (mkF m 29 #[.val (.ref a), .val (.ref o), .val (.int (2 : Int32))] [(.ref ra)]))
        refine own_up ?_ fun t k => XS.iloadN X34.here hx rfl (hb hby own_d4_29) rfl k
        show own_G p.tables e below s _ _ _ (T34.setTop (mkF m 30 #[.val (.ref a), .val (.ref o), .val (.int (2 : Int32))] [(.int (2 : Int32)), (.ref ra)]))
        obtain ⟨cl35, Ar35, qa35, Sa35, Na35, Ha35, Ga35⟩ := id Va
        have hin35 : ¬ ((2 : Int32) < 0 ∨ cl35.slots.size ≤ ((2 : Int32)).toNatClampNeg) := inb_of Sa35 ⟨by decide, by decide⟩
        refine own_up ?_ fun t k => X34.daload hx (j := (2 : Int32)) (v := (.double (FP.l2d x3))) (by rw [e34]; exact Ar35.1) (State.isArrayOf_alike hZ.alike Ar35.2.1) Ar35.2.2 hin35 (Ha35.at hin35 rfl) (g := (mkF m 30 #[.val (.ref a), .val (.ref o), .val (.int (2 : Int32))] [(.int (2 : Int32)), (.ref ra)])) rfl rfl (hb hby own_d4_30) _ k
        show own_G p.tables e below s _ _ _ (T34.setTop (mkF m 31 #[.val (.ref a), .val (.ref o), .val (.int (2 : Int32))] [(.double (FP.l2d x3))]))
        refine own_up ?_ fun t k => XS.aloadN X34.here hx rfl (hb hby own_d4_31) rfl rfl k
        show own_G p.tables e below s _ _ _ (T34.setTop (mkF m 32 #[.val (.ref a), .val (.ref o), .val (.int (2 : Int32))] [(.ref o), (.double (FP.l2d x3))]))
        obtain ⟨T36, X36, e36, st36⟩ := getF X34 hx hZ hown (host := "") (Or.inl (hw _ (List.mem_of_getElem? (i := 16) rfl))) Via.refl e34 Fo_o (g := (mkF m 32 #[.val (.ref a), .val (.ref o), .val (.int (2 : Int32))] [(.ref o), (.double (FP.l2d x3))])) rfl rfl (hb hby own_d4_32)
        refine own_up ?_ st36
        show own_G p.tables e below s _ _ _ (T36.setTop (mkF m 35 #[.val (.ref a), .val (.ref o), .val (.int (2 : Int32))] [(.ref ro), (.double (FP.l2d x3))]))
        refine own_up ?_ fun t k => XS.iloadN X36.here hx rfl (hb hby own_d4_35) rfl k
        show own_G p.tables e below s _ _ _ (T36.setTop (mkF m 36 #[.val (.ref a), .val (.ref o), .val (.int (2 : Int32))] [(.int (2 : Int32)), (.ref ro), (.double (FP.l2d x3))]))
        obtain ⟨cl37, Ar37, qa37, Sa37, Na37, Ha37, Ga37⟩ := id Vo
        have hin37 : ¬ ((2 : Int32) < 0 ∨ cl37.slots.size ≤ ((2 : Int32)).toNatClampNeg) := inb_of Sa37 ⟨by decide, by decide⟩
        refine own_up ?_ fun t k => X36.daload hx (j := (2 : Int32)) (v := (.double (FP.l2d y3))) (by rw [e36]; exact Ar37.1) (State.isArrayOf_alike hZ.alike Ar37.2.1) Ar37.2.2 hin37 (Ha37.at hin37 rfl) (g := (mkF m 36 #[.val (.ref a), .val (.ref o), .val (.int (2 : Int32))] [(.int (2 : Int32)), (.ref ro), (.double (FP.l2d x3))])) rfl rfl (hb hby own_d4_36) _ k
        show own_G p.tables e below s _ _ _ (T36.setTop (mkF m 37 #[.val (.ref a), .val (.ref o), .val (.int (2 : Int32))] [(.double (FP.l2d y3)), (.double (FP.l2d x3))]))
        refine own_up ?_ fun t k => XS.dcmpS X36.here hx rfl (hb hby own_d4_37) rfl (dcmpV_w B_x3 B_y3 _) k
        show own_G p.tables e below s _ _ _ (T36.setTop (mkF m 38 #[.val (.ref a), .val (.ref o), .val (.int (2 : Int32))] [(.int (lcmpW x3 y3))]))
        by_cases hc38_38 : x3 = y3
        · refine own_up ?_ fun t k => XS.ifYes X36.here hx rfl (pc0 := 38) (pc' := 43) rfl (hb hby own_d4_38) rfl ((if0 _ _).trans (teq ((lw_eq _ _).mpr hc38_38)).1) (by decide) (by decide) k
          show own_G p.tables e below s _ _ _ (T36.setTop (mkF m 43 #[.val (.ref a), .val (.ref o), .val (.int (2 : Int32))] []))
          refine own_up ?_ fun t k => XS.iinc X36.here hx rfl (hb hby own_d4_43) rfl (l' := #[.val (.ref a), .val (.ref o), .val (.int (3 : Int32))]) rfl k
          show own_G p.tables e below s _ _ _ (T36.setTop (mkF m 46 #[.val (.ref a), .val (.ref o), .val (.int (3 : Int32))] []))
          refine own_up ?_ fun t k => XS.goto X36.here hx rfl (pc0 := 46) (pc' := 16) rfl (hb hby own_d4_46) (by decide) (by decide) k
          show own_G p.tables e below s _ _ _ (T36.setTop (mkF m 16 #[.val (.ref a), .val (.ref o), .val (.int (3 : Int32))] []))
          refine own_up ?_ fun t k => XS.iloadN X36.here hx rfl (hb hby own_d4_16) rfl k
          show own_G p.tables e below s _ _ _ (T36.setTop (mkF m 17 #[.val (.ref a), .val (.ref o), .val (.int (3 : Int32))] [(.int (3 : Int32))]))
          refine own_up ?_ fun t k => XS.aloadN X36.here hx rfl (hb hby own_d4_17) rfl rfl k
          show own_G p.tables e below s _ _ _ (T36.setTop (mkF m 18 #[.val (.ref a), .val (.ref o), .val (.int (3 : Int32))] [(.ref a), (.int (3 : Int32))]))
          obtain ⟨T39, X39, e39, st39⟩ := getF X36 hx hZ hown (host := "") (Or.inl (hw _ (List.mem_of_getElem? (i := 16) rfl))) Via.refl e36 Fa_o (g := (mkF m 18 #[.val (.ref a), .val (.ref o), .val (.int (3 : Int32))] [(.ref a), (.int (3 : Int32))])) rfl rfl (hb hby own_d4_18)
          refine own_up ?_ st39
          show own_G p.tables e below s _ _ _ (T39.setTop (mkF m 21 #[.val (.ref a), .val (.ref o), .val (.int (3 : Int32))] [(.ref ra), (.int (3 : Int32))]))
          obtain ⟨cl40, Ar40, qa40, Sa40, Na40, Ha40, Ga40⟩ := id Va
          refine own_up ?_ fun t k => X39.arraylength hx (by rw [e39]; exact Ar40.1) (State.isArrayOf_alike hZ.alike Ar40.2.1) (g := (mkF m 21 #[.val (.ref a), .val (.ref o), .val (.int (3 : Int32))] [(.ref ra), (.int (3 : Int32))])) rfl rfl (hb hby own_d4_21) _ k
          rw [len_of Sa40 Na40]
          show own_G p.tables e below s _ _ _ (T39.setTop (mkF m 22 #[.val (.ref a), .val (.ref o), .val (.int (3 : Int32))] [(.int (3 : Int32)), (.int (3 : Int32))]))
          refine own_up ?_ fun t k => XS.icmpYes X39.here hx rfl (pc0 := 22) (pc' := 49) rfl (hb hby own_d4_22) rfl (flt (by decide : ¬ ((3 : Int32) < (3 : Int32)))).2.1 (by decide) (by decide) k
          show own_G p.tables e below s _ _ _ (T39.setTop (mkF m 49 #[.val (.ref a), .val (.ref o), .val (.int (3 : Int32))] []))
          refine own_up ?_ fun t k => XS.iconst X39.here hx rfl (hb hby own_d4_49) k
          show own_G p.tables e below s _ _ _ (T39.setTop (mkF m 50 #[.val (.ref a), .val (.ref o), .val (.int (3 : Int32))] [(.int (1 : Int32))]))
          exact own_retI X39 hx hlk Bd.returns (by simp) rfl (hb hby own_d4_50) ⟨congrArg (fun z => some (Value.int z)) (by simp only [own_same, if_pos hc9_17, if_pos hc38_24, if_pos hc38_31, if_pos hc38_38]), N0, e39⟩ (by decide) (by decide)
        · refine own_up ?_ fun t k => XS.ifNo X36.here hx rfl (hb hby own_d4_38) rfl ((if0 _ _).trans (feq (fun q => hc38_38 ((lw_eq _ _).mp q))).1) k
          show own_G p.tables e below s _ _ _ (T36.setTop (mkF m 41 #[.val (.ref a), .val (.ref o), .val (.int (2 : Int32))] []))
          refine own_up ?_ fun t k => XS.iconst X36.here hx rfl (hb hby own_d4_41) k
          show own_G p.tables e below s _ _ _ (T36.setTop (mkF m 42 #[.val (.ref a), .val (.ref o), .val (.int (2 : Int32))] [(.int (0 : Int32))]))
          exact own_retI X36 hx hlk Bd.returns (by simp) rfl (hb hby own_d4_42) ⟨congrArg (fun z => some (Value.int z)) (by simp only [own_same, if_pos hc9_17, if_pos hc38_24, if_pos hc38_31, if_neg hc38_38]), N0, e36⟩ (by decide) (by decide)
      · refine own_up ?_ fun t k => XS.ifNo X29.here hx rfl (hb hby own_d4_38) rfl ((if0 _ _).trans (feq (fun q => hc38_31 ((lw_eq _ _).mp q))).1) k
        show own_G p.tables e below s _ _ _ (T29.setTop (mkF m 41 #[.val (.ref a), .val (.ref o), .val (.int (1 : Int32))] []))
        refine own_up ?_ fun t k => XS.iconst X29.here hx rfl (hb hby own_d4_41) k
        show own_G p.tables e below s _ _ _ (T29.setTop (mkF m 42 #[.val (.ref a), .val (.ref o), .val (.int (1 : Int32))] [(.int (0 : Int32))]))
        exact own_retI X29 hx hlk Bd.returns (by simp) rfl (hb hby own_d4_42) ⟨congrArg (fun z => some (Value.int z)) (by simp only [own_same, if_pos hc9_17, if_pos hc38_24, if_neg hc38_31]), N0, e29⟩ (by decide) (by decide)
    · refine own_up ?_ fun t k => XS.ifNo X22.here hx rfl (hb hby own_d4_38) rfl ((if0 _ _).trans (feq (fun q => hc38_24 ((lw_eq _ _).mp q))).1) k
      show own_G p.tables e below s _ _ _ (T22.setTop (mkF m 41 #[.val (.ref a), .val (.ref o), .val (.int (0 : Int32))] []))
      refine own_up ?_ fun t k => XS.iconst X22.here hx rfl (hb hby own_d4_41) k
      show own_G p.tables e below s _ _ _ (T22.setTop (mkF m 42 #[.val (.ref a), .val (.ref o), .val (.int (0 : Int32))] [(.int (0 : Int32))]))
      exact own_retI X22 hx hlk Bd.returns (by simp) rfl (hb hby own_d4_42) ⟨congrArg (fun z => some (Value.int z)) (by simp only [own_same, if_pos hc9_17, if_neg hc38_24]), N0, e22⟩ (by decide) (by decide)
  · refine own_up ?_ fun t k => XS.ifNo X16.here hx rfl (hb hby own_d4_9) rfl ((if0 _ _).trans (feq (fun q => hc9_17 ((lw_eq _ _).mp q))).1) k
    show own_G p.tables e below s _ _ _ (T16.setTop (mkF m 12 #[.val (.ref a), .val (.ref o), .unset] []))
    refine own_up ?_ fun t k => XS.iconst X16.here hx rfl (hb hby own_d4_12) k
    show own_G p.tables e below s _ _ _ (T16.setTop (mkF m 13 #[.val (.ref a), .val (.ref o), .unset] [(.int (0 : Int32))]))
    exact own_retI X16 hx hlk Bd.returns (by simp) rfl (hb hby own_d4_13) ⟨congrArg (fun z => some (Value.int z)) (by simp only [own_same, if_neg hc9_17]), N0, e16⟩ (by decide) (by decide)
theorem own_ef_rm0 (m : MethodId) (x0 : Int32) (x1 : Int32) : entryFrame m #[(.int x0), (.int x1)] maxLocals = mkF m 0 #[.val (.int x0), .val (.int x1), .unset, .unset, .unset, .unset, .unset, .unset, .unset, .unset, .unset, .unset, .unset, .unset, .unset, .unset, .unset, .unset, .unset, .unset, .unset, .unset, .unset, .unset, .unset] [] := by first | (simp [entryFrame, mkF, argsToLocals, Value.category, maxLocals]; done) | rfl
def own_Q_rm0 (Z : State) (p1 : Int32) (p2 : Int32) (h0 : Heap) (n0 : Nat) (v : Option Value) (h : Heap) (L : List Loc) : Prop := v = some (.int (1 : Int32)) ∧ Fr n0 L
set_option maxRecDepth 65536 in
set_option maxHeartbeats 40000000 in
theorem rm0 (l : Launch) (Z : State) (a0 : Array Value) (hw : ∀ d ∈ tables_1, d.before a0 Z = true) (ws : List Jvm.Cond) (p1 : Int32) (p2 : Int32) (h0 : Heap) (n0 : Nat) (Z0 : n0 ≤ h0.size) :
    MetFree l x (head1 (Jvm.Cond.code x code maxLocals ret :: ws) room_1) (fun aa UU => aa = #[(.int p1), (.int p2)] ∧ Z.Warmed39 UU.vm ∧ UU.heap = h0) (fun _ _ _ _ _ => True) (fun _ UU oo UU' => ∃ vv LL, oo = .returned vv ∧ own_Q_rm0 Z p1 p2 h0 n0 vv UU'.heap LL ∧ FrameEnd UU oo UU' LL room_1.cells room_1.slots) := by
  refine MetFree.of_bodySF (plainFor_of_name own_pn0) hisR ?_
  intro p e s m args below meth c s₁ Bd hml0 hP hK
  obtain ⟨rfl, hZ, hh⟩ := hP
  have hx := Bd.exec
  have hby := Bd.bytes
  have hlk := Bd.notSynchronized
  have hml : c.maxLocals = 25 := hml0
  have hown : s.vm.findClass "com/example/swarmfront/swarmfront/swarm/PointSameValuesPinLaw" = some m.cls := findClass_of_methodNamed Bd.named
  have hnm := (name_of_methodNamed Bd.named Bd.method).1
  have X0 : Stand p l e room_1 s m #[(.int p1), (.int p2)] below meth c s₁ [] 0 0 := Stand.of_body Bd
  have e0 : s₁.heap = h0 := by rw [← hh, Bd.state]; rfl
  have N0 := Fr.nil n0
  show own_G p.tables e below s (own_Q_rm0 Z p1 p2 h0 n0) room_1.cells room_1.slots (s₁.setTop (entryFrame m #[(.int p1), (.int p2)] maxLocals))
  refine own_up (U' := s₁.setTop (mkF m 0 #[.val (.int p1), .val (.int p2), .unset, .unset, .unset, .unset, .unset, .unset, .unset, .unset, .unset, .unset, .unset, .unset, .unset, .unset, .unset, .unset, .unset, .unset, .unset, .unset, .unset, .unset, .unset] [])) ?_ (fun t k => castTop (own_ef_rm0 m p1 p2) k)
  refine own_up ?_ fun t k => XS.iloadN X0.here hx rfl (hb hby at_0) rfl k
  show own_G p.tables e below s _ _ _ (s₁.setTop (mkF m 1 #[.val (.int p1), .val (.int p2), .unset, .unset, .unset, .unset, .unset, .unset, .unset, .unset, .unset, .unset, .unset, .unset, .unset, .unset, .unset, .unset, .unset, .unset, .unset, .unset, .unset, .unset, .unset] [(.int p1)]))
  refine own_up ?_ fun t k => XS.i2b X0.here hx rfl (hb hby at_1) rfl k
  show own_G p.tables e below s _ _ _ (s₁.setTop (mkF m 2 #[.val (.int p1), .val (.int p2), .unset, .unset, .unset, .unset, .unset, .unset, .unset, .unset, .unset, .unset, .unset, .unset, .unset, .unset, .unset, .unset, .unset, .unset, .unset, .unset, .unset, .unset, .unset] [(.int (p1.toInt8.toInt32))]))
  refine own_up ?_ fun t k => XS.i2dS X0.here hx rfl (hb hby at_2) rfl (i2d_w _) k
  show own_G p.tables e below s _ _ _ (s₁.setTop (mkF m 3 #[.val (.int p1), .val (.int p2), .unset, .unset, .unset, .unset, .unset, .unset, .unset, .unset, .unset, .unset, .unset, .unset, .unset, .unset, .unset, .unset, .unset, .unset, .unset, .unset, .unset, .unset, .unset] [(.double (FP.l2d ((p1.toInt8.toInt32).toInt64)))]))
  refine own_up ?_ fun t k => XS.dstoreN X0.here hx rfl (hb hby at_3) rfl (l' := #[.val (.int p1), .val (.int p2), .val (.double (FP.l2d ((p1.toInt8.toInt32).toInt64))), .second, .unset, .unset, .unset, .unset, .unset, .unset, .unset, .unset, .unset, .unset, .unset, .unset, .unset, .unset, .unset, .unset, .unset, .unset, .unset, .unset, .unset]) rfl k
  show own_G p.tables e below s _ _ _ (s₁.setTop (mkF m 4 #[.val (.int p1), .val (.int p2), .val (.double (FP.l2d ((p1.toInt8.toInt32).toInt64))), .second, .unset, .unset, .unset, .unset, .unset, .unset, .unset, .unset, .unset, .unset, .unset, .unset, .unset, .unset, .unset, .unset, .unset, .unset, .unset, .unset, .unset] []))
  obtain ⟨v0, h_v0⟩ : ∃ z, z = ((p1.toInt8.toInt32).toInt64) := ⟨_, rfl⟩
  rw [← h_v0]
  show own_G p.tables e below s _ _ _ (s₁.setTop (mkF m 4 #[.val (.int p1), .val (.int p2), .val (.double (FP.l2d v0)), .second, .unset, .unset, .unset, .unset, .unset, .unset, .unset, .unset, .unset, .unset, .unset, .unset, .unset, .unset, .unset, .unset, .unset, .unset, .unset, .unset, .unset] []))
  refine own_up ?_ fun t k => XS.iloadN X0.here hx rfl (hb hby at_4) rfl k
  show own_G p.tables e below s _ _ _ (s₁.setTop (mkF m 5 #[.val (.int p1), .val (.int p2), .val (.double (FP.l2d v0)), .second, .unset, .unset, .unset, .unset, .unset, .unset, .unset, .unset, .unset, .unset, .unset, .unset, .unset, .unset, .unset, .unset, .unset, .unset, .unset, .unset, .unset] [(.int p1)]))
  refine own_up ?_ fun t k => XS.bipush X0.here hx rfl (hb hby at_5) k
  show own_G p.tables e below s _ _ _ (s₁.setTop (mkF m 7 #[.val (.int p1), .val (.int p2), .val (.double (FP.l2d v0)), .second, .unset, .unset, .unset, .unset, .unset, .unset, .unset, .unset, .unset, .unset, .unset, .unset, .unset, .unset, .unset, .unset, .unset, .unset, .unset, .unset, .unset] [(.int (8 : Int32)), (.int p1)]))
  refine own_up ?_ fun t k => XS.ishr X0.here hx rfl (hb hby at_7) rfl k
  show own_G p.tables e below s _ _ _ (s₁.setTop (mkF m 8 #[.val (.int p1), .val (.int p2), .val (.double (FP.l2d v0)), .second, .unset, .unset, .unset, .unset, .unset, .unset, .unset, .unset, .unset, .unset, .unset, .unset, .unset, .unset, .unset, .unset, .unset, .unset, .unset, .unset, .unset] [(.int (p1 >>> ((8 : Int32) &&& 31)))]))
  refine own_up ?_ fun t k => XS.i2b X0.here hx rfl (hb hby at_8) rfl k
  show own_G p.tables e below s _ _ _ (s₁.setTop (mkF m 9 #[.val (.int p1), .val (.int p2), .val (.double (FP.l2d v0)), .second, .unset, .unset, .unset, .unset, .unset, .unset, .unset, .unset, .unset, .unset, .unset, .unset, .unset, .unset, .unset, .unset, .unset, .unset, .unset, .unset, .unset] [(.int ((p1 >>> ((8 : Int32) &&& 31)).toInt8.toInt32))]))
  refine own_up ?_ fun t k => XS.i2dS X0.here hx rfl (hb hby at_9) rfl (i2d_w _) k
  show own_G p.tables e below s _ _ _ (s₁.setTop (mkF m 10 #[.val (.int p1), .val (.int p2), .val (.double (FP.l2d v0)), .second, .unset, .unset, .unset, .unset, .unset, .unset, .unset, .unset, .unset, .unset, .unset, .unset, .unset, .unset, .unset, .unset, .unset, .unset, .unset, .unset, .unset] [(.double (FP.l2d (((p1 >>> ((8 : Int32) &&& 31)).toInt8.toInt32).toInt64)))]))
  refine own_up ?_ fun t k => XS.dstore X0.here hx rfl (hb hby at_10) rfl (l' := #[.val (.int p1), .val (.int p2), .val (.double (FP.l2d v0)), .second, .val (.double (FP.l2d (((p1 >>> ((8 : Int32) &&& 31)).toInt8.toInt32).toInt64))), .second, .unset, .unset, .unset, .unset, .unset, .unset, .unset, .unset, .unset, .unset, .unset, .unset, .unset, .unset, .unset, .unset, .unset, .unset, .unset]) rfl k
  show own_G p.tables e below s _ _ _ (s₁.setTop (mkF m 12 #[.val (.int p1), .val (.int p2), .val (.double (FP.l2d v0)), .second, .val (.double (FP.l2d (((p1 >>> ((8 : Int32) &&& 31)).toInt8.toInt32).toInt64))), .second, .unset, .unset, .unset, .unset, .unset, .unset, .unset, .unset, .unset, .unset, .unset, .unset, .unset, .unset, .unset, .unset, .unset, .unset, .unset] []))
  obtain ⟨v1, h_v1⟩ : ∃ z, z = (((p1 >>> ((8 : Int32) &&& 31)).toInt8.toInt32).toInt64) := ⟨_, rfl⟩
  rw [← h_v1]
  show own_G p.tables e below s _ _ _ (s₁.setTop (mkF m 12 #[.val (.int p1), .val (.int p2), .val (.double (FP.l2d v0)), .second, .val (.double (FP.l2d v1)), .second, .unset, .unset, .unset, .unset, .unset, .unset, .unset, .unset, .unset, .unset, .unset, .unset, .unset, .unset, .unset, .unset, .unset, .unset, .unset] []))
  refine own_up ?_ fun t k => XS.iloadN X0.here hx rfl (hb hby at_12) rfl k
  show own_G p.tables e below s _ _ _ (s₁.setTop (mkF m 13 #[.val (.int p1), .val (.int p2), .val (.double (FP.l2d v0)), .second, .val (.double (FP.l2d v1)), .second, .unset, .unset, .unset, .unset, .unset, .unset, .unset, .unset, .unset, .unset, .unset, .unset, .unset, .unset, .unset, .unset, .unset, .unset, .unset] [(.int p1)]))
  refine own_up ?_ fun t k => XS.bipush X0.here hx rfl (hb hby at_13) k
  show own_G p.tables e below s _ _ _ (s₁.setTop (mkF m 15 #[.val (.int p1), .val (.int p2), .val (.double (FP.l2d v0)), .second, .val (.double (FP.l2d v1)), .second, .unset, .unset, .unset, .unset, .unset, .unset, .unset, .unset, .unset, .unset, .unset, .unset, .unset, .unset, .unset, .unset, .unset, .unset, .unset] [(.int (16 : Int32)), (.int p1)]))
  refine own_up ?_ fun t k => XS.ishr X0.here hx rfl (hb hby at_15) rfl k
  show own_G p.tables e below s _ _ _ (s₁.setTop (mkF m 16 #[.val (.int p1), .val (.int p2), .val (.double (FP.l2d v0)), .second, .val (.double (FP.l2d v1)), .second, .unset, .unset, .unset, .unset, .unset, .unset, .unset, .unset, .unset, .unset, .unset, .unset, .unset, .unset, .unset, .unset, .unset, .unset, .unset] [(.int (p1 >>> ((16 : Int32) &&& 31)))]))
  refine own_up ?_ fun t k => XS.i2b X0.here hx rfl (hb hby at_16) rfl k
  show own_G p.tables e below s _ _ _ (s₁.setTop (mkF m 17 #[.val (.int p1), .val (.int p2), .val (.double (FP.l2d v0)), .second, .val (.double (FP.l2d v1)), .second, .unset, .unset, .unset, .unset, .unset, .unset, .unset, .unset, .unset, .unset, .unset, .unset, .unset, .unset, .unset, .unset, .unset, .unset, .unset] [(.int ((p1 >>> ((16 : Int32) &&& 31)).toInt8.toInt32))]))
  refine own_up ?_ fun t k => XS.i2dS X0.here hx rfl (hb hby at_17) rfl (i2d_w _) k
  show own_G p.tables e below s _ _ _ (s₁.setTop (mkF m 18 #[.val (.int p1), .val (.int p2), .val (.double (FP.l2d v0)), .second, .val (.double (FP.l2d v1)), .second, .unset, .unset, .unset, .unset, .unset, .unset, .unset, .unset, .unset, .unset, .unset, .unset, .unset, .unset, .unset, .unset, .unset, .unset, .unset] [(.double (FP.l2d (((p1 >>> ((16 : Int32) &&& 31)).toInt8.toInt32).toInt64)))]))
  refine own_up ?_ fun t k => XS.dstore X0.here hx rfl (hb hby at_18) rfl (l' := #[.val (.int p1), .val (.int p2), .val (.double (FP.l2d v0)), .second, .val (.double (FP.l2d v1)), .second, .val (.double (FP.l2d (((p1 >>> ((16 : Int32) &&& 31)).toInt8.toInt32).toInt64))), .second, .unset, .unset, .unset, .unset, .unset, .unset, .unset, .unset, .unset, .unset, .unset, .unset, .unset, .unset, .unset, .unset, .unset]) rfl k
  show own_G p.tables e below s _ _ _ (s₁.setTop (mkF m 20 #[.val (.int p1), .val (.int p2), .val (.double (FP.l2d v0)), .second, .val (.double (FP.l2d v1)), .second, .val (.double (FP.l2d (((p1 >>> ((16 : Int32) &&& 31)).toInt8.toInt32).toInt64))), .second, .unset, .unset, .unset, .unset, .unset, .unset, .unset, .unset, .unset, .unset, .unset, .unset, .unset, .unset, .unset, .unset, .unset] []))
  obtain ⟨v2, h_v2⟩ : ∃ z, z = (((p1 >>> ((16 : Int32) &&& 31)).toInt8.toInt32).toInt64) := ⟨_, rfl⟩
  rw [← h_v2]
  show own_G p.tables e below s _ _ _ (s₁.setTop (mkF m 20 #[.val (.int p1), .val (.int p2), .val (.double (FP.l2d v0)), .second, .val (.double (FP.l2d v1)), .second, .val (.double (FP.l2d v2)), .second, .unset, .unset, .unset, .unset, .unset, .unset, .unset, .unset, .unset, .unset, .unset, .unset, .unset, .unset, .unset, .unset, .unset] []))
  refine own_up ?_ fun t k => XS.iloadN X0.here hx rfl (hb hby at_20) rfl k
  show own_G p.tables e below s _ _ _ (s₁.setTop (mkF m 21 #[.val (.int p1), .val (.int p2), .val (.double (FP.l2d v0)), .second, .val (.double (FP.l2d v1)), .second, .val (.double (FP.l2d v2)), .second, .unset, .unset, .unset, .unset, .unset, .unset, .unset, .unset, .unset, .unset, .unset, .unset, .unset, .unset, .unset, .unset, .unset] [(.int p1)]))
  refine own_up ?_ fun t k => XS.bipush X0.here hx rfl (hb hby at_21) k
  show own_G p.tables e below s _ _ _ (s₁.setTop (mkF m 23 #[.val (.int p1), .val (.int p2), .val (.double (FP.l2d v0)), .second, .val (.double (FP.l2d v1)), .second, .val (.double (FP.l2d v2)), .second, .unset, .unset, .unset, .unset, .unset, .unset, .unset, .unset, .unset, .unset, .unset, .unset, .unset, .unset, .unset, .unset, .unset] [(.int (24 : Int32)), (.int p1)]))
  refine own_up ?_ fun t k => XS.ishr X0.here hx rfl (hb hby at_23) rfl k
  show own_G p.tables e below s _ _ _ (s₁.setTop (mkF m 24 #[.val (.int p1), .val (.int p2), .val (.double (FP.l2d v0)), .second, .val (.double (FP.l2d v1)), .second, .val (.double (FP.l2d v2)), .second, .unset, .unset, .unset, .unset, .unset, .unset, .unset, .unset, .unset, .unset, .unset, .unset, .unset, .unset, .unset, .unset, .unset] [(.int (p1 >>> ((24 : Int32) &&& 31)))]))
  refine own_up ?_ fun t k => XS.i2b X0.here hx rfl (hb hby at_24) rfl k
  show own_G p.tables e below s _ _ _ (s₁.setTop (mkF m 25 #[.val (.int p1), .val (.int p2), .val (.double (FP.l2d v0)), .second, .val (.double (FP.l2d v1)), .second, .val (.double (FP.l2d v2)), .second, .unset, .unset, .unset, .unset, .unset, .unset, .unset, .unset, .unset, .unset, .unset, .unset, .unset, .unset, .unset, .unset, .unset] [(.int ((p1 >>> ((24 : Int32) &&& 31)).toInt8.toInt32))]))
  refine own_up ?_ fun t k => XS.i2dS X0.here hx rfl (hb hby at_25) rfl (i2d_w _) k
  show own_G p.tables e below s _ _ _ (s₁.setTop (mkF m 26 #[.val (.int p1), .val (.int p2), .val (.double (FP.l2d v0)), .second, .val (.double (FP.l2d v1)), .second, .val (.double (FP.l2d v2)), .second, .unset, .unset, .unset, .unset, .unset, .unset, .unset, .unset, .unset, .unset, .unset, .unset, .unset, .unset, .unset, .unset, .unset] [(.double (FP.l2d (((p1 >>> ((24 : Int32) &&& 31)).toInt8.toInt32).toInt64)))]))
  refine own_up ?_ fun t k => XS.dstore X0.here hx rfl (hb hby at_26) rfl (l' := #[.val (.int p1), .val (.int p2), .val (.double (FP.l2d v0)), .second, .val (.double (FP.l2d v1)), .second, .val (.double (FP.l2d v2)), .second, .val (.double (FP.l2d (((p1 >>> ((24 : Int32) &&& 31)).toInt8.toInt32).toInt64))), .second, .unset, .unset, .unset, .unset, .unset, .unset, .unset, .unset, .unset, .unset, .unset, .unset, .unset, .unset, .unset]) rfl k
  show own_G p.tables e below s _ _ _ (s₁.setTop (mkF m 28 #[.val (.int p1), .val (.int p2), .val (.double (FP.l2d v0)), .second, .val (.double (FP.l2d v1)), .second, .val (.double (FP.l2d v2)), .second, .val (.double (FP.l2d (((p1 >>> ((24 : Int32) &&& 31)).toInt8.toInt32).toInt64))), .second, .unset, .unset, .unset, .unset, .unset, .unset, .unset, .unset, .unset, .unset, .unset, .unset, .unset, .unset, .unset] []))
  obtain ⟨v3, h_v3⟩ : ∃ z, z = (((p1 >>> ((24 : Int32) &&& 31)).toInt8.toInt32).toInt64) := ⟨_, rfl⟩
  rw [← h_v3]
  show own_G p.tables e below s _ _ _ (s₁.setTop (mkF m 28 #[.val (.int p1), .val (.int p2), .val (.double (FP.l2d v0)), .second, .val (.double (FP.l2d v1)), .second, .val (.double (FP.l2d v2)), .second, .val (.double (FP.l2d v3)), .second, .unset, .unset, .unset, .unset, .unset, .unset, .unset, .unset, .unset, .unset, .unset, .unset, .unset, .unset, .unset] []))
  refine own_up ?_ fun t k => XS.iloadN X0.here hx rfl (hb hby at_28) rfl k
  show own_G p.tables e below s _ _ _ (s₁.setTop (mkF m 29 #[.val (.int p1), .val (.int p2), .val (.double (FP.l2d v0)), .second, .val (.double (FP.l2d v1)), .second, .val (.double (FP.l2d v2)), .second, .val (.double (FP.l2d v3)), .second, .unset, .unset, .unset, .unset, .unset, .unset, .unset, .unset, .unset, .unset, .unset, .unset, .unset, .unset, .unset] [(.int p2)]))
  refine own_up ?_ fun t k => XS.iconst X0.here hx rfl (hb hby at_29) k
  show own_G p.tables e below s _ _ _ (s₁.setTop (mkF m 30 #[.val (.int p1), .val (.int p2), .val (.double (FP.l2d v0)), .second, .val (.double (FP.l2d v1)), .second, .val (.double (FP.l2d v2)), .second, .val (.double (FP.l2d v3)), .second, .unset, .unset, .unset, .unset, .unset, .unset, .unset, .unset, .unset, .unset, .unset, .unset, .unset, .unset, .unset] [(.int (1 : Int32)), (.int p2)]))
  refine own_up ?_ fun t k => XS.iand X0.here hx rfl (hb hby at_30) rfl k
  show own_G p.tables e below s _ _ _ (s₁.setTop (mkF m 31 #[.val (.int p1), .val (.int p2), .val (.double (FP.l2d v0)), .second, .val (.double (FP.l2d v1)), .second, .val (.double (FP.l2d v2)), .second, .val (.double (FP.l2d v3)), .second, .unset, .unset, .unset, .unset, .unset, .unset, .unset, .unset, .unset, .unset, .unset, .unset, .unset, .unset, .unset] [(.int (p2 &&& (1 : Int32)))]))
  have dm42 : ∀ t, Steps p.tables e below (s₁.setTop (mkF m 39 #[.val (.int p1), .val (.int p2), .val (.double (FP.l2d v0)), .second, .val (.double (FP.l2d v1)), .second, .val (.double (FP.l2d v2)), .second, .val (.double (FP.l2d v3)), .second, .unset, .unset, .unset, .unset, .unset, .unset, .unset, .unset, .unset, .unset, .unset, .unset, .unset, .unset, .unset] [(.int (if (p2 &&& (1 : Int32)) = (0 : Int32) then (0 : Int32) else (1 : Int32)))])) t → Steps p.tables e below (s₁.setTop (mkF m 31 #[.val (.int p1), .val (.int p2), .val (.double (FP.l2d v0)), .second, .val (.double (FP.l2d v1)), .second, .val (.double (FP.l2d v2)), .second, .val (.double (FP.l2d v3)), .second, .unset, .unset, .unset, .unset, .unset, .unset, .unset, .unset, .unset, .unset, .unset, .unset, .unset, .unset, .unset] [(.int (p2 &&& (1 : Int32)))])) t := by
    intro t k
    by_cases hc31_41 : (p2 &&& (1 : Int32)) = (0 : Int32)
    · refine XS.ifYes X0.here hx rfl (pc0 := 31) (pc' := 38) rfl (hb hby at_31) rfl ((if0 _ _).trans (teq hc31_41).1) (by decide) (by decide) ?_
      show Steps p.tables e below (s₁.setTop (mkF m 38 #[.val (.int p1), .val (.int p2), .val (.double (FP.l2d v0)), .second, .val (.double (FP.l2d v1)), .second, .val (.double (FP.l2d v2)), .second, .val (.double (FP.l2d v3)), .second, .unset, .unset, .unset, .unset, .unset, .unset, .unset, .unset, .unset, .unset, .unset, .unset, .unset, .unset, .unset] [])) t
      refine XS.iconst X0.here hx rfl (hb hby at_38) ?_
      show Steps p.tables e below (s₁.setTop (mkF m 39 #[.val (.int p1), .val (.int p2), .val (.double (FP.l2d v0)), .second, .val (.double (FP.l2d v1)), .second, .val (.double (FP.l2d v2)), .second, .val (.double (FP.l2d v3)), .second, .unset, .unset, .unset, .unset, .unset, .unset, .unset, .unset, .unset, .unset, .unset, .unset, .unset, .unset, .unset] [(.int (0 : Int32))])) t
      simp only [if_pos hc31_41] at k
      exact k
    · refine XS.ifNo X0.here hx rfl (hb hby at_31) rfl ((if0 _ _).trans (feq hc31_41).1) ?_
      show Steps p.tables e below (s₁.setTop (mkF m 34 #[.val (.int p1), .val (.int p2), .val (.double (FP.l2d v0)), .second, .val (.double (FP.l2d v1)), .second, .val (.double (FP.l2d v2)), .second, .val (.double (FP.l2d v3)), .second, .unset, .unset, .unset, .unset, .unset, .unset, .unset, .unset, .unset, .unset, .unset, .unset, .unset, .unset, .unset] [])) t
      refine XS.iconst X0.here hx rfl (hb hby at_34) ?_
      show Steps p.tables e below (s₁.setTop (mkF m 35 #[.val (.int p1), .val (.int p2), .val (.double (FP.l2d v0)), .second, .val (.double (FP.l2d v1)), .second, .val (.double (FP.l2d v2)), .second, .val (.double (FP.l2d v3)), .second, .unset, .unset, .unset, .unset, .unset, .unset, .unset, .unset, .unset, .unset, .unset, .unset, .unset, .unset, .unset] [(.int (1 : Int32))])) t
      refine XS.goto X0.here hx rfl (pc0 := 35) (pc' := 39) rfl (hb hby at_35) (by decide) (by decide) ?_
      show Steps p.tables e below (s₁.setTop (mkF m 39 #[.val (.int p1), .val (.int p2), .val (.double (FP.l2d v0)), .second, .val (.double (FP.l2d v1)), .second, .val (.double (FP.l2d v2)), .second, .val (.double (FP.l2d v3)), .second, .unset, .unset, .unset, .unset, .unset, .unset, .unset, .unset, .unset, .unset, .unset, .unset, .unset, .unset, .unset] [(.int (1 : Int32))])) t
      simp only [if_neg hc31_41] at k
      exact k
  refine own_up ?_ dm42
  show own_G p.tables e below s _ _ _ (s₁.setTop (mkF m 39 #[.val (.int p1), .val (.int p2), .val (.double (FP.l2d v0)), .second, .val (.double (FP.l2d v1)), .second, .val (.double (FP.l2d v2)), .second, .val (.double (FP.l2d v3)), .second, .unset, .unset, .unset, .unset, .unset, .unset, .unset, .unset, .unset, .unset, .unset, .unset, .unset, .unset, .unset] [(.int (if (p2 &&& (1 : Int32)) = (0 : Int32) then (0 : Int32) else (1 : Int32)))]))
  refine own_up ?_ fun t k => XS.istore X0.here hx rfl (hb hby at_39) rfl (l' := #[.val (.int p1), .val (.int p2), .val (.double (FP.l2d v0)), .second, .val (.double (FP.l2d v1)), .second, .val (.double (FP.l2d v2)), .second, .val (.double (FP.l2d v3)), .second, .val (.int (if (p2 &&& (1 : Int32)) = (0 : Int32) then (0 : Int32) else (1 : Int32))), .unset, .unset, .unset, .unset, .unset, .unset, .unset, .unset, .unset, .unset, .unset, .unset, .unset, .unset]) rfl k
  show own_G p.tables e below s _ _ _ (s₁.setTop (mkF m 41 #[.val (.int p1), .val (.int p2), .val (.double (FP.l2d v0)), .second, .val (.double (FP.l2d v1)), .second, .val (.double (FP.l2d v2)), .second, .val (.double (FP.l2d v3)), .second, .val (.int (if (p2 &&& (1 : Int32)) = (0 : Int32) then (0 : Int32) else (1 : Int32))), .unset, .unset, .unset, .unset, .unset, .unset, .unset, .unset, .unset, .unset, .unset, .unset, .unset, .unset] []))
  obtain ⟨dv, h_dv⟩ : ∃ z, z = (if (p2 &&& (1 : Int32)) = (0 : Int32) then (0 : Int32) else (1 : Int32)) := ⟨_, rfl⟩
  rw [← h_dv]
  show own_G p.tables e below s _ _ _ (s₁.setTop (mkF m 41 #[.val (.int p1), .val (.int p2), .val (.double (FP.l2d v0)), .second, .val (.double (FP.l2d v1)), .second, .val (.double (FP.l2d v2)), .second, .val (.double (FP.l2d v3)), .second, .val (.int dv), .unset, .unset, .unset, .unset, .unset, .unset, .unset, .unset, .unset, .unset, .unset, .unset, .unset, .unset] []))
  refine own_up ?_ fun t k => XS.iloadN X0.here hx rfl (hb hby at_41) rfl k
  show own_G p.tables e below s _ _ _ (s₁.setTop (mkF m 42 #[.val (.int p1), .val (.int p2), .val (.double (FP.l2d v0)), .second, .val (.double (FP.l2d v1)), .second, .val (.double (FP.l2d v2)), .second, .val (.double (FP.l2d v3)), .second, .val (.int dv), .unset, .unset, .unset, .unset, .unset, .unset, .unset, .unset, .unset, .unset, .unset, .unset, .unset, .unset] [(.int p2)]))
  refine own_up ?_ fun t k => XS.iconst X0.here hx rfl (hb hby at_42) k
  show own_G p.tables e below s _ _ _ (s₁.setTop (mkF m 43 #[.val (.int p1), .val (.int p2), .val (.double (FP.l2d v0)), .second, .val (.double (FP.l2d v1)), .second, .val (.double (FP.l2d v2)), .second, .val (.double (FP.l2d v3)), .second, .val (.int dv), .unset, .unset, .unset, .unset, .unset, .unset, .unset, .unset, .unset, .unset, .unset, .unset, .unset, .unset] [(.int (2 : Int32)), (.int p2)]))
  refine own_up ?_ fun t k => XS.iand X0.here hx rfl (hb hby at_43) rfl k
  show own_G p.tables e below s _ _ _ (s₁.setTop (mkF m 44 #[.val (.int p1), .val (.int p2), .val (.double (FP.l2d v0)), .second, .val (.double (FP.l2d v1)), .second, .val (.double (FP.l2d v2)), .second, .val (.double (FP.l2d v3)), .second, .val (.int dv), .unset, .unset, .unset, .unset, .unset, .unset, .unset, .unset, .unset, .unset, .unset, .unset, .unset, .unset] [(.int (p2 &&& (2 : Int32)))]))
  have dm44 : ∀ t, Steps p.tables e below (s₁.setTop (mkF m 52 #[.val (.int p1), .val (.int p2), .val (.double (FP.l2d v0)), .second, .val (.double (FP.l2d v1)), .second, .val (.double (FP.l2d v2)), .second, .val (.double (FP.l2d v3)), .second, .val (.int dv), .unset, .unset, .unset, .unset, .unset, .unset, .unset, .unset, .unset, .unset, .unset, .unset, .unset, .unset] [(.int (if (p2 &&& (2 : Int32)) = (0 : Int32) then (0 : Int32) else (1 : Int32)))])) t → Steps p.tables e below (s₁.setTop (mkF m 44 #[.val (.int p1), .val (.int p2), .val (.double (FP.l2d v0)), .second, .val (.double (FP.l2d v1)), .second, .val (.double (FP.l2d v2)), .second, .val (.double (FP.l2d v3)), .second, .val (.int dv), .unset, .unset, .unset, .unset, .unset, .unset, .unset, .unset, .unset, .unset, .unset, .unset, .unset, .unset] [(.int (p2 &&& (2 : Int32)))])) t := by
    intro t k
    by_cases hc44_43 : (p2 &&& (2 : Int32)) = (0 : Int32)
    · refine XS.ifYes X0.here hx rfl (pc0 := 44) (pc' := 51) rfl (hb hby at_44) rfl ((if0 _ _).trans (teq hc44_43).1) (by decide) (by decide) ?_
      show Steps p.tables e below (s₁.setTop (mkF m 51 #[.val (.int p1), .val (.int p2), .val (.double (FP.l2d v0)), .second, .val (.double (FP.l2d v1)), .second, .val (.double (FP.l2d v2)), .second, .val (.double (FP.l2d v3)), .second, .val (.int dv), .unset, .unset, .unset, .unset, .unset, .unset, .unset, .unset, .unset, .unset, .unset, .unset, .unset, .unset] [])) t
      refine XS.iconst X0.here hx rfl (hb hby at_51) ?_
      show Steps p.tables e below (s₁.setTop (mkF m 52 #[.val (.int p1), .val (.int p2), .val (.double (FP.l2d v0)), .second, .val (.double (FP.l2d v1)), .second, .val (.double (FP.l2d v2)), .second, .val (.double (FP.l2d v3)), .second, .val (.int dv), .unset, .unset, .unset, .unset, .unset, .unset, .unset, .unset, .unset, .unset, .unset, .unset, .unset, .unset] [(.int (0 : Int32))])) t
      simp only [if_pos hc44_43] at k
      exact k
    · refine XS.ifNo X0.here hx rfl (hb hby at_44) rfl ((if0 _ _).trans (feq hc44_43).1) ?_
      show Steps p.tables e below (s₁.setTop (mkF m 47 #[.val (.int p1), .val (.int p2), .val (.double (FP.l2d v0)), .second, .val (.double (FP.l2d v1)), .second, .val (.double (FP.l2d v2)), .second, .val (.double (FP.l2d v3)), .second, .val (.int dv), .unset, .unset, .unset, .unset, .unset, .unset, .unset, .unset, .unset, .unset, .unset, .unset, .unset, .unset] [])) t
      refine XS.iconst X0.here hx rfl (hb hby at_47) ?_
      show Steps p.tables e below (s₁.setTop (mkF m 48 #[.val (.int p1), .val (.int p2), .val (.double (FP.l2d v0)), .second, .val (.double (FP.l2d v1)), .second, .val (.double (FP.l2d v2)), .second, .val (.double (FP.l2d v3)), .second, .val (.int dv), .unset, .unset, .unset, .unset, .unset, .unset, .unset, .unset, .unset, .unset, .unset, .unset, .unset, .unset] [(.int (1 : Int32))])) t
      refine XS.goto X0.here hx rfl (pc0 := 48) (pc' := 52) rfl (hb hby at_48) (by decide) (by decide) ?_
      show Steps p.tables e below (s₁.setTop (mkF m 52 #[.val (.int p1), .val (.int p2), .val (.double (FP.l2d v0)), .second, .val (.double (FP.l2d v1)), .second, .val (.double (FP.l2d v2)), .second, .val (.double (FP.l2d v3)), .second, .val (.int dv), .unset, .unset, .unset, .unset, .unset, .unset, .unset, .unset, .unset, .unset, .unset, .unset, .unset, .unset] [(.int (1 : Int32))])) t
      simp only [if_neg hc44_43] at k
      exact k
  refine own_up ?_ dm44
  show own_G p.tables e below s _ _ _ (s₁.setTop (mkF m 52 #[.val (.int p1), .val (.int p2), .val (.double (FP.l2d v0)), .second, .val (.double (FP.l2d v1)), .second, .val (.double (FP.l2d v2)), .second, .val (.double (FP.l2d v3)), .second, .val (.int dv), .unset, .unset, .unset, .unset, .unset, .unset, .unset, .unset, .unset, .unset, .unset, .unset, .unset, .unset] [(.int (if (p2 &&& (2 : Int32)) = (0 : Int32) then (0 : Int32) else (1 : Int32)))]))
  refine own_up ?_ fun t k => XS.istore X0.here hx rfl (hb hby at_52) rfl (l' := #[.val (.int p1), .val (.int p2), .val (.double (FP.l2d v0)), .second, .val (.double (FP.l2d v1)), .second, .val (.double (FP.l2d v2)), .second, .val (.double (FP.l2d v3)), .second, .val (.int dv), .val (.int (if (p2 &&& (2 : Int32)) = (0 : Int32) then (0 : Int32) else (1 : Int32))), .unset, .unset, .unset, .unset, .unset, .unset, .unset, .unset, .unset, .unset, .unset, .unset, .unset]) rfl k
  show own_G p.tables e below s _ _ _ (s₁.setTop (mkF m 54 #[.val (.int p1), .val (.int p2), .val (.double (FP.l2d v0)), .second, .val (.double (FP.l2d v1)), .second, .val (.double (FP.l2d v2)), .second, .val (.double (FP.l2d v3)), .second, .val (.int dv), .val (.int (if (p2 &&& (2 : Int32)) = (0 : Int32) then (0 : Int32) else (1 : Int32))), .unset, .unset, .unset, .unset, .unset, .unset, .unset, .unset, .unset, .unset, .unset, .unset, .unset] []))
  obtain ⟨d0, h_d0⟩ : ∃ z, z = (if (p2 &&& (2 : Int32)) = (0 : Int32) then (0 : Int32) else (1 : Int32)) := ⟨_, rfl⟩
  rw [← h_d0]
  show own_G p.tables e below s _ _ _ (s₁.setTop (mkF m 54 #[.val (.int p1), .val (.int p2), .val (.double (FP.l2d v0)), .second, .val (.double (FP.l2d v1)), .second, .val (.double (FP.l2d v2)), .second, .val (.double (FP.l2d v3)), .second, .val (.int dv), .val (.int d0), .unset, .unset, .unset, .unset, .unset, .unset, .unset, .unset, .unset, .unset, .unset, .unset, .unset] []))
  refine own_up ?_ fun t k => XS.iloadN X0.here hx rfl (hb hby at_54) rfl k
  show own_G p.tables e below s _ _ _ (s₁.setTop (mkF m 55 #[.val (.int p1), .val (.int p2), .val (.double (FP.l2d v0)), .second, .val (.double (FP.l2d v1)), .second, .val (.double (FP.l2d v2)), .second, .val (.double (FP.l2d v3)), .second, .val (.int dv), .val (.int d0), .unset, .unset, .unset, .unset, .unset, .unset, .unset, .unset, .unset, .unset, .unset, .unset, .unset] [(.int p2)]))
  refine own_up ?_ fun t k => XS.iconst X0.here hx rfl (hb hby at_55) k
  show own_G p.tables e below s _ _ _ (s₁.setTop (mkF m 56 #[.val (.int p1), .val (.int p2), .val (.double (FP.l2d v0)), .second, .val (.double (FP.l2d v1)), .second, .val (.double (FP.l2d v2)), .second, .val (.double (FP.l2d v3)), .second, .val (.int dv), .val (.int d0), .unset, .unset, .unset, .unset, .unset, .unset, .unset, .unset, .unset, .unset, .unset, .unset, .unset] [(.int (4 : Int32)), (.int p2)]))
  refine own_up ?_ fun t k => XS.iand X0.here hx rfl (hb hby at_56) rfl k
  show own_G p.tables e below s _ _ _ (s₁.setTop (mkF m 57 #[.val (.int p1), .val (.int p2), .val (.double (FP.l2d v0)), .second, .val (.double (FP.l2d v1)), .second, .val (.double (FP.l2d v2)), .second, .val (.double (FP.l2d v3)), .second, .val (.int dv), .val (.int d0), .unset, .unset, .unset, .unset, .unset, .unset, .unset, .unset, .unset, .unset, .unset, .unset, .unset] [(.int (p2 &&& (4 : Int32)))]))
  have dm46 : ∀ t, Steps p.tables e below (s₁.setTop (mkF m 65 #[.val (.int p1), .val (.int p2), .val (.double (FP.l2d v0)), .second, .val (.double (FP.l2d v1)), .second, .val (.double (FP.l2d v2)), .second, .val (.double (FP.l2d v3)), .second, .val (.int dv), .val (.int d0), .unset, .unset, .unset, .unset, .unset, .unset, .unset, .unset, .unset, .unset, .unset, .unset, .unset] [(.int (if (p2 &&& (4 : Int32)) = (0 : Int32) then (0 : Int32) else (1 : Int32)))])) t → Steps p.tables e below (s₁.setTop (mkF m 57 #[.val (.int p1), .val (.int p2), .val (.double (FP.l2d v0)), .second, .val (.double (FP.l2d v1)), .second, .val (.double (FP.l2d v2)), .second, .val (.double (FP.l2d v3)), .second, .val (.int dv), .val (.int d0), .unset, .unset, .unset, .unset, .unset, .unset, .unset, .unset, .unset, .unset, .unset, .unset, .unset] [(.int (p2 &&& (4 : Int32)))])) t := by
    intro t k
    by_cases hc57_45 : (p2 &&& (4 : Int32)) = (0 : Int32)
    · refine XS.ifYes X0.here hx rfl (pc0 := 57) (pc' := 64) rfl (hb hby at_57) rfl ((if0 _ _).trans (teq hc57_45).1) (by decide) (by decide) ?_
      show Steps p.tables e below (s₁.setTop (mkF m 64 #[.val (.int p1), .val (.int p2), .val (.double (FP.l2d v0)), .second, .val (.double (FP.l2d v1)), .second, .val (.double (FP.l2d v2)), .second, .val (.double (FP.l2d v3)), .second, .val (.int dv), .val (.int d0), .unset, .unset, .unset, .unset, .unset, .unset, .unset, .unset, .unset, .unset, .unset, .unset, .unset] [])) t
      refine XS.iconst X0.here hx rfl (hb hby at_64) ?_
      show Steps p.tables e below (s₁.setTop (mkF m 65 #[.val (.int p1), .val (.int p2), .val (.double (FP.l2d v0)), .second, .val (.double (FP.l2d v1)), .second, .val (.double (FP.l2d v2)), .second, .val (.double (FP.l2d v3)), .second, .val (.int dv), .val (.int d0), .unset, .unset, .unset, .unset, .unset, .unset, .unset, .unset, .unset, .unset, .unset, .unset, .unset] [(.int (0 : Int32))])) t
      simp only [if_pos hc57_45] at k
      exact k
    · refine XS.ifNo X0.here hx rfl (hb hby at_57) rfl ((if0 _ _).trans (feq hc57_45).1) ?_
      show Steps p.tables e below (s₁.setTop (mkF m 60 #[.val (.int p1), .val (.int p2), .val (.double (FP.l2d v0)), .second, .val (.double (FP.l2d v1)), .second, .val (.double (FP.l2d v2)), .second, .val (.double (FP.l2d v3)), .second, .val (.int dv), .val (.int d0), .unset, .unset, .unset, .unset, .unset, .unset, .unset, .unset, .unset, .unset, .unset, .unset, .unset] [])) t
      refine XS.iconst X0.here hx rfl (hb hby at_60) ?_
      show Steps p.tables e below (s₁.setTop (mkF m 61 #[.val (.int p1), .val (.int p2), .val (.double (FP.l2d v0)), .second, .val (.double (FP.l2d v1)), .second, .val (.double (FP.l2d v2)), .second, .val (.double (FP.l2d v3)), .second, .val (.int dv), .val (.int d0), .unset, .unset, .unset, .unset, .unset, .unset, .unset, .unset, .unset, .unset, .unset, .unset, .unset] [(.int (1 : Int32))])) t
      refine XS.goto X0.here hx rfl (pc0 := 61) (pc' := 65) rfl (hb hby at_61) (by decide) (by decide) ?_
      show Steps p.tables e below (s₁.setTop (mkF m 65 #[.val (.int p1), .val (.int p2), .val (.double (FP.l2d v0)), .second, .val (.double (FP.l2d v1)), .second, .val (.double (FP.l2d v2)), .second, .val (.double (FP.l2d v3)), .second, .val (.int dv), .val (.int d0), .unset, .unset, .unset, .unset, .unset, .unset, .unset, .unset, .unset, .unset, .unset, .unset, .unset] [(.int (1 : Int32))])) t
      simp only [if_neg hc57_45] at k
      exact k
  refine own_up ?_ dm46
  show own_G p.tables e below s _ _ _ (s₁.setTop (mkF m 65 #[.val (.int p1), .val (.int p2), .val (.double (FP.l2d v0)), .second, .val (.double (FP.l2d v1)), .second, .val (.double (FP.l2d v2)), .second, .val (.double (FP.l2d v3)), .second, .val (.int dv), .val (.int d0), .unset, .unset, .unset, .unset, .unset, .unset, .unset, .unset, .unset, .unset, .unset, .unset, .unset] [(.int (if (p2 &&& (4 : Int32)) = (0 : Int32) then (0 : Int32) else (1 : Int32)))]))
  refine own_up ?_ fun t k => XS.istore X0.here hx rfl (hb hby at_65) rfl (l' := #[.val (.int p1), .val (.int p2), .val (.double (FP.l2d v0)), .second, .val (.double (FP.l2d v1)), .second, .val (.double (FP.l2d v2)), .second, .val (.double (FP.l2d v3)), .second, .val (.int dv), .val (.int d0), .val (.int (if (p2 &&& (4 : Int32)) = (0 : Int32) then (0 : Int32) else (1 : Int32))), .unset, .unset, .unset, .unset, .unset, .unset, .unset, .unset, .unset, .unset, .unset, .unset]) rfl k
  show own_G p.tables e below s _ _ _ (s₁.setTop (mkF m 67 #[.val (.int p1), .val (.int p2), .val (.double (FP.l2d v0)), .second, .val (.double (FP.l2d v1)), .second, .val (.double (FP.l2d v2)), .second, .val (.double (FP.l2d v3)), .second, .val (.int dv), .val (.int d0), .val (.int (if (p2 &&& (4 : Int32)) = (0 : Int32) then (0 : Int32) else (1 : Int32))), .unset, .unset, .unset, .unset, .unset, .unset, .unset, .unset, .unset, .unset, .unset, .unset] []))
  obtain ⟨d1, h_d1⟩ : ∃ z, z = (if (p2 &&& (4 : Int32)) = (0 : Int32) then (0 : Int32) else (1 : Int32)) := ⟨_, rfl⟩
  rw [← h_d1]
  show own_G p.tables e below s _ _ _ (s₁.setTop (mkF m 67 #[.val (.int p1), .val (.int p2), .val (.double (FP.l2d v0)), .second, .val (.double (FP.l2d v1)), .second, .val (.double (FP.l2d v2)), .second, .val (.double (FP.l2d v3)), .second, .val (.int dv), .val (.int d0), .val (.int d1), .unset, .unset, .unset, .unset, .unset, .unset, .unset, .unset, .unset, .unset, .unset, .unset] []))
  refine own_up ?_ fun t k => XS.iloadN X0.here hx rfl (hb hby at_67) rfl k
  show own_G p.tables e below s _ _ _ (s₁.setTop (mkF m 68 #[.val (.int p1), .val (.int p2), .val (.double (FP.l2d v0)), .second, .val (.double (FP.l2d v1)), .second, .val (.double (FP.l2d v2)), .second, .val (.double (FP.l2d v3)), .second, .val (.int dv), .val (.int d0), .val (.int d1), .unset, .unset, .unset, .unset, .unset, .unset, .unset, .unset, .unset, .unset, .unset, .unset] [(.int p2)]))
  refine own_up ?_ fun t k => XS.bipush X0.here hx rfl (hb hby at_68) k
  show own_G p.tables e below s _ _ _ (s₁.setTop (mkF m 70 #[.val (.int p1), .val (.int p2), .val (.double (FP.l2d v0)), .second, .val (.double (FP.l2d v1)), .second, .val (.double (FP.l2d v2)), .second, .val (.double (FP.l2d v3)), .second, .val (.int dv), .val (.int d0), .val (.int d1), .unset, .unset, .unset, .unset, .unset, .unset, .unset, .unset, .unset, .unset, .unset, .unset] [(.int (8 : Int32)), (.int p2)]))
  refine own_up ?_ fun t k => XS.iand X0.here hx rfl (hb hby at_70) rfl k
  show own_G p.tables e below s _ _ _ (s₁.setTop (mkF m 71 #[.val (.int p1), .val (.int p2), .val (.double (FP.l2d v0)), .second, .val (.double (FP.l2d v1)), .second, .val (.double (FP.l2d v2)), .second, .val (.double (FP.l2d v3)), .second, .val (.int dv), .val (.int d0), .val (.int d1), .unset, .unset, .unset, .unset, .unset, .unset, .unset, .unset, .unset, .unset, .unset, .unset] [(.int (p2 &&& (8 : Int32)))]))
  have dm48 : ∀ t, Steps p.tables e below (s₁.setTop (mkF m 79 #[.val (.int p1), .val (.int p2), .val (.double (FP.l2d v0)), .second, .val (.double (FP.l2d v1)), .second, .val (.double (FP.l2d v2)), .second, .val (.double (FP.l2d v3)), .second, .val (.int dv), .val (.int d0), .val (.int d1), .unset, .unset, .unset, .unset, .unset, .unset, .unset, .unset, .unset, .unset, .unset, .unset] [(.int (if (p2 &&& (8 : Int32)) = (0 : Int32) then (0 : Int32) else (1 : Int32)))])) t → Steps p.tables e below (s₁.setTop (mkF m 71 #[.val (.int p1), .val (.int p2), .val (.double (FP.l2d v0)), .second, .val (.double (FP.l2d v1)), .second, .val (.double (FP.l2d v2)), .second, .val (.double (FP.l2d v3)), .second, .val (.int dv), .val (.int d0), .val (.int d1), .unset, .unset, .unset, .unset, .unset, .unset, .unset, .unset, .unset, .unset, .unset, .unset] [(.int (p2 &&& (8 : Int32)))])) t := by
    intro t k
    by_cases hc71_47 : (p2 &&& (8 : Int32)) = (0 : Int32)
    · refine XS.ifYes X0.here hx rfl (pc0 := 71) (pc' := 78) rfl (hb hby at_71) rfl ((if0 _ _).trans (teq hc71_47).1) (by decide) (by decide) ?_
      show Steps p.tables e below (s₁.setTop (mkF m 78 #[.val (.int p1), .val (.int p2), .val (.double (FP.l2d v0)), .second, .val (.double (FP.l2d v1)), .second, .val (.double (FP.l2d v2)), .second, .val (.double (FP.l2d v3)), .second, .val (.int dv), .val (.int d0), .val (.int d1), .unset, .unset, .unset, .unset, .unset, .unset, .unset, .unset, .unset, .unset, .unset, .unset] [])) t
      refine XS.iconst X0.here hx rfl (hb hby at_78) ?_
      show Steps p.tables e below (s₁.setTop (mkF m 79 #[.val (.int p1), .val (.int p2), .val (.double (FP.l2d v0)), .second, .val (.double (FP.l2d v1)), .second, .val (.double (FP.l2d v2)), .second, .val (.double (FP.l2d v3)), .second, .val (.int dv), .val (.int d0), .val (.int d1), .unset, .unset, .unset, .unset, .unset, .unset, .unset, .unset, .unset, .unset, .unset, .unset] [(.int (0 : Int32))])) t
      simp only [if_pos hc71_47] at k
      exact k
    · refine XS.ifNo X0.here hx rfl (hb hby at_71) rfl ((if0 _ _).trans (feq hc71_47).1) ?_
      show Steps p.tables e below (s₁.setTop (mkF m 74 #[.val (.int p1), .val (.int p2), .val (.double (FP.l2d v0)), .second, .val (.double (FP.l2d v1)), .second, .val (.double (FP.l2d v2)), .second, .val (.double (FP.l2d v3)), .second, .val (.int dv), .val (.int d0), .val (.int d1), .unset, .unset, .unset, .unset, .unset, .unset, .unset, .unset, .unset, .unset, .unset, .unset] [])) t
      refine XS.iconst X0.here hx rfl (hb hby at_74) ?_
      show Steps p.tables e below (s₁.setTop (mkF m 75 #[.val (.int p1), .val (.int p2), .val (.double (FP.l2d v0)), .second, .val (.double (FP.l2d v1)), .second, .val (.double (FP.l2d v2)), .second, .val (.double (FP.l2d v3)), .second, .val (.int dv), .val (.int d0), .val (.int d1), .unset, .unset, .unset, .unset, .unset, .unset, .unset, .unset, .unset, .unset, .unset, .unset] [(.int (1 : Int32))])) t
      refine XS.goto X0.here hx rfl (pc0 := 75) (pc' := 79) rfl (hb hby at_75) (by decide) (by decide) ?_
      show Steps p.tables e below (s₁.setTop (mkF m 79 #[.val (.int p1), .val (.int p2), .val (.double (FP.l2d v0)), .second, .val (.double (FP.l2d v1)), .second, .val (.double (FP.l2d v2)), .second, .val (.double (FP.l2d v3)), .second, .val (.int dv), .val (.int d0), .val (.int d1), .unset, .unset, .unset, .unset, .unset, .unset, .unset, .unset, .unset, .unset, .unset, .unset] [(.int (1 : Int32))])) t
      simp only [if_neg hc71_47] at k
      exact k
  refine own_up ?_ dm48
  show own_G p.tables e below s _ _ _ (s₁.setTop (mkF m 79 #[.val (.int p1), .val (.int p2), .val (.double (FP.l2d v0)), .second, .val (.double (FP.l2d v1)), .second, .val (.double (FP.l2d v2)), .second, .val (.double (FP.l2d v3)), .second, .val (.int dv), .val (.int d0), .val (.int d1), .unset, .unset, .unset, .unset, .unset, .unset, .unset, .unset, .unset, .unset, .unset, .unset] [(.int (if (p2 &&& (8 : Int32)) = (0 : Int32) then (0 : Int32) else (1 : Int32)))]))
  refine own_up ?_ fun t k => XS.istore X0.here hx rfl (hb hby at_79) rfl (l' := #[.val (.int p1), .val (.int p2), .val (.double (FP.l2d v0)), .second, .val (.double (FP.l2d v1)), .second, .val (.double (FP.l2d v2)), .second, .val (.double (FP.l2d v3)), .second, .val (.int dv), .val (.int d0), .val (.int d1), .val (.int (if (p2 &&& (8 : Int32)) = (0 : Int32) then (0 : Int32) else (1 : Int32))), .unset, .unset, .unset, .unset, .unset, .unset, .unset, .unset, .unset, .unset, .unset]) rfl k
  show own_G p.tables e below s _ _ _ (s₁.setTop (mkF m 81 #[.val (.int p1), .val (.int p2), .val (.double (FP.l2d v0)), .second, .val (.double (FP.l2d v1)), .second, .val (.double (FP.l2d v2)), .second, .val (.double (FP.l2d v3)), .second, .val (.int dv), .val (.int d0), .val (.int d1), .val (.int (if (p2 &&& (8 : Int32)) = (0 : Int32) then (0 : Int32) else (1 : Int32))), .unset, .unset, .unset, .unset, .unset, .unset, .unset, .unset, .unset, .unset, .unset] []))
  obtain ⟨d2, h_d2⟩ : ∃ z, z = (if (p2 &&& (8 : Int32)) = (0 : Int32) then (0 : Int32) else (1 : Int32)) := ⟨_, rfl⟩
  rw [← h_d2]
  show own_G p.tables e below s _ _ _ (s₁.setTop (mkF m 81 #[.val (.int p1), .val (.int p2), .val (.double (FP.l2d v0)), .second, .val (.double (FP.l2d v1)), .second, .val (.double (FP.l2d v2)), .second, .val (.double (FP.l2d v3)), .second, .val (.int dv), .val (.int d0), .val (.int d1), .val (.int d2), .unset, .unset, .unset, .unset, .unset, .unset, .unset, .unset, .unset, .unset, .unset] []))
  refine own_up ?_ fun t k => XS.dloadN X0.here hx rfl (hb hby at_81) rfl k
  show own_G p.tables e below s _ _ _ (s₁.setTop (mkF m 82 #[.val (.int p1), .val (.int p2), .val (.double (FP.l2d v0)), .second, .val (.double (FP.l2d v1)), .second, .val (.double (FP.l2d v2)), .second, .val (.double (FP.l2d v3)), .second, .val (.int dv), .val (.int d0), .val (.int d1), .val (.int d2), .unset, .unset, .unset, .unset, .unset, .unset, .unset, .unset, .unset, .unset, .unset] [(.double (FP.l2d v0))]))
  refine own_up ?_ fun t k => XS.iload X0.here hx rfl (hb hby at_82) rfl k
  show own_G p.tables e below s _ _ _ (s₁.setTop (mkF m 84 #[.val (.int p1), .val (.int p2), .val (.double (FP.l2d v0)), .second, .val (.double (FP.l2d v1)), .second, .val (.double (FP.l2d v2)), .second, .val (.double (FP.l2d v3)), .second, .val (.int dv), .val (.int d0), .val (.int d1), .val (.int d2), .unset, .unset, .unset, .unset, .unset, .unset, .unset, .unset, .unset, .unset, .unset] [(.int dv), (.double (FP.l2d v0))]))
  refine own_up ?_ fun t k => XS.iloadN X0.here hx rfl (hb hby at_84) rfl k
  show own_G p.tables e below s _ _ _ (s₁.setTop (mkF m 85 #[.val (.int p1), .val (.int p2), .val (.double (FP.l2d v0)), .second, .val (.double (FP.l2d v1)), .second, .val (.double (FP.l2d v2)), .second, .val (.double (FP.l2d v3)), .second, .val (.int dv), .val (.int d0), .val (.int d1), .val (.int d2), .unset, .unset, .unset, .unset, .unset, .unset, .unset, .unset, .unset, .unset, .unset] [(.int p2), (.int dv), (.double (FP.l2d v0))]))
  refine own_up ?_ fun t k => XS.iconst X0.here hx rfl (hb hby at_85) k
  show own_G p.tables e below s _ _ _ (s₁.setTop (mkF m 86 #[.val (.int p1), .val (.int p2), .val (.double (FP.l2d v0)), .second, .val (.double (FP.l2d v1)), .second, .val (.double (FP.l2d v2)), .second, .val (.double (FP.l2d v3)), .second, .val (.int dv), .val (.int d0), .val (.int d1), .val (.int d2), .unset, .unset, .unset, .unset, .unset, .unset, .unset, .unset, .unset, .unset, .unset] [(.int (4 : Int32)), (.int p2), (.int dv), (.double (FP.l2d v0))]))
  refine own_up ?_ fun t k => XS.ishr X0.here hx rfl (hb hby at_86) rfl k
  show own_G p.tables e below s _ _ _ (s₁.setTop (mkF m 87 #[.val (.int p1), .val (.int p2), .val (.double (FP.l2d v0)), .second, .val (.double (FP.l2d v1)), .second, .val (.double (FP.l2d v2)), .second, .val (.double (FP.l2d v3)), .second, .val (.int dv), .val (.int d0), .val (.int d1), .val (.int d2), .unset, .unset, .unset, .unset, .unset, .unset, .unset, .unset, .unset, .unset, .unset] [(.int (p2 >>> ((4 : Int32) &&& 31))), (.int dv), (.double (FP.l2d v0))]))
  refine own_up ?_ fun t k => XS.iconst X0.here hx rfl (hb hby at_87) k
  show own_G p.tables e below s _ _ _ (s₁.setTop (mkF m 88 #[.val (.int p1), .val (.int p2), .val (.double (FP.l2d v0)), .second, .val (.double (FP.l2d v1)), .second, .val (.double (FP.l2d v2)), .second, .val (.double (FP.l2d v3)), .second, .val (.int dv), .val (.int d0), .val (.int d1), .val (.int d2), .unset, .unset, .unset, .unset, .unset, .unset, .unset, .unset, .unset, .unset, .unset] [(.int (3 : Int32)), (.int (p2 >>> ((4 : Int32) &&& 31))), (.int dv), (.double (FP.l2d v0))]))
  refine own_up ?_ fun t k => XS.iand X0.here hx rfl (hb hby at_88) rfl k
  show own_G p.tables e below s _ _ _ (s₁.setTop (mkF m 89 #[.val (.int p1), .val (.int p2), .val (.double (FP.l2d v0)), .second, .val (.double (FP.l2d v1)), .second, .val (.double (FP.l2d v2)), .second, .val (.double (FP.l2d v3)), .second, .val (.int dv), .val (.int d0), .val (.int d1), .val (.int d2), .unset, .unset, .unset, .unset, .unset, .unset, .unset, .unset, .unset, .unset, .unset] [(.int ((p2 >>> ((4 : Int32) &&& 31)) &&& (3 : Int32))), (.int dv), (.double (FP.l2d v0))]))
  obtain ⟨m0, h_m0⟩ : ∃ z, z = ((p2 >>> ((4 : Int32) &&& 31)) &&& (3 : Int32)) := ⟨_, rfl⟩
  rw [← h_m0]
  show own_G p.tables e below s _ _ _ (s₁.setTop (mkF m 89 #[.val (.int p1), .val (.int p2), .val (.double (FP.l2d v0)), .second, .val (.double (FP.l2d v1)), .second, .val (.double (FP.l2d v2)), .second, .val (.double (FP.l2d v3)), .second, .val (.int dv), .val (.int d0), .val (.int d1), .val (.int d2), .unset, .unset, .unset, .unset, .unset, .unset, .unset, .unset, .unset, .unset, .unset] [(.int m0), (.int dv), (.double (FP.l2d v0))]))
  obtain ⟨_, _, ⟨T49, L49, k49, n49⟩, -, X49, ⟨Lc49, hQ49, l49, y49, z49⟩, st49⟩ := Jvm.LawKit.callS X0 hx (y := (⟨"com/example/swarmfront/swarmfront/swarm/PointSameValuesPinLaw", "shifted", "(DZI)D"⟩ : MethodName)) hown (mvT hZ (hw _ (List.mem_of_getElem? (i := 0) rfl))) (mvT hZ (hw _ (List.mem_of_getElem? (i := 1) rfl))) (mvT hZ (hw _ (List.mem_of_getElem? (i := 2) rfl))) (mvT hZ (hw _ (List.mem_of_getElem? (i := 3) rfl))) (by decide) (backOf (W := 0) (rm1 l Z a0 hw [] dv m0 v0 h0 n0 Z0 (own_isb h_v0) (own_amt h_m0)) hZ (hw _ (List.mem_of_getElem? (i := 3) rfl)) (hw _ (List.mem_of_getElem? (i := 2) rfl)) (by decide) (by decide)) (g := (mkF m 89 #[.val (.int p1), .val (.int p2), .val (.double (FP.l2d v0)), .second, .val (.double (FP.l2d v1)), .second, .val (.double (FP.l2d v2)), .second, .val (.double (FP.l2d v3)), .second, .val (.int dv), .val (.int d0), .val (.int d1), .val (.int d2), .unset, .unset, .unset, .unset, .unset, .unset, .unset, .unset, .unset, .unset, .unset] [(.int m0), (.int dv), (.double (FP.l2d v0))])) rfl (by rw [hml]; rfl) (argsL := [(.double (FP.l2d v0)), (.int dv), (.int m0)]) (rest := []) (lenOf own_pd0 rfl) rfl (by show 2 * 0 + _ ≤ _; exact Nat.le_of_eq rfl) (hb hby at_89) (fun _ _ => ⟨rfl, e0, (by decide : 0 + 0 ≤ _), (by decide : 0 + 0 ≤ _)⟩)
  dsimp only [Pt.U, Pt.locs, Pt.cells, Pt.slots] at X49 l49 y49 z49 st49 hQ49
  subst l49 y49 z49
  obtain ⟨rfl, Nq49, e49⟩ := hQ49
  have N49 := Fr.app N0 Nq49
  refine own_up ?_ (st49)
  show own_G p.tables e below s _ _ _ (T49.setTop (mkF m 92 #[.val (.int p1), .val (.int p2), .val (.double (FP.l2d v0)), .second, .val (.double (FP.l2d v1)), .second, .val (.double (FP.l2d v2)), .second, .val (.double (FP.l2d v3)), .second, .val (.int dv), .val (.int d0), .val (.int d1), .val (.int d2), .unset, .unset, .unset, .unset, .unset, .unset, .unset, .unset, .unset, .unset, .unset] [(.double (FP.l2d (own_shift v0 dv m0)))]))
  refine own_up ?_ fun t k => XS.dstore X49.here hx rfl (hb hby at_92) rfl (l' := #[.val (.int p1), .val (.int p2), .val (.double (FP.l2d v0)), .second, .val (.double (FP.l2d v1)), .second, .val (.double (FP.l2d v2)), .second, .val (.double (FP.l2d v3)), .second, .val (.int dv), .val (.int d0), .val (.int d1), .val (.int d2), .val (.double (FP.l2d (own_shift v0 dv m0))), .second, .unset, .unset, .unset, .unset, .unset, .unset, .unset, .unset, .unset]) rfl k
  show own_G p.tables e below s _ _ _ (T49.setTop (mkF m 94 #[.val (.int p1), .val (.int p2), .val (.double (FP.l2d v0)), .second, .val (.double (FP.l2d v1)), .second, .val (.double (FP.l2d v2)), .second, .val (.double (FP.l2d v3)), .second, .val (.int dv), .val (.int d0), .val (.int d1), .val (.int d2), .val (.double (FP.l2d (own_shift v0 dv m0))), .second, .unset, .unset, .unset, .unset, .unset, .unset, .unset, .unset, .unset] []))
  obtain ⟨w0, h_w0⟩ : ∃ z, z = (own_shift v0 dv m0) := ⟨_, rfl⟩
  rw [← h_w0]
  show own_G p.tables e below s _ _ _ (T49.setTop (mkF m 94 #[.val (.int p1), .val (.int p2), .val (.double (FP.l2d v0)), .second, .val (.double (FP.l2d v1)), .second, .val (.double (FP.l2d v2)), .second, .val (.double (FP.l2d v3)), .second, .val (.int dv), .val (.int d0), .val (.int d1), .val (.int d2), .val (.double (FP.l2d w0)), .second, .unset, .unset, .unset, .unset, .unset, .unset, .unset, .unset, .unset] []))
  refine own_up ?_ fun t k => XS.dload X49.here hx rfl (hb hby at_94) rfl k
  show own_G p.tables e below s _ _ _ (T49.setTop (mkF m 96 #[.val (.int p1), .val (.int p2), .val (.double (FP.l2d v0)), .second, .val (.double (FP.l2d v1)), .second, .val (.double (FP.l2d v2)), .second, .val (.double (FP.l2d v3)), .second, .val (.int dv), .val (.int d0), .val (.int d1), .val (.int d2), .val (.double (FP.l2d w0)), .second, .unset, .unset, .unset, .unset, .unset, .unset, .unset, .unset, .unset] [(.double (FP.l2d v1))]))
  refine own_up ?_ fun t k => XS.iload X49.here hx rfl (hb hby at_96) rfl k
  show own_G p.tables e below s _ _ _ (T49.setTop (mkF m 98 #[.val (.int p1), .val (.int p2), .val (.double (FP.l2d v0)), .second, .val (.double (FP.l2d v1)), .second, .val (.double (FP.l2d v2)), .second, .val (.double (FP.l2d v3)), .second, .val (.int dv), .val (.int d0), .val (.int d1), .val (.int d2), .val (.double (FP.l2d w0)), .second, .unset, .unset, .unset, .unset, .unset, .unset, .unset, .unset, .unset] [(.int d0), (.double (FP.l2d v1))]))
  refine own_up ?_ fun t k => XS.iloadN X49.here hx rfl (hb hby at_98) rfl k
  show own_G p.tables e below s _ _ _ (T49.setTop (mkF m 99 #[.val (.int p1), .val (.int p2), .val (.double (FP.l2d v0)), .second, .val (.double (FP.l2d v1)), .second, .val (.double (FP.l2d v2)), .second, .val (.double (FP.l2d v3)), .second, .val (.int dv), .val (.int d0), .val (.int d1), .val (.int d2), .val (.double (FP.l2d w0)), .second, .unset, .unset, .unset, .unset, .unset, .unset, .unset, .unset, .unset] [(.int p2), (.int d0), (.double (FP.l2d v1))]))
  refine own_up ?_ fun t k => XS.bipush X49.here hx rfl (hb hby at_99) k
  show own_G p.tables e below s _ _ _ (T49.setTop (mkF m 101 #[.val (.int p1), .val (.int p2), .val (.double (FP.l2d v0)), .second, .val (.double (FP.l2d v1)), .second, .val (.double (FP.l2d v2)), .second, .val (.double (FP.l2d v3)), .second, .val (.int dv), .val (.int d0), .val (.int d1), .val (.int d2), .val (.double (FP.l2d w0)), .second, .unset, .unset, .unset, .unset, .unset, .unset, .unset, .unset, .unset] [(.int (6 : Int32)), (.int p2), (.int d0), (.double (FP.l2d v1))]))
  refine own_up ?_ fun t k => XS.ishr X49.here hx rfl (hb hby at_101) rfl k
  show own_G p.tables e below s _ _ _ (T49.setTop (mkF m 102 #[.val (.int p1), .val (.int p2), .val (.double (FP.l2d v0)), .second, .val (.double (FP.l2d v1)), .second, .val (.double (FP.l2d v2)), .second, .val (.double (FP.l2d v3)), .second, .val (.int dv), .val (.int d0), .val (.int d1), .val (.int d2), .val (.double (FP.l2d w0)), .second, .unset, .unset, .unset, .unset, .unset, .unset, .unset, .unset, .unset] [(.int (p2 >>> ((6 : Int32) &&& 31))), (.int d0), (.double (FP.l2d v1))]))
  refine own_up ?_ fun t k => XS.iconst X49.here hx rfl (hb hby at_102) k
  show own_G p.tables e below s _ _ _ (T49.setTop (mkF m 103 #[.val (.int p1), .val (.int p2), .val (.double (FP.l2d v0)), .second, .val (.double (FP.l2d v1)), .second, .val (.double (FP.l2d v2)), .second, .val (.double (FP.l2d v3)), .second, .val (.int dv), .val (.int d0), .val (.int d1), .val (.int d2), .val (.double (FP.l2d w0)), .second, .unset, .unset, .unset, .unset, .unset, .unset, .unset, .unset, .unset] [(.int (3 : Int32)), (.int (p2 >>> ((6 : Int32) &&& 31))), (.int d0), (.double (FP.l2d v1))]))
  refine own_up ?_ fun t k => XS.iand X49.here hx rfl (hb hby at_103) rfl k
  show own_G p.tables e below s _ _ _ (T49.setTop (mkF m 104 #[.val (.int p1), .val (.int p2), .val (.double (FP.l2d v0)), .second, .val (.double (FP.l2d v1)), .second, .val (.double (FP.l2d v2)), .second, .val (.double (FP.l2d v3)), .second, .val (.int dv), .val (.int d0), .val (.int d1), .val (.int d2), .val (.double (FP.l2d w0)), .second, .unset, .unset, .unset, .unset, .unset, .unset, .unset, .unset, .unset] [(.int ((p2 >>> ((6 : Int32) &&& 31)) &&& (3 : Int32))), (.int d0), (.double (FP.l2d v1))]))
  obtain ⟨m1, h_m1⟩ : ∃ z, z = ((p2 >>> ((6 : Int32) &&& 31)) &&& (3 : Int32)) := ⟨_, rfl⟩
  rw [← h_m1]
  show own_G p.tables e below s _ _ _ (T49.setTop (mkF m 104 #[.val (.int p1), .val (.int p2), .val (.double (FP.l2d v0)), .second, .val (.double (FP.l2d v1)), .second, .val (.double (FP.l2d v2)), .second, .val (.double (FP.l2d v3)), .second, .val (.int dv), .val (.int d0), .val (.int d1), .val (.int d2), .val (.double (FP.l2d w0)), .second, .unset, .unset, .unset, .unset, .unset, .unset, .unset, .unset, .unset] [(.int m1), (.int d0), (.double (FP.l2d v1))]))
  obtain ⟨_, _, ⟨T50, L50, k50, n50⟩, -, X50, ⟨Lc50, hQ50, l50, y50, z50⟩, st50⟩ := Jvm.LawKit.callS X49 hx (y := (⟨"com/example/swarmfront/swarmfront/swarm/PointSameValuesPinLaw", "shifted", "(DZI)D"⟩ : MethodName)) hown (mvT hZ (hw _ (List.mem_of_getElem? (i := 0) rfl))) (mvT hZ (hw _ (List.mem_of_getElem? (i := 1) rfl))) (mvT hZ (hw _ (List.mem_of_getElem? (i := 2) rfl))) (mvT hZ (hw _ (List.mem_of_getElem? (i := 3) rfl))) (by decide) (backOf (W := 0) (rm1 l Z a0 hw [] d0 m1 v1 h0 n0 Z0 (own_isb h_v1) (own_amt h_m1)) hZ (hw _ (List.mem_of_getElem? (i := 3) rfl)) (hw _ (List.mem_of_getElem? (i := 2) rfl)) (by decide) (by decide)) (g := (mkF m 104 #[.val (.int p1), .val (.int p2), .val (.double (FP.l2d v0)), .second, .val (.double (FP.l2d v1)), .second, .val (.double (FP.l2d v2)), .second, .val (.double (FP.l2d v3)), .second, .val (.int dv), .val (.int d0), .val (.int d1), .val (.int d2), .val (.double (FP.l2d w0)), .second, .unset, .unset, .unset, .unset, .unset, .unset, .unset, .unset, .unset] [(.int m1), (.int d0), (.double (FP.l2d v1))])) rfl (by rw [hml]; rfl) (argsL := [(.double (FP.l2d v1)), (.int d0), (.int m1)]) (rest := []) (lenOf own_pd0 rfl) rfl (by show 2 * 0 + _ ≤ _; exact Nat.le_of_eq rfl) (hb hby at_104) (fun _ _ => ⟨rfl, e49, (by decide : 0 + 0 ≤ _), (by decide : 0 + 0 ≤ _)⟩)
  dsimp only [Pt.U, Pt.locs, Pt.cells, Pt.slots] at X50 l50 y50 z50 st50 hQ50
  subst l50 y50 z50
  obtain ⟨rfl, Nq50, e50⟩ := hQ50
  have N50 := Fr.app N49 Nq50
  refine own_up ?_ (st50)
  show own_G p.tables e below s _ _ _ (T50.setTop (mkF m 107 #[.val (.int p1), .val (.int p2), .val (.double (FP.l2d v0)), .second, .val (.double (FP.l2d v1)), .second, .val (.double (FP.l2d v2)), .second, .val (.double (FP.l2d v3)), .second, .val (.int dv), .val (.int d0), .val (.int d1), .val (.int d2), .val (.double (FP.l2d w0)), .second, .unset, .unset, .unset, .unset, .unset, .unset, .unset, .unset, .unset] [(.double (FP.l2d (own_shift v1 d0 m1)))]))
  refine own_up ?_ fun t k => XS.dstore X50.here hx rfl (hb hby at_107) rfl (l' := #[.val (.int p1), .val (.int p2), .val (.double (FP.l2d v0)), .second, .val (.double (FP.l2d v1)), .second, .val (.double (FP.l2d v2)), .second, .val (.double (FP.l2d v3)), .second, .val (.int dv), .val (.int d0), .val (.int d1), .val (.int d2), .val (.double (FP.l2d w0)), .second, .val (.double (FP.l2d (own_shift v1 d0 m1))), .second, .unset, .unset, .unset, .unset, .unset, .unset, .unset]) rfl k
  show own_G p.tables e below s _ _ _ (T50.setTop (mkF m 109 #[.val (.int p1), .val (.int p2), .val (.double (FP.l2d v0)), .second, .val (.double (FP.l2d v1)), .second, .val (.double (FP.l2d v2)), .second, .val (.double (FP.l2d v3)), .second, .val (.int dv), .val (.int d0), .val (.int d1), .val (.int d2), .val (.double (FP.l2d w0)), .second, .val (.double (FP.l2d (own_shift v1 d0 m1))), .second, .unset, .unset, .unset, .unset, .unset, .unset, .unset] []))
  obtain ⟨w1, h_w1⟩ : ∃ z, z = (own_shift v1 d0 m1) := ⟨_, rfl⟩
  rw [← h_w1]
  show own_G p.tables e below s _ _ _ (T50.setTop (mkF m 109 #[.val (.int p1), .val (.int p2), .val (.double (FP.l2d v0)), .second, .val (.double (FP.l2d v1)), .second, .val (.double (FP.l2d v2)), .second, .val (.double (FP.l2d v3)), .second, .val (.int dv), .val (.int d0), .val (.int d1), .val (.int d2), .val (.double (FP.l2d w0)), .second, .val (.double (FP.l2d w1)), .second, .unset, .unset, .unset, .unset, .unset, .unset, .unset] []))
  refine own_up ?_ fun t k => XS.dload X50.here hx rfl (hb hby at_109) rfl k
  show own_G p.tables e below s _ _ _ (T50.setTop (mkF m 111 #[.val (.int p1), .val (.int p2), .val (.double (FP.l2d v0)), .second, .val (.double (FP.l2d v1)), .second, .val (.double (FP.l2d v2)), .second, .val (.double (FP.l2d v3)), .second, .val (.int dv), .val (.int d0), .val (.int d1), .val (.int d2), .val (.double (FP.l2d w0)), .second, .val (.double (FP.l2d w1)), .second, .unset, .unset, .unset, .unset, .unset, .unset, .unset] [(.double (FP.l2d v2))]))
  refine own_up ?_ fun t k => XS.iload X50.here hx rfl (hb hby at_111) rfl k
  show own_G p.tables e below s _ _ _ (T50.setTop (mkF m 113 #[.val (.int p1), .val (.int p2), .val (.double (FP.l2d v0)), .second, .val (.double (FP.l2d v1)), .second, .val (.double (FP.l2d v2)), .second, .val (.double (FP.l2d v3)), .second, .val (.int dv), .val (.int d0), .val (.int d1), .val (.int d2), .val (.double (FP.l2d w0)), .second, .val (.double (FP.l2d w1)), .second, .unset, .unset, .unset, .unset, .unset, .unset, .unset] [(.int d1), (.double (FP.l2d v2))]))
  refine own_up ?_ fun t k => XS.iloadN X50.here hx rfl (hb hby at_113) rfl k
  show own_G p.tables e below s _ _ _ (T50.setTop (mkF m 114 #[.val (.int p1), .val (.int p2), .val (.double (FP.l2d v0)), .second, .val (.double (FP.l2d v1)), .second, .val (.double (FP.l2d v2)), .second, .val (.double (FP.l2d v3)), .second, .val (.int dv), .val (.int d0), .val (.int d1), .val (.int d2), .val (.double (FP.l2d w0)), .second, .val (.double (FP.l2d w1)), .second, .unset, .unset, .unset, .unset, .unset, .unset, .unset] [(.int p2), (.int d1), (.double (FP.l2d v2))]))
  refine own_up ?_ fun t k => XS.bipush X50.here hx rfl (hb hby at_114) k
  show own_G p.tables e below s _ _ _ (T50.setTop (mkF m 116 #[.val (.int p1), .val (.int p2), .val (.double (FP.l2d v0)), .second, .val (.double (FP.l2d v1)), .second, .val (.double (FP.l2d v2)), .second, .val (.double (FP.l2d v3)), .second, .val (.int dv), .val (.int d0), .val (.int d1), .val (.int d2), .val (.double (FP.l2d w0)), .second, .val (.double (FP.l2d w1)), .second, .unset, .unset, .unset, .unset, .unset, .unset, .unset] [(.int (8 : Int32)), (.int p2), (.int d1), (.double (FP.l2d v2))]))
  refine own_up ?_ fun t k => XS.ishr X50.here hx rfl (hb hby at_116) rfl k
  show own_G p.tables e below s _ _ _ (T50.setTop (mkF m 117 #[.val (.int p1), .val (.int p2), .val (.double (FP.l2d v0)), .second, .val (.double (FP.l2d v1)), .second, .val (.double (FP.l2d v2)), .second, .val (.double (FP.l2d v3)), .second, .val (.int dv), .val (.int d0), .val (.int d1), .val (.int d2), .val (.double (FP.l2d w0)), .second, .val (.double (FP.l2d w1)), .second, .unset, .unset, .unset, .unset, .unset, .unset, .unset] [(.int (p2 >>> ((8 : Int32) &&& 31))), (.int d1), (.double (FP.l2d v2))]))
  refine own_up ?_ fun t k => XS.iconst X50.here hx rfl (hb hby at_117) k
  show own_G p.tables e below s _ _ _ (T50.setTop (mkF m 118 #[.val (.int p1), .val (.int p2), .val (.double (FP.l2d v0)), .second, .val (.double (FP.l2d v1)), .second, .val (.double (FP.l2d v2)), .second, .val (.double (FP.l2d v3)), .second, .val (.int dv), .val (.int d0), .val (.int d1), .val (.int d2), .val (.double (FP.l2d w0)), .second, .val (.double (FP.l2d w1)), .second, .unset, .unset, .unset, .unset, .unset, .unset, .unset] [(.int (3 : Int32)), (.int (p2 >>> ((8 : Int32) &&& 31))), (.int d1), (.double (FP.l2d v2))]))
  refine own_up ?_ fun t k => XS.iand X50.here hx rfl (hb hby at_118) rfl k
  show own_G p.tables e below s _ _ _ (T50.setTop (mkF m 119 #[.val (.int p1), .val (.int p2), .val (.double (FP.l2d v0)), .second, .val (.double (FP.l2d v1)), .second, .val (.double (FP.l2d v2)), .second, .val (.double (FP.l2d v3)), .second, .val (.int dv), .val (.int d0), .val (.int d1), .val (.int d2), .val (.double (FP.l2d w0)), .second, .val (.double (FP.l2d w1)), .second, .unset, .unset, .unset, .unset, .unset, .unset, .unset] [(.int ((p2 >>> ((8 : Int32) &&& 31)) &&& (3 : Int32))), (.int d1), (.double (FP.l2d v2))]))
  obtain ⟨m2, h_m2⟩ : ∃ z, z = ((p2 >>> ((8 : Int32) &&& 31)) &&& (3 : Int32)) := ⟨_, rfl⟩
  rw [← h_m2]
  show own_G p.tables e below s _ _ _ (T50.setTop (mkF m 119 #[.val (.int p1), .val (.int p2), .val (.double (FP.l2d v0)), .second, .val (.double (FP.l2d v1)), .second, .val (.double (FP.l2d v2)), .second, .val (.double (FP.l2d v3)), .second, .val (.int dv), .val (.int d0), .val (.int d1), .val (.int d2), .val (.double (FP.l2d w0)), .second, .val (.double (FP.l2d w1)), .second, .unset, .unset, .unset, .unset, .unset, .unset, .unset] [(.int m2), (.int d1), (.double (FP.l2d v2))]))
  obtain ⟨_, _, ⟨T51, L51, k51, n51⟩, -, X51, ⟨Lc51, hQ51, l51, y51, z51⟩, st51⟩ := Jvm.LawKit.callS X50 hx (y := (⟨"com/example/swarmfront/swarmfront/swarm/PointSameValuesPinLaw", "shifted", "(DZI)D"⟩ : MethodName)) hown (mvT hZ (hw _ (List.mem_of_getElem? (i := 0) rfl))) (mvT hZ (hw _ (List.mem_of_getElem? (i := 1) rfl))) (mvT hZ (hw _ (List.mem_of_getElem? (i := 2) rfl))) (mvT hZ (hw _ (List.mem_of_getElem? (i := 3) rfl))) (by decide) (backOf (W := 0) (rm1 l Z a0 hw [] d1 m2 v2 h0 n0 Z0 (own_isb h_v2) (own_amt h_m2)) hZ (hw _ (List.mem_of_getElem? (i := 3) rfl)) (hw _ (List.mem_of_getElem? (i := 2) rfl)) (by decide) (by decide)) (g := (mkF m 119 #[.val (.int p1), .val (.int p2), .val (.double (FP.l2d v0)), .second, .val (.double (FP.l2d v1)), .second, .val (.double (FP.l2d v2)), .second, .val (.double (FP.l2d v3)), .second, .val (.int dv), .val (.int d0), .val (.int d1), .val (.int d2), .val (.double (FP.l2d w0)), .second, .val (.double (FP.l2d w1)), .second, .unset, .unset, .unset, .unset, .unset, .unset, .unset] [(.int m2), (.int d1), (.double (FP.l2d v2))])) rfl (by rw [hml]; rfl) (argsL := [(.double (FP.l2d v2)), (.int d1), (.int m2)]) (rest := []) (lenOf own_pd0 rfl) rfl (by show 2 * 0 + _ ≤ _; exact Nat.le_of_eq rfl) (hb hby at_119) (fun _ _ => ⟨rfl, e50, (by decide : 0 + 0 ≤ _), (by decide : 0 + 0 ≤ _)⟩)
  dsimp only [Pt.U, Pt.locs, Pt.cells, Pt.slots] at X51 l51 y51 z51 st51 hQ51
  subst l51 y51 z51
  obtain ⟨rfl, Nq51, e51⟩ := hQ51
  have N51 := Fr.app N50 Nq51
  refine own_up ?_ (st51)
  show own_G p.tables e below s _ _ _ (T51.setTop (mkF m 122 #[.val (.int p1), .val (.int p2), .val (.double (FP.l2d v0)), .second, .val (.double (FP.l2d v1)), .second, .val (.double (FP.l2d v2)), .second, .val (.double (FP.l2d v3)), .second, .val (.int dv), .val (.int d0), .val (.int d1), .val (.int d2), .val (.double (FP.l2d w0)), .second, .val (.double (FP.l2d w1)), .second, .unset, .unset, .unset, .unset, .unset, .unset, .unset] [(.double (FP.l2d (own_shift v2 d1 m2)))]))
  refine own_up ?_ fun t k => XS.dstore X51.here hx rfl (hb hby at_122) rfl (l' := #[.val (.int p1), .val (.int p2), .val (.double (FP.l2d v0)), .second, .val (.double (FP.l2d v1)), .second, .val (.double (FP.l2d v2)), .second, .val (.double (FP.l2d v3)), .second, .val (.int dv), .val (.int d0), .val (.int d1), .val (.int d2), .val (.double (FP.l2d w0)), .second, .val (.double (FP.l2d w1)), .second, .val (.double (FP.l2d (own_shift v2 d1 m2))), .second, .unset, .unset, .unset, .unset, .unset]) rfl k
  show own_G p.tables e below s _ _ _ (T51.setTop (mkF m 124 #[.val (.int p1), .val (.int p2), .val (.double (FP.l2d v0)), .second, .val (.double (FP.l2d v1)), .second, .val (.double (FP.l2d v2)), .second, .val (.double (FP.l2d v3)), .second, .val (.int dv), .val (.int d0), .val (.int d1), .val (.int d2), .val (.double (FP.l2d w0)), .second, .val (.double (FP.l2d w1)), .second, .val (.double (FP.l2d (own_shift v2 d1 m2))), .second, .unset, .unset, .unset, .unset, .unset] []))
  obtain ⟨w2, h_w2⟩ : ∃ z, z = (own_shift v2 d1 m2) := ⟨_, rfl⟩
  rw [← h_w2]
  show own_G p.tables e below s _ _ _ (T51.setTop (mkF m 124 #[.val (.int p1), .val (.int p2), .val (.double (FP.l2d v0)), .second, .val (.double (FP.l2d v1)), .second, .val (.double (FP.l2d v2)), .second, .val (.double (FP.l2d v3)), .second, .val (.int dv), .val (.int d0), .val (.int d1), .val (.int d2), .val (.double (FP.l2d w0)), .second, .val (.double (FP.l2d w1)), .second, .val (.double (FP.l2d w2)), .second, .unset, .unset, .unset, .unset, .unset] []))
  refine own_up ?_ fun t k => XS.dload X51.here hx rfl (hb hby at_124) rfl k
  show own_G p.tables e below s _ _ _ (T51.setTop (mkF m 126 #[.val (.int p1), .val (.int p2), .val (.double (FP.l2d v0)), .second, .val (.double (FP.l2d v1)), .second, .val (.double (FP.l2d v2)), .second, .val (.double (FP.l2d v3)), .second, .val (.int dv), .val (.int d0), .val (.int d1), .val (.int d2), .val (.double (FP.l2d w0)), .second, .val (.double (FP.l2d w1)), .second, .val (.double (FP.l2d w2)), .second, .unset, .unset, .unset, .unset, .unset] [(.double (FP.l2d v3))]))
  refine own_up ?_ fun t k => XS.iload X51.here hx rfl (hb hby at_126) rfl k
  show own_G p.tables e below s _ _ _ (T51.setTop (mkF m 128 #[.val (.int p1), .val (.int p2), .val (.double (FP.l2d v0)), .second, .val (.double (FP.l2d v1)), .second, .val (.double (FP.l2d v2)), .second, .val (.double (FP.l2d v3)), .second, .val (.int dv), .val (.int d0), .val (.int d1), .val (.int d2), .val (.double (FP.l2d w0)), .second, .val (.double (FP.l2d w1)), .second, .val (.double (FP.l2d w2)), .second, .unset, .unset, .unset, .unset, .unset] [(.int d2), (.double (FP.l2d v3))]))
  refine own_up ?_ fun t k => XS.iloadN X51.here hx rfl (hb hby at_128) rfl k
  show own_G p.tables e below s _ _ _ (T51.setTop (mkF m 129 #[.val (.int p1), .val (.int p2), .val (.double (FP.l2d v0)), .second, .val (.double (FP.l2d v1)), .second, .val (.double (FP.l2d v2)), .second, .val (.double (FP.l2d v3)), .second, .val (.int dv), .val (.int d0), .val (.int d1), .val (.int d2), .val (.double (FP.l2d w0)), .second, .val (.double (FP.l2d w1)), .second, .val (.double (FP.l2d w2)), .second, .unset, .unset, .unset, .unset, .unset] [(.int p2), (.int d2), (.double (FP.l2d v3))]))
  refine own_up ?_ fun t k => XS.bipush X51.here hx rfl (hb hby at_129) k
  show own_G p.tables e below s _ _ _ (T51.setTop (mkF m 131 #[.val (.int p1), .val (.int p2), .val (.double (FP.l2d v0)), .second, .val (.double (FP.l2d v1)), .second, .val (.double (FP.l2d v2)), .second, .val (.double (FP.l2d v3)), .second, .val (.int dv), .val (.int d0), .val (.int d1), .val (.int d2), .val (.double (FP.l2d w0)), .second, .val (.double (FP.l2d w1)), .second, .val (.double (FP.l2d w2)), .second, .unset, .unset, .unset, .unset, .unset] [(.int (10 : Int32)), (.int p2), (.int d2), (.double (FP.l2d v3))]))
  refine own_up ?_ fun t k => XS.ishr X51.here hx rfl (hb hby at_131) rfl k
  show own_G p.tables e below s _ _ _ (T51.setTop (mkF m 132 #[.val (.int p1), .val (.int p2), .val (.double (FP.l2d v0)), .second, .val (.double (FP.l2d v1)), .second, .val (.double (FP.l2d v2)), .second, .val (.double (FP.l2d v3)), .second, .val (.int dv), .val (.int d0), .val (.int d1), .val (.int d2), .val (.double (FP.l2d w0)), .second, .val (.double (FP.l2d w1)), .second, .val (.double (FP.l2d w2)), .second, .unset, .unset, .unset, .unset, .unset] [(.int (p2 >>> ((10 : Int32) &&& 31))), (.int d2), (.double (FP.l2d v3))]))
  refine own_up ?_ fun t k => XS.iconst X51.here hx rfl (hb hby at_132) k
  show own_G p.tables e below s _ _ _ (T51.setTop (mkF m 133 #[.val (.int p1), .val (.int p2), .val (.double (FP.l2d v0)), .second, .val (.double (FP.l2d v1)), .second, .val (.double (FP.l2d v2)), .second, .val (.double (FP.l2d v3)), .second, .val (.int dv), .val (.int d0), .val (.int d1), .val (.int d2), .val (.double (FP.l2d w0)), .second, .val (.double (FP.l2d w1)), .second, .val (.double (FP.l2d w2)), .second, .unset, .unset, .unset, .unset, .unset] [(.int (3 : Int32)), (.int (p2 >>> ((10 : Int32) &&& 31))), (.int d2), (.double (FP.l2d v3))]))
  refine own_up ?_ fun t k => XS.iand X51.here hx rfl (hb hby at_133) rfl k
  show own_G p.tables e below s _ _ _ (T51.setTop (mkF m 134 #[.val (.int p1), .val (.int p2), .val (.double (FP.l2d v0)), .second, .val (.double (FP.l2d v1)), .second, .val (.double (FP.l2d v2)), .second, .val (.double (FP.l2d v3)), .second, .val (.int dv), .val (.int d0), .val (.int d1), .val (.int d2), .val (.double (FP.l2d w0)), .second, .val (.double (FP.l2d w1)), .second, .val (.double (FP.l2d w2)), .second, .unset, .unset, .unset, .unset, .unset] [(.int ((p2 >>> ((10 : Int32) &&& 31)) &&& (3 : Int32))), (.int d2), (.double (FP.l2d v3))]))
  obtain ⟨m3, h_m3⟩ : ∃ z, z = ((p2 >>> ((10 : Int32) &&& 31)) &&& (3 : Int32)) := ⟨_, rfl⟩
  rw [← h_m3]
  show own_G p.tables e below s _ _ _ (T51.setTop (mkF m 134 #[.val (.int p1), .val (.int p2), .val (.double (FP.l2d v0)), .second, .val (.double (FP.l2d v1)), .second, .val (.double (FP.l2d v2)), .second, .val (.double (FP.l2d v3)), .second, .val (.int dv), .val (.int d0), .val (.int d1), .val (.int d2), .val (.double (FP.l2d w0)), .second, .val (.double (FP.l2d w1)), .second, .val (.double (FP.l2d w2)), .second, .unset, .unset, .unset, .unset, .unset] [(.int m3), (.int d2), (.double (FP.l2d v3))]))
  obtain ⟨_, _, ⟨T52, L52, k52, n52⟩, -, X52, ⟨Lc52, hQ52, l52, y52, z52⟩, st52⟩ := Jvm.LawKit.callS X51 hx (y := (⟨"com/example/swarmfront/swarmfront/swarm/PointSameValuesPinLaw", "shifted", "(DZI)D"⟩ : MethodName)) hown (mvT hZ (hw _ (List.mem_of_getElem? (i := 0) rfl))) (mvT hZ (hw _ (List.mem_of_getElem? (i := 1) rfl))) (mvT hZ (hw _ (List.mem_of_getElem? (i := 2) rfl))) (mvT hZ (hw _ (List.mem_of_getElem? (i := 3) rfl))) (by decide) (backOf (W := 0) (rm1 l Z a0 hw [] d2 m3 v3 h0 n0 Z0 (own_isb h_v3) (own_amt h_m3)) hZ (hw _ (List.mem_of_getElem? (i := 3) rfl)) (hw _ (List.mem_of_getElem? (i := 2) rfl)) (by decide) (by decide)) (g := (mkF m 134 #[.val (.int p1), .val (.int p2), .val (.double (FP.l2d v0)), .second, .val (.double (FP.l2d v1)), .second, .val (.double (FP.l2d v2)), .second, .val (.double (FP.l2d v3)), .second, .val (.int dv), .val (.int d0), .val (.int d1), .val (.int d2), .val (.double (FP.l2d w0)), .second, .val (.double (FP.l2d w1)), .second, .val (.double (FP.l2d w2)), .second, .unset, .unset, .unset, .unset, .unset] [(.int m3), (.int d2), (.double (FP.l2d v3))])) rfl (by rw [hml]; rfl) (argsL := [(.double (FP.l2d v3)), (.int d2), (.int m3)]) (rest := []) (lenOf own_pd0 rfl) rfl (by show 2 * 0 + _ ≤ _; exact Nat.le_of_eq rfl) (hb hby at_134) (fun _ _ => ⟨rfl, e51, (by decide : 0 + 0 ≤ _), (by decide : 0 + 0 ≤ _)⟩)
  dsimp only [Pt.U, Pt.locs, Pt.cells, Pt.slots] at X52 l52 y52 z52 st52 hQ52
  subst l52 y52 z52
  obtain ⟨rfl, Nq52, e52⟩ := hQ52
  have N52 := Fr.app N51 Nq52
  refine own_up ?_ (st52)
  show own_G p.tables e below s _ _ _ (T52.setTop (mkF m 137 #[.val (.int p1), .val (.int p2), .val (.double (FP.l2d v0)), .second, .val (.double (FP.l2d v1)), .second, .val (.double (FP.l2d v2)), .second, .val (.double (FP.l2d v3)), .second, .val (.int dv), .val (.int d0), .val (.int d1), .val (.int d2), .val (.double (FP.l2d w0)), .second, .val (.double (FP.l2d w1)), .second, .val (.double (FP.l2d w2)), .second, .unset, .unset, .unset, .unset, .unset] [(.double (FP.l2d (own_shift v3 d2 m3)))]))
  refine own_up ?_ fun t k => XS.dstore X52.here hx rfl (hb hby at_137) rfl (l' := #[.val (.int p1), .val (.int p2), .val (.double (FP.l2d v0)), .second, .val (.double (FP.l2d v1)), .second, .val (.double (FP.l2d v2)), .second, .val (.double (FP.l2d v3)), .second, .val (.int dv), .val (.int d0), .val (.int d1), .val (.int d2), .val (.double (FP.l2d w0)), .second, .val (.double (FP.l2d w1)), .second, .val (.double (FP.l2d w2)), .second, .val (.double (FP.l2d (own_shift v3 d2 m3))), .second, .unset, .unset, .unset]) rfl k
  show own_G p.tables e below s _ _ _ (T52.setTop (mkF m 139 #[.val (.int p1), .val (.int p2), .val (.double (FP.l2d v0)), .second, .val (.double (FP.l2d v1)), .second, .val (.double (FP.l2d v2)), .second, .val (.double (FP.l2d v3)), .second, .val (.int dv), .val (.int d0), .val (.int d1), .val (.int d2), .val (.double (FP.l2d w0)), .second, .val (.double (FP.l2d w1)), .second, .val (.double (FP.l2d w2)), .second, .val (.double (FP.l2d (own_shift v3 d2 m3))), .second, .unset, .unset, .unset] []))
  obtain ⟨w3, h_w3⟩ : ∃ z, z = (own_shift v3 d2 m3) := ⟨_, rfl⟩
  rw [← h_w3]
  show own_G p.tables e below s _ _ _ (T52.setTop (mkF m 139 #[.val (.int p1), .val (.int p2), .val (.double (FP.l2d v0)), .second, .val (.double (FP.l2d v1)), .second, .val (.double (FP.l2d v2)), .second, .val (.double (FP.l2d v3)), .second, .val (.int dv), .val (.int d0), .val (.int d1), .val (.int d2), .val (.double (FP.l2d w0)), .second, .val (.double (FP.l2d w1)), .second, .val (.double (FP.l2d w2)), .second, .val (.double (FP.l2d w3)), .second, .unset, .unset, .unset] []))
  obtain ⟨T53, h53, X53, e53, E53, A53, D53, -, st53⟩ := newO X52 hx hZ hown (hw _ (List.mem_of_getElem? (i := 4) rfl)) (hw _ (List.mem_of_getElem? (i := 5) rfl)) (hw _ (List.mem_of_getElem? (i := 6) rfl)) e52 (g := (mkF m 139 #[.val (.int p1), .val (.int p2), .val (.double (FP.l2d v0)), .second, .val (.double (FP.l2d v1)), .second, .val (.double (FP.l2d v2)), .second, .val (.double (FP.l2d v3)), .second, .val (.int dv), .val (.int d0), .val (.int d1), .val (.int d2), .val (.double (FP.l2d w0)), .second, .val (.double (FP.l2d w1)), .second, .val (.double (FP.l2d w2)), .second, .val (.double (FP.l2d w3)), .second, .unset, .unset, .unset] [])) rfl (hb hby at_139) (by decide) (by decide)
  obtain ⟨b53, g53⟩ : ∃ z, z = h0.size := ⟨_, rfl⟩
  rw [← g53] at A53 D53 st53
  refine own_up ?_ st53
  have ge54 : n0 ≤ b53 := Nat.le_trans Z0 (Nat.le_of_eq g53.symm)
  have Zs56 : n0 ≤ h53.size := Nat.le_trans Z0 E53.1
  have F_variables_b53 : Fld Z h53 b53 "com/example/swarmfront/swarmfront/swarm/Point" "variables" "[D" .null := D53 (Or.inr (hw _ (List.mem_of_getElem? (i := 15) rfl))) (ty := (.array .double)) (by decide)
  have F_objectives_b53 : Fld Z h53 b53 "com/example/swarmfront/swarmfront/swarm/Point" "objectives" "[D" .null := D53 (Or.inr (hw _ (List.mem_of_getElem? (i := 17) rfl))) (ty := (.array .double)) (by decide)
  have F_violation_b53 : Fld Z h53 b53 "com/example/swarmfront/swarmfront/swarm/Point" "violation" "D" (.double 0) := D53 (Or.inr (hw _ (List.mem_of_getElem? (i := 19) rfl))) (ty := .double) (by decide)
  show own_G p.tables e below s _ _ _ (T53.setTop (mkF m 142 #[.val (.int p1), .val (.int p2), .val (.double (FP.l2d v0)), .second, .val (.double (FP.l2d v1)), .second, .val (.double (FP.l2d v2)), .second, .val (.double (FP.l2d v3)), .second, .val (.int dv), .val (.int d0), .val (.int d1), .val (.int d2), .val (.double (FP.l2d w0)), .second, .val (.double (FP.l2d w1)), .second, .val (.double (FP.l2d w2)), .second, .val (.double (FP.l2d w3)), .second, .unset, .unset, .unset] [(.ref b53)]))
  refine own_up ?_ fun t k => XS.dup X53.here hx rfl (hb hby at_142) rfl rfl k
  show own_G p.tables e below s _ _ _ (T53.setTop (mkF m 143 #[.val (.int p1), .val (.int p2), .val (.double (FP.l2d v0)), .second, .val (.double (FP.l2d v1)), .second, .val (.double (FP.l2d v2)), .second, .val (.double (FP.l2d v3)), .second, .val (.int dv), .val (.int d0), .val (.int d1), .val (.int d2), .val (.double (FP.l2d w0)), .second, .val (.double (FP.l2d w1)), .second, .val (.double (FP.l2d w2)), .second, .val (.double (FP.l2d w3)), .second, .unset, .unset, .unset] [(.ref b53), (.ref b53)]))
  refine own_up ?_ fun t k => XS.iconst X53.here hx rfl (hb hby at_143) k
  show own_G p.tables e below s _ _ _ (T53.setTop (mkF m 144 #[.val (.int p1), .val (.int p2), .val (.double (FP.l2d v0)), .second, .val (.double (FP.l2d v1)), .second, .val (.double (FP.l2d v2)), .second, .val (.double (FP.l2d v3)), .second, .val (.int dv), .val (.int d0), .val (.int d1), .val (.int d2), .val (.double (FP.l2d w0)), .second, .val (.double (FP.l2d w1)), .second, .val (.double (FP.l2d w2)), .second, .val (.double (FP.l2d w3)), .second, .unset, .unset, .unset] [(.int (0 : Int32)), (.ref b53), (.ref b53)]))
  obtain ⟨T57, h57, k57, X57, e57, E57, A57, st57⟩ := newP X53 hx hZ (hw _ (List.mem_of_getElem? (i := 7) rfl)) e53 (g := (mkF m 144 #[.val (.int p1), .val (.int p2), .val (.double (FP.l2d v0)), .second, .val (.double (FP.l2d v1)), .second, .val (.double (FP.l2d v2)), .second, .val (.double (FP.l2d v3)), .second, .val (.int dv), .val (.int d0), .val (.int d1), .val (.int d2), .val (.double (FP.l2d w0)), .second, .val (.double (FP.l2d w1)), .second, .val (.double (FP.l2d w2)), .second, .val (.double (FP.l2d w3)), .second, .unset, .unset, .unset] [(.int (0 : Int32)), (.ref b53), (.ref b53)])) rfl (hb hby at_144) rfl (by decide) (cap := 0) (by decide) (by decide) (by decide) (by decide)
  obtain ⟨b57, g57⟩ : ∃ z, z = h53.size := ⟨_, rfl⟩
  rw [← g57] at A57 st57
  refine own_up ?_ st57
  have ne58 : b53 ≠ b57 := Nat.ne_of_lt (Nat.lt_of_lt_of_le A53.lt (Nat.le_of_eq g57.symm))
  have ge59 : n0 ≤ b57 := Nat.le_trans Zs56 (Nat.le_of_eq g57.symm)
  have A53_c60 := A53.ext E57
  have F_variables_b53_c60 := F_variables_b53.ext E57
  have F_objectives_b53_c60 := F_objectives_b53.ext E57
  have F_violation_b53_c60 := F_violation_b53.ext E57
  have Zs61 : n0 ≤ h57.size := Nat.le_trans Zs56 E57.1
  have V_b57 : Arv Z h57 b57 k57 .double (0 : Int32) [] (.double (FP.l2d 0)) := (Arv.newD A57 (by decide)).pad (pad_rep [] (.double (FP.l2d 0)) 0)
  show own_G p.tables e below s _ _ _ (T57.setTop (mkF m 146 #[.val (.int p1), .val (.int p2), .val (.double (FP.l2d v0)), .second, .val (.double (FP.l2d v1)), .second, .val (.double (FP.l2d v2)), .second, .val (.double (FP.l2d v3)), .second, .val (.int dv), .val (.int d0), .val (.int d1), .val (.int d2), .val (.double (FP.l2d w0)), .second, .val (.double (FP.l2d w1)), .second, .val (.double (FP.l2d w2)), .second, .val (.double (FP.l2d w3)), .second, .unset, .unset, .unset] [(.ref b57), (.ref b53), (.ref b53)]))
  refine own_up ?_ fun t k => XS.iconst X57.here hx rfl (hb hby at_146) k
  show own_G p.tables e below s _ _ _ (T57.setTop (mkF m 147 #[.val (.int p1), .val (.int p2), .val (.double (FP.l2d v0)), .second, .val (.double (FP.l2d v1)), .second, .val (.double (FP.l2d v2)), .second, .val (.double (FP.l2d v3)), .second, .val (.int dv), .val (.int d0), .val (.int d1), .val (.int d2), .val (.double (FP.l2d w0)), .second, .val (.double (FP.l2d w1)), .second, .val (.double (FP.l2d w2)), .second, .val (.double (FP.l2d w3)), .second, .unset, .unset, .unset] [(.int (3 : Int32)), (.ref b57), (.ref b53), (.ref b53)]))
  obtain ⟨T62, h62, k62, X62, e62, E62, A62, st62⟩ := newP X57 hx hZ (hw _ (List.mem_of_getElem? (i := 7) rfl)) e57 (g := (mkF m 147 #[.val (.int p1), .val (.int p2), .val (.double (FP.l2d v0)), .second, .val (.double (FP.l2d v1)), .second, .val (.double (FP.l2d v2)), .second, .val (.double (FP.l2d v3)), .second, .val (.int dv), .val (.int d0), .val (.int d1), .val (.int d2), .val (.double (FP.l2d w0)), .second, .val (.double (FP.l2d w1)), .second, .val (.double (FP.l2d w2)), .second, .val (.double (FP.l2d w3)), .second, .unset, .unset, .unset] [(.int (3 : Int32)), (.ref b57), (.ref b53), (.ref b53)])) rfl (hb hby at_147) rfl (by decide) (cap := 3) (by decide) (by decide) (by decide) (by decide)
  obtain ⟨b62, g62⟩ : ∃ z, z = h57.size := ⟨_, rfl⟩
  rw [← g62] at A62 st62
  refine own_up ?_ st62
  have ne63 : b53 ≠ b62 := Nat.ne_of_lt (Nat.lt_of_lt_of_le A53_c60.lt (Nat.le_of_eq g62.symm))
  have ne64 : b57 ≠ b62 := Nat.ne_of_lt (Nat.lt_of_lt_of_le V_b57.lt (Nat.le_of_eq g62.symm))
  have ge65 : n0 ≤ b62 := Nat.le_trans Zs61 (Nat.le_of_eq g62.symm)
  have A53_c66 := A53_c60.ext E62
  have F_variables_b53_c66 := F_variables_b53_c60.ext E62
  have F_objectives_b53_c66 := F_objectives_b53_c60.ext E62
  have F_violation_b53_c66 := F_violation_b53_c60.ext E62
  have V_b57_c66 := V_b57.ext E62
  have Zs67 : n0 ≤ h62.size := Nat.le_trans Zs61 E62.1
  have V_b62 : Arv Z h62 b62 k62 .double (3 : Int32) [(.double (FP.l2d 0)), (.double (FP.l2d 0)), (.double (FP.l2d 0))] (.double (FP.l2d 0)) := (Arv.newD A62 (by decide)).pad (pad_rep [] (.double (FP.l2d 0)) 3)
  show own_G p.tables e below s _ _ _ (T62.setTop (mkF m 149 #[.val (.int p1), .val (.int p2), .val (.double (FP.l2d v0)), .second, .val (.double (FP.l2d v1)), .second, .val (.double (FP.l2d v2)), .second, .val (.double (FP.l2d v3)), .second, .val (.int dv), .val (.int d0), .val (.int d1), .val (.int d2), .val (.double (FP.l2d w0)), .second, .val (.double (FP.l2d w1)), .second, .val (.double (FP.l2d w2)), .second, .val (.double (FP.l2d w3)), .second, .unset, .unset, .unset] [(.ref b62), (.ref b57), (.ref b53), (.ref b53)]))
  refine own_up ?_ fun t k => XS.dup X62.here hx rfl (hb hby at_149) rfl rfl k
  show own_G p.tables e below s _ _ _ (T62.setTop (mkF m 150 #[.val (.int p1), .val (.int p2), .val (.double (FP.l2d v0)), .second, .val (.double (FP.l2d v1)), .second, .val (.double (FP.l2d v2)), .second, .val (.double (FP.l2d v3)), .second, .val (.int dv), .val (.int d0), .val (.int d1), .val (.int d2), .val (.double (FP.l2d w0)), .second, .val (.double (FP.l2d w1)), .second, .val (.double (FP.l2d w2)), .second, .val (.double (FP.l2d w3)), .second, .unset, .unset, .unset] [(.ref b62), (.ref b62), (.ref b57), (.ref b53), (.ref b53)]))
  refine own_up ?_ fun t k => XS.iconst X62.here hx rfl (hb hby at_150) k
  show own_G p.tables e below s _ _ _ (T62.setTop (mkF m 151 #[.val (.int p1), .val (.int p2), .val (.double (FP.l2d v0)), .second, .val (.double (FP.l2d v1)), .second, .val (.double (FP.l2d v2)), .second, .val (.double (FP.l2d v3)), .second, .val (.int dv), .val (.int d0), .val (.int d1), .val (.int d2), .val (.double (FP.l2d w0)), .second, .val (.double (FP.l2d w1)), .second, .val (.double (FP.l2d w2)), .second, .val (.double (FP.l2d w3)), .second, .unset, .unset, .unset] [(.int (0 : Int32)), (.ref b62), (.ref b62), (.ref b57), (.ref b53), (.ref b53)]))
  refine own_up ?_ fun t k => XS.dload X62.here hx rfl (hb hby at_151) rfl k
  show own_G p.tables e below s _ _ _ (T62.setTop (mkF m 153 #[.val (.int p1), .val (.int p2), .val (.double (FP.l2d v0)), .second, .val (.double (FP.l2d v1)), .second, .val (.double (FP.l2d v2)), .second, .val (.double (FP.l2d v3)), .second, .val (.int dv), .val (.int d0), .val (.int d1), .val (.int d2), .val (.double (FP.l2d w0)), .second, .val (.double (FP.l2d w1)), .second, .val (.double (FP.l2d w2)), .second, .val (.double (FP.l2d w3)), .second, .unset, .unset, .unset] [(.double (FP.l2d v1)), (.int (0 : Int32)), (.ref b62), (.ref b62), (.ref b57), (.ref b53), (.ref b53)]))
  obtain ⟨cl68, Ar68, qa68, Sa68, Na68, Ha68, Ga68⟩ := id V_b62
  have hin68 : ¬ ((0 : Int32) < 0 ∨ cl68.slots.size ≤ ((0 : Int32)).toNatClampNeg) := inb_of Sa68 ⟨by decide, by decide⟩
  obtain ⟨T68, h68, X68, e68, W68, st68⟩ := stD X62 hx hZ e62 Ar68 (j := (0 : Int32)) hin68 (g := (mkF m 153 #[.val (.int p1), .val (.int p2), .val (.double (FP.l2d v0)), .second, .val (.double (FP.l2d v1)), .second, .val (.double (FP.l2d v2)), .second, .val (.double (FP.l2d v3)), .second, .val (.int dv), .val (.int d0), .val (.int d1), .val (.int d2), .val (.double (FP.l2d w0)), .second, .val (.double (FP.l2d w1)), .second, .val (.double (FP.l2d w2)), .second, .val (.double (FP.l2d w3)), .second, .unset, .unset, .unset] [(.double (FP.l2d v1)), (.int (0 : Int32)), (.ref b62), (.ref b62), (.ref b57), (.ref b53), (.ref b53)])) rfl rfl (hb hby at_153)
  refine own_up ?_ st68
  have A53_c69 := A53_c66.wr W68
  have F_variables_b53_c69 := F_variables_b53_c66.other W68 (Or.inl ne63)
  have F_objectives_b53_c69 := F_objectives_b53_c66.other W68 (Or.inl ne63)
  have F_violation_b53_c69 := F_violation_b53_c66.other W68 (Or.inl ne63)
  have V_b57_c69 := V_b57_c66.other W68 ne64
  have V68 := Arv.set Ar68 qa68 Sa68 Na68 Ha68 Ga68 rfl W68 0 rfl (Nat.le_of_ble_eq_true rfl)
  have N68 := Fr.snoc X68 N52 ge65
  have Zs70 : n0 ≤ h68.size := Nat.le_trans Zs67 (Keep.of_wr W68).1
  show own_G p.tables e below s _ _ _ (T68.setTop (mkF m 154 #[.val (.int p1), .val (.int p2), .val (.double (FP.l2d v0)), .second, .val (.double (FP.l2d v1)), .second, .val (.double (FP.l2d v2)), .second, .val (.double (FP.l2d v3)), .second, .val (.int dv), .val (.int d0), .val (.int d1), .val (.int d2), .val (.double (FP.l2d w0)), .second, .val (.double (FP.l2d w1)), .second, .val (.double (FP.l2d w2)), .second, .val (.double (FP.l2d w3)), .second, .unset, .unset, .unset] [(.ref b62), (.ref b57), (.ref b53), (.ref b53)]))
  refine own_up ?_ fun t k => XS.dup X68.here hx rfl (hb hby at_154) rfl rfl k
  show own_G p.tables e below s _ _ _ (T68.setTop (mkF m 155 #[.val (.int p1), .val (.int p2), .val (.double (FP.l2d v0)), .second, .val (.double (FP.l2d v1)), .second, .val (.double (FP.l2d v2)), .second, .val (.double (FP.l2d v3)), .second, .val (.int dv), .val (.int d0), .val (.int d1), .val (.int d2), .val (.double (FP.l2d w0)), .second, .val (.double (FP.l2d w1)), .second, .val (.double (FP.l2d w2)), .second, .val (.double (FP.l2d w3)), .second, .unset, .unset, .unset] [(.ref b62), (.ref b62), (.ref b57), (.ref b53), (.ref b53)]))
  refine own_up ?_ fun t k => XS.iconst X68.here hx rfl (hb hby at_155) k
  show own_G p.tables e below s _ _ _ (T68.setTop (mkF m 156 #[.val (.int p1), .val (.int p2), .val (.double (FP.l2d v0)), .second, .val (.double (FP.l2d v1)), .second, .val (.double (FP.l2d v2)), .second, .val (.double (FP.l2d v3)), .second, .val (.int dv), .val (.int d0), .val (.int d1), .val (.int d2), .val (.double (FP.l2d w0)), .second, .val (.double (FP.l2d w1)), .second, .val (.double (FP.l2d w2)), .second, .val (.double (FP.l2d w3)), .second, .unset, .unset, .unset] [(.int (1 : Int32)), (.ref b62), (.ref b62), (.ref b57), (.ref b53), (.ref b53)]))
  refine own_up ?_ fun t k => XS.dload X68.here hx rfl (hb hby at_156) rfl k
  show own_G p.tables e below s _ _ _ (T68.setTop (mkF m 158 #[.val (.int p1), .val (.int p2), .val (.double (FP.l2d v0)), .second, .val (.double (FP.l2d v1)), .second, .val (.double (FP.l2d v2)), .second, .val (.double (FP.l2d v3)), .second, .val (.int dv), .val (.int d0), .val (.int d1), .val (.int d2), .val (.double (FP.l2d w0)), .second, .val (.double (FP.l2d w1)), .second, .val (.double (FP.l2d w2)), .second, .val (.double (FP.l2d w3)), .second, .unset, .unset, .unset] [(.double (FP.l2d v2)), (.int (1 : Int32)), (.ref b62), (.ref b62), (.ref b57), (.ref b53), (.ref b53)]))
  obtain ⟨cl71, Ar71, qa71, Sa71, Na71, Ha71, Ga71⟩ := id V68
  have hin71 : ¬ ((1 : Int32) < 0 ∨ cl71.slots.size ≤ ((1 : Int32)).toNatClampNeg) := inb_of Sa71 ⟨by decide, by decide⟩
  obtain ⟨T71, h71, X71, e71, W71, st71⟩ := stD X68 hx hZ e68 Ar71 (j := (1 : Int32)) hin71 (g := (mkF m 158 #[.val (.int p1), .val (.int p2), .val (.double (FP.l2d v0)), .second, .val (.double (FP.l2d v1)), .second, .val (.double (FP.l2d v2)), .second, .val (.double (FP.l2d v3)), .second, .val (.int dv), .val (.int d0), .val (.int d1), .val (.int d2), .val (.double (FP.l2d w0)), .second, .val (.double (FP.l2d w1)), .second, .val (.double (FP.l2d w2)), .second, .val (.double (FP.l2d w3)), .second, .unset, .unset, .unset] [(.double (FP.l2d v2)), (.int (1 : Int32)), (.ref b62), (.ref b62), (.ref b57), (.ref b53), (.ref b53)])) rfl rfl (hb hby at_158)
  refine own_up ?_ st71
  have A53_c72 := A53_c69.wr W71
  have F_variables_b53_c72 := F_variables_b53_c69.other W71 (Or.inl ne63)
  have F_objectives_b53_c72 := F_objectives_b53_c69.other W71 (Or.inl ne63)
  have F_violation_b53_c72 := F_violation_b53_c69.other W71 (Or.inl ne63)
  have V_b57_c72 := V_b57_c69.other W71 ne64
  have V71 := Arv.set Ar71 qa71 Sa71 Na71 Ha71 Ga71 rfl W71 1 rfl (Nat.le_of_ble_eq_true rfl)
  have N71 := Fr.snoc X71 N68 ge65
  have Zs73 : n0 ≤ h71.size := Nat.le_trans Zs70 (Keep.of_wr W71).1
  show own_G p.tables e below s _ _ _ (T71.setTop (mkF m 159 #[.val (.int p1), .val (.int p2), .val (.double (FP.l2d v0)), .second, .val (.double (FP.l2d v1)), .second, .val (.double (FP.l2d v2)), .second, .val (.double (FP.l2d v3)), .second, .val (.int dv), .val (.int d0), .val (.int d1), .val (.int d2), .val (.double (FP.l2d w0)), .second, .val (.double (FP.l2d w1)), .second, .val (.double (FP.l2d w2)), .second, .val (.double (FP.l2d w3)), .second, .unset, .unset, .unset] [(.ref b62), (.ref b57), (.ref b53), (.ref b53)]))
  refine own_up ?_ fun t k => XS.dup X71.here hx rfl (hb hby at_159) rfl rfl k
  show own_G p.tables e below s _ _ _ (T71.setTop (mkF m 160 #[.val (.int p1), .val (.int p2), .val (.double (FP.l2d v0)), .second, .val (.double (FP.l2d v1)), .second, .val (.double (FP.l2d v2)), .second, .val (.double (FP.l2d v3)), .second, .val (.int dv), .val (.int d0), .val (.int d1), .val (.int d2), .val (.double (FP.l2d w0)), .second, .val (.double (FP.l2d w1)), .second, .val (.double (FP.l2d w2)), .second, .val (.double (FP.l2d w3)), .second, .unset, .unset, .unset] [(.ref b62), (.ref b62), (.ref b57), (.ref b53), (.ref b53)]))
  refine own_up ?_ fun t k => XS.iconst X71.here hx rfl (hb hby at_160) k
  show own_G p.tables e below s _ _ _ (T71.setTop (mkF m 161 #[.val (.int p1), .val (.int p2), .val (.double (FP.l2d v0)), .second, .val (.double (FP.l2d v1)), .second, .val (.double (FP.l2d v2)), .second, .val (.double (FP.l2d v3)), .second, .val (.int dv), .val (.int d0), .val (.int d1), .val (.int d2), .val (.double (FP.l2d w0)), .second, .val (.double (FP.l2d w1)), .second, .val (.double (FP.l2d w2)), .second, .val (.double (FP.l2d w3)), .second, .unset, .unset, .unset] [(.int (2 : Int32)), (.ref b62), (.ref b62), (.ref b57), (.ref b53), (.ref b53)]))
  refine own_up ?_ fun t k => XS.dload X71.here hx rfl (hb hby at_161) rfl k
  show own_G p.tables e below s _ _ _ (T71.setTop (mkF m 163 #[.val (.int p1), .val (.int p2), .val (.double (FP.l2d v0)), .second, .val (.double (FP.l2d v1)), .second, .val (.double (FP.l2d v2)), .second, .val (.double (FP.l2d v3)), .second, .val (.int dv), .val (.int d0), .val (.int d1), .val (.int d2), .val (.double (FP.l2d w0)), .second, .val (.double (FP.l2d w1)), .second, .val (.double (FP.l2d w2)), .second, .val (.double (FP.l2d w3)), .second, .unset, .unset, .unset] [(.double (FP.l2d v3)), (.int (2 : Int32)), (.ref b62), (.ref b62), (.ref b57), (.ref b53), (.ref b53)]))
  obtain ⟨cl74, Ar74, qa74, Sa74, Na74, Ha74, Ga74⟩ := id V71
  have hin74 : ¬ ((2 : Int32) < 0 ∨ cl74.slots.size ≤ ((2 : Int32)).toNatClampNeg) := inb_of Sa74 ⟨by decide, by decide⟩
  obtain ⟨T74, h74, X74, e74, W74, st74⟩ := stD X71 hx hZ e71 Ar74 (j := (2 : Int32)) hin74 (g := (mkF m 163 #[.val (.int p1), .val (.int p2), .val (.double (FP.l2d v0)), .second, .val (.double (FP.l2d v1)), .second, .val (.double (FP.l2d v2)), .second, .val (.double (FP.l2d v3)), .second, .val (.int dv), .val (.int d0), .val (.int d1), .val (.int d2), .val (.double (FP.l2d w0)), .second, .val (.double (FP.l2d w1)), .second, .val (.double (FP.l2d w2)), .second, .val (.double (FP.l2d w3)), .second, .unset, .unset, .unset] [(.double (FP.l2d v3)), (.int (2 : Int32)), (.ref b62), (.ref b62), (.ref b57), (.ref b53), (.ref b53)])) rfl rfl (hb hby at_163)
  refine own_up ?_ st74
  have A53_c75 := A53_c72.wr W74
  have F_variables_b53_c75 := F_variables_b53_c72.other W74 (Or.inl ne63)
  have F_objectives_b53_c75 := F_objectives_b53_c72.other W74 (Or.inl ne63)
  have F_violation_b53_c75 := F_violation_b53_c72.other W74 (Or.inl ne63)
  have V_b57_c75 := V_b57_c72.other W74 ne64
  have V74 := Arv.set Ar74 qa74 Sa74 Na74 Ha74 Ga74 rfl W74 2 rfl (Nat.le_of_ble_eq_true rfl)
  have N74 := Fr.snoc X74 N71 ge65
  have Zs76 : n0 ≤ h74.size := Nat.le_trans Zs73 (Keep.of_wr W74).1
  show own_G p.tables e below s _ _ _ (T74.setTop (mkF m 164 #[.val (.int p1), .val (.int p2), .val (.double (FP.l2d v0)), .second, .val (.double (FP.l2d v1)), .second, .val (.double (FP.l2d v2)), .second, .val (.double (FP.l2d v3)), .second, .val (.int dv), .val (.int d0), .val (.int d1), .val (.int d2), .val (.double (FP.l2d w0)), .second, .val (.double (FP.l2d w1)), .second, .val (.double (FP.l2d w2)), .second, .val (.double (FP.l2d w3)), .second, .unset, .unset, .unset] [(.ref b62), (.ref b57), (.ref b53), (.ref b53)]))
  refine own_up ?_ fun t k => XS.dloadN X74.here hx rfl (hb hby at_164) rfl k
  show own_G p.tables e below s _ _ _ (T74.setTop (mkF m 165 #[.val (.int p1), .val (.int p2), .val (.double (FP.l2d v0)), .second, .val (.double (FP.l2d v1)), .second, .val (.double (FP.l2d v2)), .second, .val (.double (FP.l2d v3)), .second, .val (.int dv), .val (.int d0), .val (.int d1), .val (.int d2), .val (.double (FP.l2d w0)), .second, .val (.double (FP.l2d w1)), .second, .val (.double (FP.l2d w2)), .second, .val (.double (FP.l2d w3)), .second, .unset, .unset, .unset] [(.double (FP.l2d v0)), (.ref b62), (.ref b57), (.ref b53), (.ref b53)]))
  obtain ⟨_, _, ⟨T77, L77, k77, n77⟩, -, X77, ⟨Lc77, hQ77, l77, y77, z77⟩, st77⟩ := X74.specialBack hx (y := (⟨"com/example/swarmfront/swarmfront/swarm/Point", "<init>", "([D[DD)V"⟩ : MethodName)) rfl hown (mvT hZ (hw _ (List.mem_of_getElem? (i := 8) rfl))) (mvT hZ (hw _ (List.mem_of_getElem? (i := 9) rfl))) (mvT hZ (hw _ (List.mem_of_getElem? (i := 10) rfl))) (by decide) (backOf (W := 1) (rm2 l Z a0 hw [] b53 b57 b62 (FP.l2d v0) .null .null (.double 0) h74 n0 Zs76 A53_c75 F_variables_b53_c75 F_objectives_b53_c75 F_violation_b53_c75 ge54) hZ (hw _ (List.mem_of_getElem? (i := 10) rfl)) (hw _ (List.mem_of_getElem? (i := 6) rfl)) (by decide) (by decide)) (g := (mkF m 165 #[.val (.int p1), .val (.int p2), .val (.double (FP.l2d v0)), .second, .val (.double (FP.l2d v1)), .second, .val (.double (FP.l2d v2)), .second, .val (.double (FP.l2d v3)), .second, .val (.int dv), .val (.int d0), .val (.int d1), .val (.int d2), .val (.double (FP.l2d w0)), .second, .val (.double (FP.l2d w1)), .second, .val (.double (FP.l2d w2)), .second, .val (.double (FP.l2d w3)), .second, .unset, .unset, .unset] [(.double (FP.l2d v0)), (.ref b62), (.ref b57), (.ref b53), (.ref b53)])) rfl (by rw [hml]; rfl) (Steps.refl _) (a := b53) (argsL := [(.ref b57), (.ref b62), (.double (FP.l2d v0))]) (rest := [(.ref b53)]) (lenOf own_pd1 rfl) rfl (by show 2 * 0 + _ ≤ _; exact Nat.le_of_eq rfl) (hb hby at_165) (fun _ _ => ⟨rfl, e74, (by decide : 3 + 0 ≤ _), (by decide : 6 + 0 ≤ _)⟩)
  dsimp only [Pt.U, Pt.locs, Pt.cells, Pt.slots] at X77 l77 y77 z77 st77 hQ77
  subst l77 y77 z77
  obtain ⟨rfl, Nq77, Kq77, Fq77_0, Fq77_1, Fq77_2⟩ := hQ77
  have N77 := Fr.app N74 Nq77
  have A53_c78 := A53_c75.keep Kq77
  have V_b57_c78 := V_b57_c75.keep Kq77 (ninS (Ne.symm ne58) nin0)
  have V74_c78 := V74.keep Kq77 (ninS (Ne.symm ne63) nin0)
  have Zs79 : n0 ≤ T77.heap.size := Nat.le_trans Zs76 Kq77.1
  refine own_up ?_ (fun t k => st77.trans k)
  show own_G p.tables e below s _ _ _ (T77.setTop (mkF m 168 #[.val (.int p1), .val (.int p2), .val (.double (FP.l2d v0)), .second, .val (.double (FP.l2d v1)), .second, .val (.double (FP.l2d v2)), .second, .val (.double (FP.l2d v3)), .second, .val (.int dv), .val (.int d0), .val (.int d1), .val (.int d2), .val (.double (FP.l2d w0)), .second, .val (.double (FP.l2d w1)), .second, .val (.double (FP.l2d w2)), .second, .val (.double (FP.l2d w3)), .second, .unset, .unset, .unset] [(.ref b53)]))
  refine own_up ?_ fun t k => XS.astore X77.here hx rfl (hb hby at_168) rfl rfl (l' := #[.val (.int p1), .val (.int p2), .val (.double (FP.l2d v0)), .second, .val (.double (FP.l2d v1)), .second, .val (.double (FP.l2d v2)), .second, .val (.double (FP.l2d v3)), .second, .val (.int dv), .val (.int d0), .val (.int d1), .val (.int d2), .val (.double (FP.l2d w0)), .second, .val (.double (FP.l2d w1)), .second, .val (.double (FP.l2d w2)), .second, .val (.double (FP.l2d w3)), .second, .val (.ref b53), .unset, .unset]) rfl k
  show own_G p.tables e below s _ _ _ (T77.setTop (mkF m 170 #[.val (.int p1), .val (.int p2), .val (.double (FP.l2d v0)), .second, .val (.double (FP.l2d v1)), .second, .val (.double (FP.l2d v2)), .second, .val (.double (FP.l2d v3)), .second, .val (.int dv), .val (.int d0), .val (.int d1), .val (.int d2), .val (.double (FP.l2d w0)), .second, .val (.double (FP.l2d w1)), .second, .val (.double (FP.l2d w2)), .second, .val (.double (FP.l2d w3)), .second, .val (.ref b53), .unset, .unset] []))
  obtain ⟨T80, h80, X80, e80, E80, A80, D80, -, st80⟩ := newO X77 hx hZ hown (hw _ (List.mem_of_getElem? (i := 4) rfl)) (hw _ (List.mem_of_getElem? (i := 5) rfl)) (hw _ (List.mem_of_getElem? (i := 6) rfl)) rfl (g := (mkF m 170 #[.val (.int p1), .val (.int p2), .val (.double (FP.l2d v0)), .second, .val (.double (FP.l2d v1)), .second, .val (.double (FP.l2d v2)), .second, .val (.double (FP.l2d v3)), .second, .val (.int dv), .val (.int d0), .val (.int d1), .val (.int d2), .val (.double (FP.l2d w0)), .second, .val (.double (FP.l2d w1)), .second, .val (.double (FP.l2d w2)), .second, .val (.double (FP.l2d w3)), .second, .val (.ref b53), .unset, .unset] [])) rfl (hb hby at_170) (by decide) (by decide)
  obtain ⟨b80, g80⟩ : ∃ z, z = T77.heap.size := ⟨_, rfl⟩
  rw [← g80] at A80 D80 st80
  refine own_up ?_ st80
  have ne81 : b53 ≠ b80 := Nat.ne_of_lt (Nat.lt_of_lt_of_le A53_c78.lt (Nat.le_of_eq g80.symm))
  have ne82 : b57 ≠ b80 := Nat.ne_of_lt (Nat.lt_of_lt_of_le V_b57_c78.lt (Nat.le_of_eq g80.symm))
  have ne83 : b62 ≠ b80 := Nat.ne_of_lt (Nat.lt_of_lt_of_le V74_c78.lt (Nat.le_of_eq g80.symm))
  have ge84 : n0 ≤ b80 := Nat.le_trans Zs79 (Nat.le_of_eq g80.symm)
  have A53_c85 := A53_c78.ext E80
  have V_b57_c85 := V_b57_c78.ext E80
  have V74_c85 := V74_c78.ext E80
  have Fq77_0_c85 := Fq77_0.ext E80
  have Fq77_1_c85 := Fq77_1.ext E80
  have Fq77_2_c85 := Fq77_2.ext E80
  have Zs86 : n0 ≤ h80.size := Nat.le_trans Zs79 E80.1
  have F_variables_b80 : Fld Z h80 b80 "com/example/swarmfront/swarmfront/swarm/Point" "variables" "[D" .null := D80 (Or.inr (hw _ (List.mem_of_getElem? (i := 15) rfl))) (ty := (.array .double)) (by decide)
  have F_objectives_b80 : Fld Z h80 b80 "com/example/swarmfront/swarmfront/swarm/Point" "objectives" "[D" .null := D80 (Or.inr (hw _ (List.mem_of_getElem? (i := 17) rfl))) (ty := (.array .double)) (by decide)
  have F_violation_b80 : Fld Z h80 b80 "com/example/swarmfront/swarmfront/swarm/Point" "violation" "D" (.double 0) := D80 (Or.inr (hw _ (List.mem_of_getElem? (i := 19) rfl))) (ty := .double) (by decide)
  show own_G p.tables e below s _ _ _ (T80.setTop (mkF m 173 #[.val (.int p1), .val (.int p2), .val (.double (FP.l2d v0)), .second, .val (.double (FP.l2d v1)), .second, .val (.double (FP.l2d v2)), .second, .val (.double (FP.l2d v3)), .second, .val (.int dv), .val (.int d0), .val (.int d1), .val (.int d2), .val (.double (FP.l2d w0)), .second, .val (.double (FP.l2d w1)), .second, .val (.double (FP.l2d w2)), .second, .val (.double (FP.l2d w3)), .second, .val (.ref b53), .unset, .unset] [(.ref b80)]))
  refine own_up ?_ fun t k => XS.dup X80.here hx rfl (hb hby at_173) rfl rfl k
  show own_G p.tables e below s _ _ _ (T80.setTop (mkF m 174 #[.val (.int p1), .val (.int p2), .val (.double (FP.l2d v0)), .second, .val (.double (FP.l2d v1)), .second, .val (.double (FP.l2d v2)), .second, .val (.double (FP.l2d v3)), .second, .val (.int dv), .val (.int d0), .val (.int d1), .val (.int d2), .val (.double (FP.l2d w0)), .second, .val (.double (FP.l2d w1)), .second, .val (.double (FP.l2d w2)), .second, .val (.double (FP.l2d w3)), .second, .val (.ref b53), .unset, .unset] [(.ref b80), (.ref b80)]))
  refine own_up ?_ fun t k => XS.iconst X80.here hx rfl (hb hby at_174) k
  show own_G p.tables e below s _ _ _ (T80.setTop (mkF m 175 #[.val (.int p1), .val (.int p2), .val (.double (FP.l2d v0)), .second, .val (.double (FP.l2d v1)), .second, .val (.double (FP.l2d v2)), .second, .val (.double (FP.l2d v3)), .second, .val (.int dv), .val (.int d0), .val (.int d1), .val (.int d2), .val (.double (FP.l2d w0)), .second, .val (.double (FP.l2d w1)), .second, .val (.double (FP.l2d w2)), .second, .val (.double (FP.l2d w3)), .second, .val (.ref b53), .unset, .unset] [(.int (0 : Int32)), (.ref b80), (.ref b80)]))
  obtain ⟨T87, h87, k87, X87, e87, E87, A87, st87⟩ := newP X80 hx hZ (hw _ (List.mem_of_getElem? (i := 7) rfl)) e80 (g := (mkF m 175 #[.val (.int p1), .val (.int p2), .val (.double (FP.l2d v0)), .second, .val (.double (FP.l2d v1)), .second, .val (.double (FP.l2d v2)), .second, .val (.double (FP.l2d v3)), .second, .val (.int dv), .val (.int d0), .val (.int d1), .val (.int d2), .val (.double (FP.l2d w0)), .second, .val (.double (FP.l2d w1)), .second, .val (.double (FP.l2d w2)), .second, .val (.double (FP.l2d w3)), .second, .val (.ref b53), .unset, .unset] [(.int (0 : Int32)), (.ref b80), (.ref b80)])) rfl (hb hby at_175) rfl (by decide) (cap := 0) (by decide) (by decide) (by decide) (by decide)
  obtain ⟨b87, g87⟩ : ∃ z, z = h80.size := ⟨_, rfl⟩
  rw [← g87] at A87 st87
  refine own_up ?_ st87
  have ne88 : b53 ≠ b87 := Nat.ne_of_lt (Nat.lt_of_lt_of_le A53_c85.lt (Nat.le_of_eq g87.symm))
  have ne89 : b57 ≠ b87 := Nat.ne_of_lt (Nat.lt_of_lt_of_le V_b57_c85.lt (Nat.le_of_eq g87.symm))
  have ne90 : b62 ≠ b87 := Nat.ne_of_lt (Nat.lt_of_lt_of_le V74_c85.lt (Nat.le_of_eq g87.symm))
  have ne91 : b80 ≠ b87 := Nat.ne_of_lt (Nat.lt_of_lt_of_le A80.lt (Nat.le_of_eq g87.symm))
  have ge92 : n0 ≤ b87 := Nat.le_trans Zs86 (Nat.le_of_eq g87.symm)
  have A53_c93 := A53_c85.ext E87
  have V_b57_c93 := V_b57_c85.ext E87
  have V74_c93 := V74_c85.ext E87
  have Fq77_0_c93 := Fq77_0_c85.ext E87
  have Fq77_1_c93 := Fq77_1_c85.ext E87
  have Fq77_2_c93 := Fq77_2_c85.ext E87
  have A80_c93 := A80.ext E87
  have F_variables_b80_c93 := F_variables_b80.ext E87
  have F_objectives_b80_c93 := F_objectives_b80.ext E87
  have F_violation_b80_c93 := F_violation_b80.ext E87
  have Zs94 : n0 ≤ h87.size := Nat.le_trans Zs86 E87.1
  have V_b87 : Arv Z h87 b87 k87 .double (0 : Int32) [] (.double (FP.l2d 0)) := (Arv.newD A87 (by decide)).pad (pad_rep [] (.double (FP.l2d 0)) 0)
  show own_G p.tables e below s _ _ _ (T87.setTop (mkF m 177 #[.val (.int p1), .val (.int p2), .val (.double (FP.l2d v0)), .second, .val (.double (FP.l2d v1)), .second, .val (.double (FP.l2d v2)), .second, .val (.double (FP.l2d v3)), .second, .val (.int dv), .val (.int d0), .val (.int d1), .val (.int d2), .val (.double (FP.l2d w0)), .second, .val (.double (FP.l2d w1)), .second, .val (.double (FP.l2d w2)), .second, .val (.double (FP.l2d w3)), .second, .val (.ref b53), .unset, .unset] [(.ref b87), (.ref b80), (.ref b80)]))
  refine own_up ?_ fun t k => XS.iconst X87.here hx rfl (hb hby at_177) k
  show own_G p.tables e below s _ _ _ (T87.setTop (mkF m 178 #[.val (.int p1), .val (.int p2), .val (.double (FP.l2d v0)), .second, .val (.double (FP.l2d v1)), .second, .val (.double (FP.l2d v2)), .second, .val (.double (FP.l2d v3)), .second, .val (.int dv), .val (.int d0), .val (.int d1), .val (.int d2), .val (.double (FP.l2d w0)), .second, .val (.double (FP.l2d w1)), .second, .val (.double (FP.l2d w2)), .second, .val (.double (FP.l2d w3)), .second, .val (.ref b53), .unset, .unset] [(.int (3 : Int32)), (.ref b87), (.ref b80), (.ref b80)]))
  obtain ⟨T95, h95, k95, X95, e95, E95, A95, st95⟩ := newP X87 hx hZ (hw _ (List.mem_of_getElem? (i := 7) rfl)) e87 (g := (mkF m 178 #[.val (.int p1), .val (.int p2), .val (.double (FP.l2d v0)), .second, .val (.double (FP.l2d v1)), .second, .val (.double (FP.l2d v2)), .second, .val (.double (FP.l2d v3)), .second, .val (.int dv), .val (.int d0), .val (.int d1), .val (.int d2), .val (.double (FP.l2d w0)), .second, .val (.double (FP.l2d w1)), .second, .val (.double (FP.l2d w2)), .second, .val (.double (FP.l2d w3)), .second, .val (.ref b53), .unset, .unset] [(.int (3 : Int32)), (.ref b87), (.ref b80), (.ref b80)])) rfl (hb hby at_178) rfl (by decide) (cap := 3) (by decide) (by decide) (by decide) (by decide)
  obtain ⟨b95, g95⟩ : ∃ z, z = h87.size := ⟨_, rfl⟩
  rw [← g95] at A95 st95
  refine own_up ?_ st95
  have ne96 : b53 ≠ b95 := Nat.ne_of_lt (Nat.lt_of_lt_of_le A53_c93.lt (Nat.le_of_eq g95.symm))
  have ne97 : b57 ≠ b95 := Nat.ne_of_lt (Nat.lt_of_lt_of_le V_b57_c93.lt (Nat.le_of_eq g95.symm))
  have ne98 : b62 ≠ b95 := Nat.ne_of_lt (Nat.lt_of_lt_of_le V74_c93.lt (Nat.le_of_eq g95.symm))
  have ne99 : b80 ≠ b95 := Nat.ne_of_lt (Nat.lt_of_lt_of_le A80_c93.lt (Nat.le_of_eq g95.symm))
  have ne100 : b87 ≠ b95 := Nat.ne_of_lt (Nat.lt_of_lt_of_le V_b87.lt (Nat.le_of_eq g95.symm))
  have ge101 : n0 ≤ b95 := Nat.le_trans Zs94 (Nat.le_of_eq g95.symm)
  have A53_c102 := A53_c93.ext E95
  have V_b57_c102 := V_b57_c93.ext E95
  have V74_c102 := V74_c93.ext E95
  have Fq77_0_c102 := Fq77_0_c93.ext E95
  have Fq77_1_c102 := Fq77_1_c93.ext E95
  have Fq77_2_c102 := Fq77_2_c93.ext E95
  have A80_c102 := A80_c93.ext E95
  have F_variables_b80_c102 := F_variables_b80_c93.ext E95
  have F_objectives_b80_c102 := F_objectives_b80_c93.ext E95
  have F_violation_b80_c102 := F_violation_b80_c93.ext E95
  have V_b87_c102 := V_b87.ext E95
  have Zs103 : n0 ≤ h95.size := Nat.le_trans Zs94 E95.1
  have V_b95 : Arv Z h95 b95 k95 .double (3 : Int32) [(.double (FP.l2d 0)), (.double (FP.l2d 0)), (.double (FP.l2d 0))] (.double (FP.l2d 0)) := (Arv.newD A95 (by decide)).pad (pad_rep [] (.double (FP.l2d 0)) 3)
  show own_G p.tables e below s _ _ _ (T95.setTop (mkF m 180 #[.val (.int p1), .val (.int p2), .val (.double (FP.l2d v0)), .second, .val (.double (FP.l2d v1)), .second, .val (.double (FP.l2d v2)), .second, .val (.double (FP.l2d v3)), .second, .val (.int dv), .val (.int d0), .val (.int d1), .val (.int d2), .val (.double (FP.l2d w0)), .second, .val (.double (FP.l2d w1)), .second, .val (.double (FP.l2d w2)), .second, .val (.double (FP.l2d w3)), .second, .val (.ref b53), .unset, .unset] [(.ref b95), (.ref b87), (.ref b80), (.ref b80)]))
  refine own_up ?_ fun t k => XS.dup X95.here hx rfl (hb hby at_180) rfl rfl k
  show own_G p.tables e below s _ _ _ (T95.setTop (mkF m 181 #[.val (.int p1), .val (.int p2), .val (.double (FP.l2d v0)), .second, .val (.double (FP.l2d v1)), .second, .val (.double (FP.l2d v2)), .second, .val (.double (FP.l2d v3)), .second, .val (.int dv), .val (.int d0), .val (.int d1), .val (.int d2), .val (.double (FP.l2d w0)), .second, .val (.double (FP.l2d w1)), .second, .val (.double (FP.l2d w2)), .second, .val (.double (FP.l2d w3)), .second, .val (.ref b53), .unset, .unset] [(.ref b95), (.ref b95), (.ref b87), (.ref b80), (.ref b80)]))
  refine own_up ?_ fun t k => XS.iconst X95.here hx rfl (hb hby at_181) k
  show own_G p.tables e below s _ _ _ (T95.setTop (mkF m 182 #[.val (.int p1), .val (.int p2), .val (.double (FP.l2d v0)), .second, .val (.double (FP.l2d v1)), .second, .val (.double (FP.l2d v2)), .second, .val (.double (FP.l2d v3)), .second, .val (.int dv), .val (.int d0), .val (.int d1), .val (.int d2), .val (.double (FP.l2d w0)), .second, .val (.double (FP.l2d w1)), .second, .val (.double (FP.l2d w2)), .second, .val (.double (FP.l2d w3)), .second, .val (.ref b53), .unset, .unset] [(.int (0 : Int32)), (.ref b95), (.ref b95), (.ref b87), (.ref b80), (.ref b80)]))
  refine own_up ?_ fun t k => XS.dload X95.here hx rfl (hb hby at_182) rfl k
  show own_G p.tables e below s _ _ _ (T95.setTop (mkF m 184 #[.val (.int p1), .val (.int p2), .val (.double (FP.l2d v0)), .second, .val (.double (FP.l2d v1)), .second, .val (.double (FP.l2d v2)), .second, .val (.double (FP.l2d v3)), .second, .val (.int dv), .val (.int d0), .val (.int d1), .val (.int d2), .val (.double (FP.l2d w0)), .second, .val (.double (FP.l2d w1)), .second, .val (.double (FP.l2d w2)), .second, .val (.double (FP.l2d w3)), .second, .val (.ref b53), .unset, .unset] [(.double (FP.l2d w1)), (.int (0 : Int32)), (.ref b95), (.ref b95), (.ref b87), (.ref b80), (.ref b80)]))
  obtain ⟨cl104, Ar104, qa104, Sa104, Na104, Ha104, Ga104⟩ := id V_b95
  have hin104 : ¬ ((0 : Int32) < 0 ∨ cl104.slots.size ≤ ((0 : Int32)).toNatClampNeg) := inb_of Sa104 ⟨by decide, by decide⟩
  obtain ⟨T104, h104, X104, e104, W104, st104⟩ := stD X95 hx hZ e95 Ar104 (j := (0 : Int32)) hin104 (g := (mkF m 184 #[.val (.int p1), .val (.int p2), .val (.double (FP.l2d v0)), .second, .val (.double (FP.l2d v1)), .second, .val (.double (FP.l2d v2)), .second, .val (.double (FP.l2d v3)), .second, .val (.int dv), .val (.int d0), .val (.int d1), .val (.int d2), .val (.double (FP.l2d w0)), .second, .val (.double (FP.l2d w1)), .second, .val (.double (FP.l2d w2)), .second, .val (.double (FP.l2d w3)), .second, .val (.ref b53), .unset, .unset] [(.double (FP.l2d w1)), (.int (0 : Int32)), (.ref b95), (.ref b95), (.ref b87), (.ref b80), (.ref b80)])) rfl rfl (hb hby at_184)
  refine own_up ?_ st104
  have A53_c105 := A53_c102.wr W104
  have V_b57_c105 := V_b57_c102.other W104 ne97
  have V74_c105 := V74_c102.other W104 ne98
  have Fq77_0_c105 := Fq77_0_c102.other W104 (Or.inl ne96)
  have Fq77_1_c105 := Fq77_1_c102.other W104 (Or.inl ne96)
  have Fq77_2_c105 := Fq77_2_c102.other W104 (Or.inl ne96)
  have A80_c105 := A80_c102.wr W104
  have F_variables_b80_c105 := F_variables_b80_c102.other W104 (Or.inl ne99)
  have F_objectives_b80_c105 := F_objectives_b80_c102.other W104 (Or.inl ne99)
  have F_violation_b80_c105 := F_violation_b80_c102.other W104 (Or.inl ne99)
  have V_b87_c105 := V_b87_c102.other W104 ne100
  have V104 := Arv.set Ar104 qa104 Sa104 Na104 Ha104 Ga104 rfl W104 0 rfl (Nat.le_of_ble_eq_true rfl)
  have N104 := Fr.snoc X104 N77 ge101
  have Zs106 : n0 ≤ h104.size := Nat.le_trans Zs103 (Keep.of_wr W104).1
  show own_G p.tables e below s _ _ _ (T104.setTop (mkF m 185 #[.val (.int p1), .val (.int p2), .val (.double (FP.l2d v0)), .second, .val (.double (FP.l2d v1)), .second, .val (.double (FP.l2d v2)), .second, .val (.double (FP.l2d v3)), .second, .val (.int dv), .val (.int d0), .val (.int d1), .val (.int d2), .val (.double (FP.l2d w0)), .second, .val (.double (FP.l2d w1)), .second, .val (.double (FP.l2d w2)), .second, .val (.double (FP.l2d w3)), .second, .val (.ref b53), .unset, .unset] [(.ref b95), (.ref b87), (.ref b80), (.ref b80)]))
  refine own_up ?_ fun t k => XS.dup X104.here hx rfl (hb hby at_185) rfl rfl k
  show own_G p.tables e below s _ _ _ (T104.setTop (mkF m 186 #[.val (.int p1), .val (.int p2), .val (.double (FP.l2d v0)), .second, .val (.double (FP.l2d v1)), .second, .val (.double (FP.l2d v2)), .second, .val (.double (FP.l2d v3)), .second, .val (.int dv), .val (.int d0), .val (.int d1), .val (.int d2), .val (.double (FP.l2d w0)), .second, .val (.double (FP.l2d w1)), .second, .val (.double (FP.l2d w2)), .second, .val (.double (FP.l2d w3)), .second, .val (.ref b53), .unset, .unset] [(.ref b95), (.ref b95), (.ref b87), (.ref b80), (.ref b80)]))
  refine own_up ?_ fun t k => XS.iconst X104.here hx rfl (hb hby at_186) k
  show own_G p.tables e below s _ _ _ (T104.setTop (mkF m 187 #[.val (.int p1), .val (.int p2), .val (.double (FP.l2d v0)), .second, .val (.double (FP.l2d v1)), .second, .val (.double (FP.l2d v2)), .second, .val (.double (FP.l2d v3)), .second, .val (.int dv), .val (.int d0), .val (.int d1), .val (.int d2), .val (.double (FP.l2d w0)), .second, .val (.double (FP.l2d w1)), .second, .val (.double (FP.l2d w2)), .second, .val (.double (FP.l2d w3)), .second, .val (.ref b53), .unset, .unset] [(.int (1 : Int32)), (.ref b95), (.ref b95), (.ref b87), (.ref b80), (.ref b80)]))
  refine own_up ?_ fun t k => XS.dload X104.here hx rfl (hb hby at_187) rfl k
  show own_G p.tables e below s _ _ _ (T104.setTop (mkF m 189 #[.val (.int p1), .val (.int p2), .val (.double (FP.l2d v0)), .second, .val (.double (FP.l2d v1)), .second, .val (.double (FP.l2d v2)), .second, .val (.double (FP.l2d v3)), .second, .val (.int dv), .val (.int d0), .val (.int d1), .val (.int d2), .val (.double (FP.l2d w0)), .second, .val (.double (FP.l2d w1)), .second, .val (.double (FP.l2d w2)), .second, .val (.double (FP.l2d w3)), .second, .val (.ref b53), .unset, .unset] [(.double (FP.l2d w2)), (.int (1 : Int32)), (.ref b95), (.ref b95), (.ref b87), (.ref b80), (.ref b80)]))
  obtain ⟨cl107, Ar107, qa107, Sa107, Na107, Ha107, Ga107⟩ := id V104
  have hin107 : ¬ ((1 : Int32) < 0 ∨ cl107.slots.size ≤ ((1 : Int32)).toNatClampNeg) := inb_of Sa107 ⟨by decide, by decide⟩
  obtain ⟨T107, h107, X107, e107, W107, st107⟩ := stD X104 hx hZ e104 Ar107 (j := (1 : Int32)) hin107 (g := (mkF m 189 #[.val (.int p1), .val (.int p2), .val (.double (FP.l2d v0)), .second, .val (.double (FP.l2d v1)), .second, .val (.double (FP.l2d v2)), .second, .val (.double (FP.l2d v3)), .second, .val (.int dv), .val (.int d0), .val (.int d1), .val (.int d2), .val (.double (FP.l2d w0)), .second, .val (.double (FP.l2d w1)), .second, .val (.double (FP.l2d w2)), .second, .val (.double (FP.l2d w3)), .second, .val (.ref b53), .unset, .unset] [(.double (FP.l2d w2)), (.int (1 : Int32)), (.ref b95), (.ref b95), (.ref b87), (.ref b80), (.ref b80)])) rfl rfl (hb hby at_189)
  refine own_up ?_ st107
  have A53_c108 := A53_c105.wr W107
  have V_b57_c108 := V_b57_c105.other W107 ne97
  have V74_c108 := V74_c105.other W107 ne98
  have Fq77_0_c108 := Fq77_0_c105.other W107 (Or.inl ne96)
  have Fq77_1_c108 := Fq77_1_c105.other W107 (Or.inl ne96)
  have Fq77_2_c108 := Fq77_2_c105.other W107 (Or.inl ne96)
  have A80_c108 := A80_c105.wr W107
  have F_variables_b80_c108 := F_variables_b80_c105.other W107 (Or.inl ne99)
  have F_objectives_b80_c108 := F_objectives_b80_c105.other W107 (Or.inl ne99)
  have F_violation_b80_c108 := F_violation_b80_c105.other W107 (Or.inl ne99)
  have V_b87_c108 := V_b87_c105.other W107 ne100
  have V107 := Arv.set Ar107 qa107 Sa107 Na107 Ha107 Ga107 rfl W107 1 rfl (Nat.le_of_ble_eq_true rfl)
  have N107 := Fr.snoc X107 N104 ge101
  have Zs109 : n0 ≤ h107.size := Nat.le_trans Zs106 (Keep.of_wr W107).1
  show own_G p.tables e below s _ _ _ (T107.setTop (mkF m 190 #[.val (.int p1), .val (.int p2), .val (.double (FP.l2d v0)), .second, .val (.double (FP.l2d v1)), .second, .val (.double (FP.l2d v2)), .second, .val (.double (FP.l2d v3)), .second, .val (.int dv), .val (.int d0), .val (.int d1), .val (.int d2), .val (.double (FP.l2d w0)), .second, .val (.double (FP.l2d w1)), .second, .val (.double (FP.l2d w2)), .second, .val (.double (FP.l2d w3)), .second, .val (.ref b53), .unset, .unset] [(.ref b95), (.ref b87), (.ref b80), (.ref b80)]))
  refine own_up ?_ fun t k => XS.dup X107.here hx rfl (hb hby at_190) rfl rfl k
  show own_G p.tables e below s _ _ _ (T107.setTop (mkF m 191 #[.val (.int p1), .val (.int p2), .val (.double (FP.l2d v0)), .second, .val (.double (FP.l2d v1)), .second, .val (.double (FP.l2d v2)), .second, .val (.double (FP.l2d v3)), .second, .val (.int dv), .val (.int d0), .val (.int d1), .val (.int d2), .val (.double (FP.l2d w0)), .second, .val (.double (FP.l2d w1)), .second, .val (.double (FP.l2d w2)), .second, .val (.double (FP.l2d w3)), .second, .val (.ref b53), .unset, .unset] [(.ref b95), (.ref b95), (.ref b87), (.ref b80), (.ref b80)]))
  refine own_up ?_ fun t k => XS.iconst X107.here hx rfl (hb hby at_191) k
  show own_G p.tables e below s _ _ _ (T107.setTop (mkF m 192 #[.val (.int p1), .val (.int p2), .val (.double (FP.l2d v0)), .second, .val (.double (FP.l2d v1)), .second, .val (.double (FP.l2d v2)), .second, .val (.double (FP.l2d v3)), .second, .val (.int dv), .val (.int d0), .val (.int d1), .val (.int d2), .val (.double (FP.l2d w0)), .second, .val (.double (FP.l2d w1)), .second, .val (.double (FP.l2d w2)), .second, .val (.double (FP.l2d w3)), .second, .val (.ref b53), .unset, .unset] [(.int (2 : Int32)), (.ref b95), (.ref b95), (.ref b87), (.ref b80), (.ref b80)]))
  refine own_up ?_ fun t k => XS.dload X107.here hx rfl (hb hby at_192) rfl k
  show own_G p.tables e below s _ _ _ (T107.setTop (mkF m 194 #[.val (.int p1), .val (.int p2), .val (.double (FP.l2d v0)), .second, .val (.double (FP.l2d v1)), .second, .val (.double (FP.l2d v2)), .second, .val (.double (FP.l2d v3)), .second, .val (.int dv), .val (.int d0), .val (.int d1), .val (.int d2), .val (.double (FP.l2d w0)), .second, .val (.double (FP.l2d w1)), .second, .val (.double (FP.l2d w2)), .second, .val (.double (FP.l2d w3)), .second, .val (.ref b53), .unset, .unset] [(.double (FP.l2d w3)), (.int (2 : Int32)), (.ref b95), (.ref b95), (.ref b87), (.ref b80), (.ref b80)]))
  obtain ⟨cl110, Ar110, qa110, Sa110, Na110, Ha110, Ga110⟩ := id V107
  have hin110 : ¬ ((2 : Int32) < 0 ∨ cl110.slots.size ≤ ((2 : Int32)).toNatClampNeg) := inb_of Sa110 ⟨by decide, by decide⟩
  obtain ⟨T110, h110, X110, e110, W110, st110⟩ := stD X107 hx hZ e107 Ar110 (j := (2 : Int32)) hin110 (g := (mkF m 194 #[.val (.int p1), .val (.int p2), .val (.double (FP.l2d v0)), .second, .val (.double (FP.l2d v1)), .second, .val (.double (FP.l2d v2)), .second, .val (.double (FP.l2d v3)), .second, .val (.int dv), .val (.int d0), .val (.int d1), .val (.int d2), .val (.double (FP.l2d w0)), .second, .val (.double (FP.l2d w1)), .second, .val (.double (FP.l2d w2)), .second, .val (.double (FP.l2d w3)), .second, .val (.ref b53), .unset, .unset] [(.double (FP.l2d w3)), (.int (2 : Int32)), (.ref b95), (.ref b95), (.ref b87), (.ref b80), (.ref b80)])) rfl rfl (hb hby at_194)
  refine own_up ?_ st110
  have A53_c111 := A53_c108.wr W110
  have V_b57_c111 := V_b57_c108.other W110 ne97
  have V74_c111 := V74_c108.other W110 ne98
  have Fq77_0_c111 := Fq77_0_c108.other W110 (Or.inl ne96)
  have Fq77_1_c111 := Fq77_1_c108.other W110 (Or.inl ne96)
  have Fq77_2_c111 := Fq77_2_c108.other W110 (Or.inl ne96)
  have A80_c111 := A80_c108.wr W110
  have F_variables_b80_c111 := F_variables_b80_c108.other W110 (Or.inl ne99)
  have F_objectives_b80_c111 := F_objectives_b80_c108.other W110 (Or.inl ne99)
  have F_violation_b80_c111 := F_violation_b80_c108.other W110 (Or.inl ne99)
  have V_b87_c111 := V_b87_c108.other W110 ne100
  have V110 := Arv.set Ar110 qa110 Sa110 Na110 Ha110 Ga110 rfl W110 2 rfl (Nat.le_of_ble_eq_true rfl)
  have N110 := Fr.snoc X110 N107 ge101
  have Zs112 : n0 ≤ h110.size := Nat.le_trans Zs109 (Keep.of_wr W110).1
  show own_G p.tables e below s _ _ _ (T110.setTop (mkF m 195 #[.val (.int p1), .val (.int p2), .val (.double (FP.l2d v0)), .second, .val (.double (FP.l2d v1)), .second, .val (.double (FP.l2d v2)), .second, .val (.double (FP.l2d v3)), .second, .val (.int dv), .val (.int d0), .val (.int d1), .val (.int d2), .val (.double (FP.l2d w0)), .second, .val (.double (FP.l2d w1)), .second, .val (.double (FP.l2d w2)), .second, .val (.double (FP.l2d w3)), .second, .val (.ref b53), .unset, .unset] [(.ref b95), (.ref b87), (.ref b80), (.ref b80)]))
  refine own_up ?_ fun t k => XS.dload X110.here hx rfl (hb hby at_195) rfl k
  show own_G p.tables e below s _ _ _ (T110.setTop (mkF m 197 #[.val (.int p1), .val (.int p2), .val (.double (FP.l2d v0)), .second, .val (.double (FP.l2d v1)), .second, .val (.double (FP.l2d v2)), .second, .val (.double (FP.l2d v3)), .second, .val (.int dv), .val (.int d0), .val (.int d1), .val (.int d2), .val (.double (FP.l2d w0)), .second, .val (.double (FP.l2d w1)), .second, .val (.double (FP.l2d w2)), .second, .val (.double (FP.l2d w3)), .second, .val (.ref b53), .unset, .unset] [(.double (FP.l2d w0)), (.ref b95), (.ref b87), (.ref b80), (.ref b80)]))
  obtain ⟨_, _, ⟨T113, L113, k113, n113⟩, -, X113, ⟨Lc113, hQ113, l113, y113, z113⟩, st113⟩ := X110.specialBack hx (y := (⟨"com/example/swarmfront/swarmfront/swarm/Point", "<init>", "([D[DD)V"⟩ : MethodName)) rfl hown (mvT hZ (hw _ (List.mem_of_getElem? (i := 8) rfl))) (mvT hZ (hw _ (List.mem_of_getElem? (i := 9) rfl))) (mvT hZ (hw _ (List.mem_of_getElem? (i := 10) rfl))) (by decide) (backOf (W := 1) (rm2 l Z a0 hw [] b80 b87 b95 (FP.l2d w0) .null .null (.double 0) h110 n0 Zs112 A80_c111 F_variables_b80_c111 F_objectives_b80_c111 F_violation_b80_c111 ge84) hZ (hw _ (List.mem_of_getElem? (i := 10) rfl)) (hw _ (List.mem_of_getElem? (i := 6) rfl)) (by decide) (by decide)) (g := (mkF m 197 #[.val (.int p1), .val (.int p2), .val (.double (FP.l2d v0)), .second, .val (.double (FP.l2d v1)), .second, .val (.double (FP.l2d v2)), .second, .val (.double (FP.l2d v3)), .second, .val (.int dv), .val (.int d0), .val (.int d1), .val (.int d2), .val (.double (FP.l2d w0)), .second, .val (.double (FP.l2d w1)), .second, .val (.double (FP.l2d w2)), .second, .val (.double (FP.l2d w3)), .second, .val (.ref b53), .unset, .unset] [(.double (FP.l2d w0)), (.ref b95), (.ref b87), (.ref b80), (.ref b80)])) rfl (by rw [hml]; rfl) (Steps.refl _) (a := b80) (argsL := [(.ref b87), (.ref b95), (.double (FP.l2d w0))]) (rest := [(.ref b80)]) (lenOf own_pd1 rfl) rfl (by show 2 * 0 + _ ≤ _; exact Nat.le_of_eq rfl) (hb hby at_197) (fun _ _ => ⟨rfl, e110, (by decide : 6 + 0 ≤ _), (by decide : 12 + 0 ≤ _)⟩)
  dsimp only [Pt.U, Pt.locs, Pt.cells, Pt.slots] at X113 l113 y113 z113 st113 hQ113
  subst l113 y113 z113
  obtain ⟨rfl, Nq113, Kq113, Fq113_0, Fq113_1, Fq113_2⟩ := hQ113
  have N113 := Fr.app N110 Nq113
  have A53_c114 := A53_c111.keep Kq113
  have V_b57_c114 := V_b57_c111.keep Kq113 (ninS ne82 nin0)
  have V74_c114 := V74_c111.keep Kq113 (ninS ne83 nin0)
  have Fq77_0_c114 := Fq77_0_c111.keep Kq113 (ninS ne81 nin0)
  have Fq77_1_c114 := Fq77_1_c111.keep Kq113 (ninS ne81 nin0)
  have Fq77_2_c114 := Fq77_2_c111.keep Kq113 (ninS ne81 nin0)
  have A80_c114 := A80_c111.keep Kq113
  have V_b87_c114 := V_b87_c111.keep Kq113 (ninS (Ne.symm ne91) nin0)
  have V110_c114 := V110.keep Kq113 (ninS (Ne.symm ne99) nin0)
  have Zs115 : n0 ≤ T113.heap.size := Nat.le_trans Zs112 Kq113.1
  refine own_up ?_ (fun t k => st113.trans k)
  show own_G p.tables e below s _ _ _ (T113.setTop (mkF m 200 #[.val (.int p1), .val (.int p2), .val (.double (FP.l2d v0)), .second, .val (.double (FP.l2d v1)), .second, .val (.double (FP.l2d v2)), .second, .val (.double (FP.l2d v3)), .second, .val (.int dv), .val (.int d0), .val (.int d1), .val (.int d2), .val (.double (FP.l2d w0)), .second, .val (.double (FP.l2d w1)), .second, .val (.double (FP.l2d w2)), .second, .val (.double (FP.l2d w3)), .second, .val (.ref b53), .unset, .unset] [(.ref b80)]))
  refine own_up ?_ fun t k => XS.astore X113.here hx rfl (hb hby at_200) rfl rfl (l' := #[.val (.int p1), .val (.int p2), .val (.double (FP.l2d v0)), .second, .val (.double (FP.l2d v1)), .second, .val (.double (FP.l2d v2)), .second, .val (.double (FP.l2d v3)), .second, .val (.int dv), .val (.int d0), .val (.int d1), .val (.int d2), .val (.double (FP.l2d w0)), .second, .val (.double (FP.l2d w1)), .second, .val (.double (FP.l2d w2)), .second, .val (.double (FP.l2d w3)), .second, .val (.ref b53), .val (.ref b80), .unset]) rfl k
  show own_G p.tables e below s _ _ _ (T113.setTop (mkF m 202 #[.val (.int p1), .val (.int p2), .val (.double (FP.l2d v0)), .second, .val (.double (FP.l2d v1)), .second, .val (.double (FP.l2d v2)), .second, .val (.double (FP.l2d v3)), .second, .val (.int dv), .val (.int d0), .val (.int d1), .val (.int d2), .val (.double (FP.l2d w0)), .second, .val (.double (FP.l2d w1)), .second, .val (.double (FP.l2d w2)), .second, .val (.double (FP.l2d w3)), .second, .val (.ref b53), .val (.ref b80), .unset] []))
  refine own_up ?_ fun t k => XS.iload X113.here hx rfl (hb hby at_202) rfl k
  show own_G p.tables e below s _ _ _ (T113.setTop (mkF m 204 #[.val (.int p1), .val (.int p2), .val (.double (FP.l2d v0)), .second, .val (.double (FP.l2d v1)), .second, .val (.double (FP.l2d v2)), .second, .val (.double (FP.l2d v3)), .second, .val (.int dv), .val (.int d0), .val (.int d1), .val (.int d2), .val (.double (FP.l2d w0)), .second, .val (.double (FP.l2d w1)), .second, .val (.double (FP.l2d w2)), .second, .val (.double (FP.l2d w3)), .second, .val (.ref b53), .val (.ref b80), .unset] [(.int dv)]))
  have dm120 : ∀ t, Steps p.tables e below (T113.setTop (mkF m 227 #[.val (.int p1), .val (.int p2), .val (.double (FP.l2d v0)), .second, .val (.double (FP.l2d v1)), .second, .val (.double (FP.l2d v2)), .second, .val (.double (FP.l2d v3)), .second, .val (.int dv), .val (.int d0), .val (.int d1), .val (.int d2), .val (.double (FP.l2d w0)), .second, .val (.double (FP.l2d w1)), .second, .val (.double (FP.l2d w2)), .second, .val (.double (FP.l2d w3)), .second, .val (.ref b53), .val (.ref b80), .unset] [(.int (if dv = (0 : Int32) then (if d0 = (0 : Int32) then (if d1 = (0 : Int32) then (if d2 = (0 : Int32) then (1 : Int32) else (0 : Int32)) else (0 : Int32)) else (0 : Int32)) else (0 : Int32)))])) t → Steps p.tables e below (T113.setTop (mkF m 204 #[.val (.int p1), .val (.int p2), .val (.double (FP.l2d v0)), .second, .val (.double (FP.l2d v1)), .second, .val (.double (FP.l2d v2)), .second, .val (.double (FP.l2d v3)), .second, .val (.int dv), .val (.int d0), .val (.int d1), .val (.int d2), .val (.double (FP.l2d w0)), .second, .val (.double (FP.l2d w1)), .second, .val (.double (FP.l2d w2)), .second, .val (.double (FP.l2d w3)), .second, .val (.ref b53), .val (.ref b80), .unset] [(.int dv)])) t := by
    intro t k
    by_cases hc204_116 : dv = (0 : Int32)
    · refine XS.ifNo X113.here hx rfl (hb hby at_204) rfl ((if0 _ _).trans (teq hc204_116).2) ?_
      show Steps p.tables e below (T113.setTop (mkF m 207 #[.val (.int p1), .val (.int p2), .val (.double (FP.l2d v0)), .second, .val (.double (FP.l2d v1)), .second, .val (.double (FP.l2d v2)), .second, .val (.double (FP.l2d v3)), .second, .val (.int dv), .val (.int d0), .val (.int d1), .val (.int d2), .val (.double (FP.l2d w0)), .second, .val (.double (FP.l2d w1)), .second, .val (.double (FP.l2d w2)), .second, .val (.double (FP.l2d w3)), .second, .val (.ref b53), .val (.ref b80), .unset] [])) t
      refine XS.iload X113.here hx rfl (hb hby at_207) rfl ?_
      show Steps p.tables e below (T113.setTop (mkF m 209 #[.val (.int p1), .val (.int p2), .val (.double (FP.l2d v0)), .second, .val (.double (FP.l2d v1)), .second, .val (.double (FP.l2d v2)), .second, .val (.double (FP.l2d v3)), .second, .val (.int dv), .val (.int d0), .val (.int d1), .val (.int d2), .val (.double (FP.l2d w0)), .second, .val (.double (FP.l2d w1)), .second, .val (.double (FP.l2d w2)), .second, .val (.double (FP.l2d w3)), .second, .val (.ref b53), .val (.ref b80), .unset] [(.int d0)])) t
      by_cases hc209_117 : d0 = (0 : Int32)
      · refine XS.ifNo X113.here hx rfl (hb hby at_209) rfl ((if0 _ _).trans (teq hc209_117).2) ?_
        show Steps p.tables e below (T113.setTop (mkF m 212 #[.val (.int p1), .val (.int p2), .val (.double (FP.l2d v0)), .second, .val (.double (FP.l2d v1)), .second, .val (.double (FP.l2d v2)), .second, .val (.double (FP.l2d v3)), .second, .val (.int dv), .val (.int d0), .val (.int d1), .val (.int d2), .val (.double (FP.l2d w0)), .second, .val (.double (FP.l2d w1)), .second, .val (.double (FP.l2d w2)), .second, .val (.double (FP.l2d w3)), .second, .val (.ref b53), .val (.ref b80), .unset] [])) t
        refine XS.iload X113.here hx rfl (hb hby at_212) rfl ?_
        show Steps p.tables e below (T113.setTop (mkF m 214 #[.val (.int p1), .val (.int p2), .val (.double (FP.l2d v0)), .second, .val (.double (FP.l2d v1)), .second, .val (.double (FP.l2d v2)), .second, .val (.double (FP.l2d v3)), .second, .val (.int dv), .val (.int d0), .val (.int d1), .val (.int d2), .val (.double (FP.l2d w0)), .second, .val (.double (FP.l2d w1)), .second, .val (.double (FP.l2d w2)), .second, .val (.double (FP.l2d w3)), .second, .val (.ref b53), .val (.ref b80), .unset] [(.int d1)])) t
        by_cases hc214_118 : d1 = (0 : Int32)
        · refine XS.ifNo X113.here hx rfl (hb hby at_214) rfl ((if0 _ _).trans (teq hc214_118).2) ?_
          show Steps p.tables e below (T113.setTop (mkF m 217 #[.val (.int p1), .val (.int p2), .val (.double (FP.l2d v0)), .second, .val (.double (FP.l2d v1)), .second, .val (.double (FP.l2d v2)), .second, .val (.double (FP.l2d v3)), .second, .val (.int dv), .val (.int d0), .val (.int d1), .val (.int d2), .val (.double (FP.l2d w0)), .second, .val (.double (FP.l2d w1)), .second, .val (.double (FP.l2d w2)), .second, .val (.double (FP.l2d w3)), .second, .val (.ref b53), .val (.ref b80), .unset] [])) t
          refine XS.iload X113.here hx rfl (hb hby at_217) rfl ?_
          show Steps p.tables e below (T113.setTop (mkF m 219 #[.val (.int p1), .val (.int p2), .val (.double (FP.l2d v0)), .second, .val (.double (FP.l2d v1)), .second, .val (.double (FP.l2d v2)), .second, .val (.double (FP.l2d v3)), .second, .val (.int dv), .val (.int d0), .val (.int d1), .val (.int d2), .val (.double (FP.l2d w0)), .second, .val (.double (FP.l2d w1)), .second, .val (.double (FP.l2d w2)), .second, .val (.double (FP.l2d w3)), .second, .val (.ref b53), .val (.ref b80), .unset] [(.int d2)])) t
          by_cases hc219_119 : d2 = (0 : Int32)
          · refine XS.ifNo X113.here hx rfl (hb hby at_219) rfl ((if0 _ _).trans (teq hc219_119).2) ?_
            show Steps p.tables e below (T113.setTop (mkF m 222 #[.val (.int p1), .val (.int p2), .val (.double (FP.l2d v0)), .second, .val (.double (FP.l2d v1)), .second, .val (.double (FP.l2d v2)), .second, .val (.double (FP.l2d v3)), .second, .val (.int dv), .val (.int d0), .val (.int d1), .val (.int d2), .val (.double (FP.l2d w0)), .second, .val (.double (FP.l2d w1)), .second, .val (.double (FP.l2d w2)), .second, .val (.double (FP.l2d w3)), .second, .val (.ref b53), .val (.ref b80), .unset] [])) t
            refine XS.iconst X113.here hx rfl (hb hby at_222) ?_
            show Steps p.tables e below (T113.setTop (mkF m 223 #[.val (.int p1), .val (.int p2), .val (.double (FP.l2d v0)), .second, .val (.double (FP.l2d v1)), .second, .val (.double (FP.l2d v2)), .second, .val (.double (FP.l2d v3)), .second, .val (.int dv), .val (.int d0), .val (.int d1), .val (.int d2), .val (.double (FP.l2d w0)), .second, .val (.double (FP.l2d w1)), .second, .val (.double (FP.l2d w2)), .second, .val (.double (FP.l2d w3)), .second, .val (.ref b53), .val (.ref b80), .unset] [(.int (1 : Int32))])) t
            refine XS.goto X113.here hx rfl (pc0 := 223) (pc' := 227) rfl (hb hby at_223) (by decide) (by decide) ?_
            show Steps p.tables e below (T113.setTop (mkF m 227 #[.val (.int p1), .val (.int p2), .val (.double (FP.l2d v0)), .second, .val (.double (FP.l2d v1)), .second, .val (.double (FP.l2d v2)), .second, .val (.double (FP.l2d v3)), .second, .val (.int dv), .val (.int d0), .val (.int d1), .val (.int d2), .val (.double (FP.l2d w0)), .second, .val (.double (FP.l2d w1)), .second, .val (.double (FP.l2d w2)), .second, .val (.double (FP.l2d w3)), .second, .val (.ref b53), .val (.ref b80), .unset] [(.int (1 : Int32))])) t
            simp only [if_pos hc204_116, if_pos hc209_117, if_pos hc214_118, if_pos hc219_119] at k
            exact k
          · refine XS.ifYes X113.here hx rfl (pc0 := 219) (pc' := 226) rfl (hb hby at_219) rfl ((if0 _ _).trans (feq hc219_119).2) (by decide) (by decide) ?_
            show Steps p.tables e below (T113.setTop (mkF m 226 #[.val (.int p1), .val (.int p2), .val (.double (FP.l2d v0)), .second, .val (.double (FP.l2d v1)), .second, .val (.double (FP.l2d v2)), .second, .val (.double (FP.l2d v3)), .second, .val (.int dv), .val (.int d0), .val (.int d1), .val (.int d2), .val (.double (FP.l2d w0)), .second, .val (.double (FP.l2d w1)), .second, .val (.double (FP.l2d w2)), .second, .val (.double (FP.l2d w3)), .second, .val (.ref b53), .val (.ref b80), .unset] [])) t
            refine XS.iconst X113.here hx rfl (hb hby at_226) ?_
            show Steps p.tables e below (T113.setTop (mkF m 227 #[.val (.int p1), .val (.int p2), .val (.double (FP.l2d v0)), .second, .val (.double (FP.l2d v1)), .second, .val (.double (FP.l2d v2)), .second, .val (.double (FP.l2d v3)), .second, .val (.int dv), .val (.int d0), .val (.int d1), .val (.int d2), .val (.double (FP.l2d w0)), .second, .val (.double (FP.l2d w1)), .second, .val (.double (FP.l2d w2)), .second, .val (.double (FP.l2d w3)), .second, .val (.ref b53), .val (.ref b80), .unset] [(.int (0 : Int32))])) t
            simp only [if_pos hc204_116, if_pos hc209_117, if_pos hc214_118, if_neg hc219_119] at k
            exact k
        · refine XS.ifYes X113.here hx rfl (pc0 := 214) (pc' := 226) rfl (hb hby at_214) rfl ((if0 _ _).trans (feq hc214_118).2) (by decide) (by decide) ?_
          show Steps p.tables e below (T113.setTop (mkF m 226 #[.val (.int p1), .val (.int p2), .val (.double (FP.l2d v0)), .second, .val (.double (FP.l2d v1)), .second, .val (.double (FP.l2d v2)), .second, .val (.double (FP.l2d v3)), .second, .val (.int dv), .val (.int d0), .val (.int d1), .val (.int d2), .val (.double (FP.l2d w0)), .second, .val (.double (FP.l2d w1)), .second, .val (.double (FP.l2d w2)), .second, .val (.double (FP.l2d w3)), .second, .val (.ref b53), .val (.ref b80), .unset] [])) t
          refine XS.iconst X113.here hx rfl (hb hby at_226) ?_
          show Steps p.tables e below (T113.setTop (mkF m 227 #[.val (.int p1), .val (.int p2), .val (.double (FP.l2d v0)), .second, .val (.double (FP.l2d v1)), .second, .val (.double (FP.l2d v2)), .second, .val (.double (FP.l2d v3)), .second, .val (.int dv), .val (.int d0), .val (.int d1), .val (.int d2), .val (.double (FP.l2d w0)), .second, .val (.double (FP.l2d w1)), .second, .val (.double (FP.l2d w2)), .second, .val (.double (FP.l2d w3)), .second, .val (.ref b53), .val (.ref b80), .unset] [(.int (0 : Int32))])) t
          simp only [if_pos hc204_116, if_pos hc209_117, if_neg hc214_118] at k
          exact k
      · refine XS.ifYes X113.here hx rfl (pc0 := 209) (pc' := 226) rfl (hb hby at_209) rfl ((if0 _ _).trans (feq hc209_117).2) (by decide) (by decide) ?_
        show Steps p.tables e below (T113.setTop (mkF m 226 #[.val (.int p1), .val (.int p2), .val (.double (FP.l2d v0)), .second, .val (.double (FP.l2d v1)), .second, .val (.double (FP.l2d v2)), .second, .val (.double (FP.l2d v3)), .second, .val (.int dv), .val (.int d0), .val (.int d1), .val (.int d2), .val (.double (FP.l2d w0)), .second, .val (.double (FP.l2d w1)), .second, .val (.double (FP.l2d w2)), .second, .val (.double (FP.l2d w3)), .second, .val (.ref b53), .val (.ref b80), .unset] [])) t
        refine XS.iconst X113.here hx rfl (hb hby at_226) ?_
        show Steps p.tables e below (T113.setTop (mkF m 227 #[.val (.int p1), .val (.int p2), .val (.double (FP.l2d v0)), .second, .val (.double (FP.l2d v1)), .second, .val (.double (FP.l2d v2)), .second, .val (.double (FP.l2d v3)), .second, .val (.int dv), .val (.int d0), .val (.int d1), .val (.int d2), .val (.double (FP.l2d w0)), .second, .val (.double (FP.l2d w1)), .second, .val (.double (FP.l2d w2)), .second, .val (.double (FP.l2d w3)), .second, .val (.ref b53), .val (.ref b80), .unset] [(.int (0 : Int32))])) t
        simp only [if_pos hc204_116, if_neg hc209_117] at k
        exact k
    · refine XS.ifYes X113.here hx rfl (pc0 := 204) (pc' := 226) rfl (hb hby at_204) rfl ((if0 _ _).trans (feq hc204_116).2) (by decide) (by decide) ?_
      show Steps p.tables e below (T113.setTop (mkF m 226 #[.val (.int p1), .val (.int p2), .val (.double (FP.l2d v0)), .second, .val (.double (FP.l2d v1)), .second, .val (.double (FP.l2d v2)), .second, .val (.double (FP.l2d v3)), .second, .val (.int dv), .val (.int d0), .val (.int d1), .val (.int d2), .val (.double (FP.l2d w0)), .second, .val (.double (FP.l2d w1)), .second, .val (.double (FP.l2d w2)), .second, .val (.double (FP.l2d w3)), .second, .val (.ref b53), .val (.ref b80), .unset] [])) t
      refine XS.iconst X113.here hx rfl (hb hby at_226) ?_
      show Steps p.tables e below (T113.setTop (mkF m 227 #[.val (.int p1), .val (.int p2), .val (.double (FP.l2d v0)), .second, .val (.double (FP.l2d v1)), .second, .val (.double (FP.l2d v2)), .second, .val (.double (FP.l2d v3)), .second, .val (.int dv), .val (.int d0), .val (.int d1), .val (.int d2), .val (.double (FP.l2d w0)), .second, .val (.double (FP.l2d w1)), .second, .val (.double (FP.l2d w2)), .second, .val (.double (FP.l2d w3)), .second, .val (.ref b53), .val (.ref b80), .unset] [(.int (0 : Int32))])) t
      simp only [if_neg hc204_116] at k
      exact k
  refine own_up ?_ dm120
  show own_G p.tables e below s _ _ _ (T113.setTop (mkF m 227 #[.val (.int p1), .val (.int p2), .val (.double (FP.l2d v0)), .second, .val (.double (FP.l2d v1)), .second, .val (.double (FP.l2d v2)), .second, .val (.double (FP.l2d v3)), .second, .val (.int dv), .val (.int d0), .val (.int d1), .val (.int d2), .val (.double (FP.l2d w0)), .second, .val (.double (FP.l2d w1)), .second, .val (.double (FP.l2d w2)), .second, .val (.double (FP.l2d w3)), .second, .val (.ref b53), .val (.ref b80), .unset] [(.int (if dv = (0 : Int32) then (if d0 = (0 : Int32) then (if d1 = (0 : Int32) then (if d2 = (0 : Int32) then (1 : Int32) else (0 : Int32)) else (0 : Int32)) else (0 : Int32)) else (0 : Int32)))]))
  refine own_up ?_ fun t k => XS.istore X113.here hx rfl (hb hby at_227) rfl (l' := #[.val (.int p1), .val (.int p2), .val (.double (FP.l2d v0)), .second, .val (.double (FP.l2d v1)), .second, .val (.double (FP.l2d v2)), .second, .val (.double (FP.l2d v3)), .second, .val (.int dv), .val (.int d0), .val (.int d1), .val (.int d2), .val (.double (FP.l2d w0)), .second, .val (.double (FP.l2d w1)), .second, .val (.double (FP.l2d w2)), .second, .val (.double (FP.l2d w3)), .second, .val (.ref b53), .val (.ref b80), .val (.int (if dv = (0 : Int32) then (if d0 = (0 : Int32) then (if d1 = (0 : Int32) then (if d2 = (0 : Int32) then (1 : Int32) else (0 : Int32)) else (0 : Int32)) else (0 : Int32)) else (0 : Int32)))]) rfl k
  show own_G p.tables e below s _ _ _ (T113.setTop (mkF m 229 #[.val (.int p1), .val (.int p2), .val (.double (FP.l2d v0)), .second, .val (.double (FP.l2d v1)), .second, .val (.double (FP.l2d v2)), .second, .val (.double (FP.l2d v3)), .second, .val (.int dv), .val (.int d0), .val (.int d1), .val (.int d2), .val (.double (FP.l2d w0)), .second, .val (.double (FP.l2d w1)), .second, .val (.double (FP.l2d w2)), .second, .val (.double (FP.l2d w3)), .second, .val (.ref b53), .val (.ref b80), .val (.int (if dv = (0 : Int32) then (if d0 = (0 : Int32) then (if d1 = (0 : Int32) then (if d2 = (0 : Int32) then (1 : Int32) else (0 : Int32)) else (0 : Int32)) else (0 : Int32)) else (0 : Int32)))] []))
  obtain ⟨ex, h_ex⟩ : ∃ z, z = (if dv = (0 : Int32) then (if d0 = (0 : Int32) then (if d1 = (0 : Int32) then (if d2 = (0 : Int32) then (1 : Int32) else (0 : Int32)) else (0 : Int32)) else (0 : Int32)) else (0 : Int32)) := ⟨_, rfl⟩
  rw [← h_ex]
  show own_G p.tables e below s _ _ _ (T113.setTop (mkF m 229 #[.val (.int p1), .val (.int p2), .val (.double (FP.l2d v0)), .second, .val (.double (FP.l2d v1)), .second, .val (.double (FP.l2d v2)), .second, .val (.double (FP.l2d v3)), .second, .val (.int dv), .val (.int d0), .val (.int d1), .val (.int d2), .val (.double (FP.l2d w0)), .second, .val (.double (FP.l2d w1)), .second, .val (.double (FP.l2d w2)), .second, .val (.double (FP.l2d w3)), .second, .val (.ref b53), .val (.ref b80), .val (.int ex)] []))
  refine own_up ?_ fun t k => XS.aload X113.here hx rfl (hb hby at_229) rfl rfl k
  show own_G p.tables e below s _ _ _ (T113.setTop (mkF m 231 #[.val (.int p1), .val (.int p2), .val (.double (FP.l2d v0)), .second, .val (.double (FP.l2d v1)), .second, .val (.double (FP.l2d v2)), .second, .val (.double (FP.l2d v3)), .second, .val (.int dv), .val (.int d0), .val (.int d1), .val (.int d2), .val (.double (FP.l2d w0)), .second, .val (.double (FP.l2d w1)), .second, .val (.double (FP.l2d w2)), .second, .val (.double (FP.l2d w3)), .second, .val (.ref b53), .val (.ref b80), .val (.int ex)] [(.ref b53)]))
  refine own_up ?_ fun t k => XS.aload X113.here hx rfl (hb hby at_231) rfl rfl k
  show own_G p.tables e below s _ _ _ (T113.setTop (mkF m 233 #[.val (.int p1), .val (.int p2), .val (.double (FP.l2d v0)), .second, .val (.double (FP.l2d v1)), .second, .val (.double (FP.l2d v2)), .second, .val (.double (FP.l2d v3)), .second, .val (.int dv), .val (.int d0), .val (.int d1), .val (.int d2), .val (.double (FP.l2d w0)), .second, .val (.double (FP.l2d w1)), .second, .val (.double (FP.l2d w2)), .second, .val (.double (FP.l2d w3)), .second, .val (.ref b53), .val (.ref b80), .val (.int ex)] [(.ref b80), (.ref b53)]))
  obtain ⟨cq121, kq121, q121a, q121b, q121c⟩ := isOf hZ rfl A53_c114
  obtain ⟨_, _, ⟨T121, L121, k121, n121⟩, -, X121, ⟨Lc121, hQ121, l121, y121, z121⟩, st121⟩ := X113.virtualBack hx (y := (⟨"com/example/swarmfront/swarmfront/swarm/Point", "sameValues", "(Lcom/example/swarmfront/swarmfront/swarm/Point;)Z"⟩ : MethodName)) (z := (⟨"com/example/swarmfront/swarmfront/swarm/Point", "sameValues", "(Lcom/example/swarmfront/swarmfront/swarm/Point;)Z"⟩ : MethodName)) hown (mvT hZ (hw _ (List.mem_of_getElem? (i := 20) rfl))) (mvT hZ (hw _ (List.mem_of_getElem? (i := 21) rfl))) (notFace_of_selects (args := #[]) (mvT hZ (hw _ (List.mem_of_getElem? (i := 23) rfl)))) (mvT hZ (hw _ (List.mem_of_getElem? (i := 23) rfl))) (mvT hZ (hw _ (List.mem_of_getElem? (i := 22) rfl))) (by decide) (backOf (W := 0) (rm4 l Z a0 hw [] b53 b80 v0 w0 b62 b95 k62 k95 v1 v2 v3 w1 w2 w3 T113.heap n0 Zs115 Fq77_2_c114 Fq113_2 Fq77_1_c114 Fq113_1 V74_c114 V110_c114 (own_bb (own_isb h_v0)) (own_bs h_w0 (own_isb h_v0) (own_amt h_m0)) (own_bb (own_isb h_v1)) (own_bb (own_isb h_v2)) (own_bb (own_isb h_v3)) (own_bs h_w1 (own_isb h_v1) (own_amt h_m1)) (own_bs h_w2 (own_isb h_v2) (own_amt h_m2)) (own_bs h_w3 (own_isb h_v3) (own_amt h_m3))) hZ (hw _ (List.mem_of_getElem? (i := 24) rfl)) (hw _ (List.mem_of_getElem? (i := 6) rfl)) (by decide) (by decide)) q121a q121c (g := (mkF m 233 #[.val (.int p1), .val (.int p2), .val (.double (FP.l2d v0)), .second, .val (.double (FP.l2d v1)), .second, .val (.double (FP.l2d v2)), .second, .val (.double (FP.l2d v3)), .second, .val (.int dv), .val (.int d0), .val (.int d1), .val (.int d2), .val (.double (FP.l2d w0)), .second, .val (.double (FP.l2d w1)), .second, .val (.double (FP.l2d w2)), .second, .val (.double (FP.l2d w3)), .second, .val (.ref b53), .val (.ref b80), .val (.int ex)] [(.ref b80), (.ref b53)])) rfl (by rw [hml]; rfl) (Steps.refl _) (argsL := [(.ref b80)]) (rest := []) (lenOf own_pd2 rfl) rfl (by show 2 * 0 + _ ≤ _; exact Nat.le_of_eq rfl) (hb hby at_233) (fun _ _ => ⟨rfl, rfl, (by decide : 6 + 0 ≤ _), (by decide : 12 + 0 ≤ _)⟩)
  dsimp only [Pt.U, Pt.locs, Pt.cells, Pt.slots] at X121 l121 y121 z121 st121 hQ121
  subst l121 y121 z121
  obtain ⟨rfl, Nq121, e121⟩ := hQ121
  have N121 := Fr.app N113 Nq121
  refine own_up ?_ (fun t k => st121.trans k)
  show own_G p.tables e below s _ _ _ (T121.setTop (mkF m 236 #[.val (.int p1), .val (.int p2), .val (.double (FP.l2d v0)), .second, .val (.double (FP.l2d v1)), .second, .val (.double (FP.l2d v2)), .second, .val (.double (FP.l2d v3)), .second, .val (.int dv), .val (.int d0), .val (.int d1), .val (.int d2), .val (.double (FP.l2d w0)), .second, .val (.double (FP.l2d w1)), .second, .val (.double (FP.l2d w2)), .second, .val (.double (FP.l2d w3)), .second, .val (.ref b53), .val (.ref b80), .val (.int ex)] [(.int (own_same v0 v1 v2 v3 w0 w1 w2 w3))]))
  refine own_up ?_ fun t k => XS.iload X121.here hx rfl (hb hby at_236) rfl k
  show own_G p.tables e below s _ _ _ (T121.setTop (mkF m 238 #[.val (.int p1), .val (.int p2), .val (.double (FP.l2d v0)), .second, .val (.double (FP.l2d v1)), .second, .val (.double (FP.l2d v2)), .second, .val (.double (FP.l2d v3)), .second, .val (.int dv), .val (.int d0), .val (.int d1), .val (.int d2), .val (.double (FP.l2d w0)), .second, .val (.double (FP.l2d w1)), .second, .val (.double (FP.l2d w2)), .second, .val (.double (FP.l2d w3)), .second, .val (.ref b53), .val (.ref b80), .val (.int ex)] [(.int ex), (.int (own_same v0 v1 v2 v3 w0 w1 w2 w3))]))
  refine own_up ?_ fun t k => XS.icmpNo X121.here hx rfl (hb hby at_238) rfl (teq ((own_l1 (own_sh h_w0 h_dv (own_isb h_v0) (own_amt h_m0)) (own_sh h_w1 h_d0 (own_isb h_v1) (own_amt h_m1)) (own_sh h_w2 h_d1 (own_isb h_v2) (own_amt h_m2)) (own_sh h_w3 h_d2 (own_isb h_v3) (own_amt h_m3))).trans h_ex.symm : ((own_same v0 v1 v2 v3 w0 w1 w2 w3) = ex))).2 k
  show own_G p.tables e below s _ _ _ (T121.setTop (mkF m 241 #[.val (.int p1), .val (.int p2), .val (.double (FP.l2d v0)), .second, .val (.double (FP.l2d v1)), .second, .val (.double (FP.l2d v2)), .second, .val (.double (FP.l2d v3)), .second, .val (.int dv), .val (.int d0), .val (.int d1), .val (.int d2), .val (.double (FP.l2d w0)), .second, .val (.double (FP.l2d w1)), .second, .val (.double (FP.l2d w2)), .second, .val (.double (FP.l2d w3)), .second, .val (.ref b53), .val (.ref b80), .val (.int ex)] []))
  refine own_up ?_ fun t k => XS.aload X121.here hx rfl (hb hby at_241) rfl rfl k
  show own_G p.tables e below s _ _ _ (T121.setTop (mkF m 243 #[.val (.int p1), .val (.int p2), .val (.double (FP.l2d v0)), .second, .val (.double (FP.l2d v1)), .second, .val (.double (FP.l2d v2)), .second, .val (.double (FP.l2d v3)), .second, .val (.int dv), .val (.int d0), .val (.int d1), .val (.int d2), .val (.double (FP.l2d w0)), .second, .val (.double (FP.l2d w1)), .second, .val (.double (FP.l2d w2)), .second, .val (.double (FP.l2d w3)), .second, .val (.ref b53), .val (.ref b80), .val (.int ex)] [(.ref b80)]))
  refine own_up ?_ fun t k => XS.aload X121.here hx rfl (hb hby at_243) rfl rfl k
  show own_G p.tables e below s _ _ _ (T121.setTop (mkF m 245 #[.val (.int p1), .val (.int p2), .val (.double (FP.l2d v0)), .second, .val (.double (FP.l2d v1)), .second, .val (.double (FP.l2d v2)), .second, .val (.double (FP.l2d v3)), .second, .val (.int dv), .val (.int d0), .val (.int d1), .val (.int d2), .val (.double (FP.l2d w0)), .second, .val (.double (FP.l2d w1)), .second, .val (.double (FP.l2d w2)), .second, .val (.double (FP.l2d w3)), .second, .val (.ref b53), .val (.ref b80), .val (.int ex)] [(.ref b53), (.ref b80)]))
  obtain ⟨cq122, kq122, q122a, q122b, q122c⟩ := isOf hZ e121 A80_c114
  obtain ⟨_, _, ⟨T122, L122, k122, n122⟩, -, X122, ⟨Lc122, hQ122, l122, y122, z122⟩, st122⟩ := X121.virtualBack hx (y := (⟨"com/example/swarmfront/swarmfront/swarm/Point", "sameValues", "(Lcom/example/swarmfront/swarmfront/swarm/Point;)Z"⟩ : MethodName)) (z := (⟨"com/example/swarmfront/swarmfront/swarm/Point", "sameValues", "(Lcom/example/swarmfront/swarmfront/swarm/Point;)Z"⟩ : MethodName)) hown (mvT hZ (hw _ (List.mem_of_getElem? (i := 20) rfl))) (mvT hZ (hw _ (List.mem_of_getElem? (i := 21) rfl))) (notFace_of_selects (args := #[]) (mvT hZ (hw _ (List.mem_of_getElem? (i := 23) rfl)))) (mvT hZ (hw _ (List.mem_of_getElem? (i := 23) rfl))) (mvT hZ (hw _ (List.mem_of_getElem? (i := 22) rfl))) (by decide) (backOf (W := 0) (rm4 l Z a0 hw [] b80 b53 w0 v0 b95 b62 k95 k62 w1 w2 w3 v1 v2 v3 T113.heap n0 Zs115 Fq113_2 Fq77_2_c114 Fq113_1 Fq77_1_c114 V110_c114 V74_c114 (own_bs h_w0 (own_isb h_v0) (own_amt h_m0)) (own_bb (own_isb h_v0)) (own_bs h_w1 (own_isb h_v1) (own_amt h_m1)) (own_bs h_w2 (own_isb h_v2) (own_amt h_m2)) (own_bs h_w3 (own_isb h_v3) (own_amt h_m3)) (own_bb (own_isb h_v1)) (own_bb (own_isb h_v2)) (own_bb (own_isb h_v3))) hZ (hw _ (List.mem_of_getElem? (i := 24) rfl)) (hw _ (List.mem_of_getElem? (i := 6) rfl)) (by decide) (by decide)) q122a q122c (g := (mkF m 245 #[.val (.int p1), .val (.int p2), .val (.double (FP.l2d v0)), .second, .val (.double (FP.l2d v1)), .second, .val (.double (FP.l2d v2)), .second, .val (.double (FP.l2d v3)), .second, .val (.int dv), .val (.int d0), .val (.int d1), .val (.int d2), .val (.double (FP.l2d w0)), .second, .val (.double (FP.l2d w1)), .second, .val (.double (FP.l2d w2)), .second, .val (.double (FP.l2d w3)), .second, .val (.ref b53), .val (.ref b80), .val (.int ex)] [(.ref b53), (.ref b80)])) rfl (by rw [hml]; rfl) (Steps.refl _) (argsL := [(.ref b53)]) (rest := []) (lenOf own_pd2 rfl) rfl (by show 2 * 0 + _ ≤ _; exact Nat.le_of_eq rfl) (hb hby at_245) (fun _ _ => ⟨rfl, e121, (by decide : 6 + 0 ≤ _), (by decide : 12 + 0 ≤ _)⟩)
  dsimp only [Pt.U, Pt.locs, Pt.cells, Pt.slots] at X122 l122 y122 z122 st122 hQ122
  subst l122 y122 z122
  obtain ⟨rfl, Nq122, e122⟩ := hQ122
  have N122 := Fr.app N121 Nq122
  refine own_up ?_ (fun t k => st122.trans k)
  show own_G p.tables e below s _ _ _ (T122.setTop (mkF m 248 #[.val (.int p1), .val (.int p2), .val (.double (FP.l2d v0)), .second, .val (.double (FP.l2d v1)), .second, .val (.double (FP.l2d v2)), .second, .val (.double (FP.l2d v3)), .second, .val (.int dv), .val (.int d0), .val (.int d1), .val (.int d2), .val (.double (FP.l2d w0)), .second, .val (.double (FP.l2d w1)), .second, .val (.double (FP.l2d w2)), .second, .val (.double (FP.l2d w3)), .second, .val (.ref b53), .val (.ref b80), .val (.int ex)] [(.int (own_same w0 w1 w2 w3 v0 v1 v2 v3))]))
  refine own_up ?_ fun t k => XS.iload X122.here hx rfl (hb hby at_248) rfl k
  show own_G p.tables e below s _ _ _ (T122.setTop (mkF m 250 #[.val (.int p1), .val (.int p2), .val (.double (FP.l2d v0)), .second, .val (.double (FP.l2d v1)), .second, .val (.double (FP.l2d v2)), .second, .val (.double (FP.l2d v3)), .second, .val (.int dv), .val (.int d0), .val (.int d1), .val (.int d2), .val (.double (FP.l2d w0)), .second, .val (.double (FP.l2d w1)), .second, .val (.double (FP.l2d w2)), .second, .val (.double (FP.l2d w3)), .second, .val (.ref b53), .val (.ref b80), .val (.int ex)] [(.int ex), (.int (own_same w0 w1 w2 w3 v0 v1 v2 v3))]))
  refine own_up ?_ fun t k => XS.icmpNo X122.here hx rfl (hb hby at_250) rfl (teq ((own_l2 (own_sh h_w0 h_dv (own_isb h_v0) (own_amt h_m0)) (own_sh h_w1 h_d0 (own_isb h_v1) (own_amt h_m1)) (own_sh h_w2 h_d1 (own_isb h_v2) (own_amt h_m2)) (own_sh h_w3 h_d2 (own_isb h_v3) (own_amt h_m3))).trans h_ex.symm : ((own_same w0 w1 w2 w3 v0 v1 v2 v3) = ex))).2 k
  show own_G p.tables e below s _ _ _ (T122.setTop (mkF m 253 #[.val (.int p1), .val (.int p2), .val (.double (FP.l2d v0)), .second, .val (.double (FP.l2d v1)), .second, .val (.double (FP.l2d v2)), .second, .val (.double (FP.l2d v3)), .second, .val (.int dv), .val (.int d0), .val (.int d1), .val (.int d2), .val (.double (FP.l2d w0)), .second, .val (.double (FP.l2d w1)), .second, .val (.double (FP.l2d w2)), .second, .val (.double (FP.l2d w3)), .second, .val (.ref b53), .val (.ref b80), .val (.int ex)] []))
  refine own_up ?_ fun t k => XS.iconst X122.here hx rfl (hb hby at_253) k
  show own_G p.tables e below s _ _ _ (T122.setTop (mkF m 254 #[.val (.int p1), .val (.int p2), .val (.double (FP.l2d v0)), .second, .val (.double (FP.l2d v1)), .second, .val (.double (FP.l2d v2)), .second, .val (.double (FP.l2d v3)), .second, .val (.int dv), .val (.int d0), .val (.int d1), .val (.int d2), .val (.double (FP.l2d w0)), .second, .val (.double (FP.l2d w1)), .second, .val (.double (FP.l2d w2)), .second, .val (.double (FP.l2d w3)), .second, .val (.ref b53), .val (.ref b80), .val (.int ex)] [(.int (1 : Int32))]))
  refine own_up ?_ fun t k => XS.goto X122.here hx rfl (pc0 := 254) (pc' := 258) rfl (hb hby at_254) (by decide) (by decide) k
  show own_G p.tables e below s _ _ _ (T122.setTop (mkF m 258 #[.val (.int p1), .val (.int p2), .val (.double (FP.l2d v0)), .second, .val (.double (FP.l2d v1)), .second, .val (.double (FP.l2d v2)), .second, .val (.double (FP.l2d v3)), .second, .val (.int dv), .val (.int d0), .val (.int d1), .val (.int d2), .val (.double (FP.l2d w0)), .second, .val (.double (FP.l2d w1)), .second, .val (.double (FP.l2d w2)), .second, .val (.double (FP.l2d w3)), .second, .val (.ref b53), .val (.ref b80), .val (.int ex)] [(.int (1 : Int32))]))
  exact own_retI X122 hx hlk Bd.returns (by simp) rfl (hb hby at_258) ⟨rfl, N122⟩ (by decide) (by decide)
set_option maxRecDepth 65536 in
set_option maxHeartbeats 40000000 in
theorem comes_1 {Post : Tables → Env → Array Value → State → Outcome → State → Prop} (hpost : ∀ tb e args s v u, (limb_1_1.after args s (.returned v) u = true ∧ limb_1_2.after args s (.returned v) u = true ∧ True) → FrameEnd s (.returned v) u (Jvm.fieldLocs frame_1_writes args s ++ Jvm.arrayLocs frame_1_arrays args s ++ Jvm.staticLocs frame_1_statics s) 24 128 → Post tb e args s (.returned v) u) :
    ArmFor flags0 classFile x code maxLocals ret World_1 tables_1 room_1 Calls_1 rest_1 Pre_1 Post := by
  intro l hfl _ _ p e ha hc hk s m args below hf hA hF happ hP
  obtain ⟨hcalls, hrest, hpre⟩ := hP
  obtain ⟨-, -, -, hnamed, -, -, -, hat⟩ := (Spec.applies_iff hf).mp happ
  obtain ⟨hg, hn⟩ := and_e (Cond.before_iff.mp (show (Jvm.Cond.and given_1 narrow_1).before args s = true from hpre))
  obtain ⟨gc, g0⟩ := and_e hg
  obtain ⟨gv0, g1⟩ := and_e g0
  obtain ⟨w0, w1, rfl⟩ : ∃ w0 w1 : Value, args = #[w0, w1] := by
    have hs : args.size = 2 := by simpa [Cond.value, given_1] using gc
    obtain ⟨L⟩ := args
    match L, hs with
    | [w0, w1], _ => exact ⟨w0, w1, rfl⟩
  have hw := fun d (hd : d ∈ tables_1) => atoms_spec (ws := Jvm.Cond.code x code maxLocals ret :: tables_1) hat d (List.mem_cons_of_mem _ hd)
  have hfit : Fit s := fun {y c} hc i hi => by
    obtain ⟨ha, rfl⟩ := Array.getElem?_eq_some_iff.mp hc
    have q := List.all_eq_true.mp ((Array.all_eq_true_iff_forall_mem.mp hF) _ (Array.getElem_mem ha)) i (List.mem_range.mpr hi)
    simpa [Array.getElem?_eq_getElem hi] using q
  obtain ⟨i0, ei0⟩ := is_v gv0
  obtain rfl : w0 = (.int i0) := Option.some.inj ei0
  obtain ⟨i1, ei1⟩ := is_v g1
  obtain rfl : w1 = (.int i1) := Option.some.inj ei1
  obtain ⟨n, o, h1, h2, h3, _, L, rfl, ⟨rfl, N⟩, hq⟩ := rm0 l s _ hw tables_1 i0 i1  s.heap s.heap.size (Nat.le_refl _)  p e ha hc hk s m _ below hf ((Spec.applies_iff_loose hf).mp happ).1 ⟨rfl, State.Warmed39.refl s, rfl⟩ trivial
  refine ⟨n, _, h1, h2, h3, hpost _ _ _ _ _ _ ⟨Cond.after_iff.mpr rfl, Cond.after_iff.mpr (eq_i res_at (Term.int_eval (1)) rfl), trivial⟩ ⟨hq.1, hq.2.1, (hq.2.2.sift fun y hy => Or.inr (N y hy)).mono (by decide) (by decide)⟩⟩
theorem main_1_1 : Claimed_1_1 := comes_1 fun _ _ _ _ _ _ h hF => ⟨h.1, hF⟩
theorem main_1_2 : Claimed_1_2 := comes_1 fun _ _ _ _ _ _ h hF => ⟨h.2.1, hF⟩
end Jvm.Pilot.@@N@@
namespace Jvm.Pilot.@@N@@
open Jvm Jvm.ClassFile Sem Op Lib Jvm.Free Jvm.Stand Jvm.Pilot.@@N@@.Jvm.D
/-! MADE BY PROGRAM (witnessworld.py) out of the Statement's table words and the real class files: 9 classes; the members and pool entries that the words name. The judged class is class 1, her method 2. -/
namespace start1
open Jvm.ClassFile
def u (s : String) : CpInfo := .utf8 (stringToUtf16 s)
/-- a pool by its gaps: so many unusable entries, then the entry; so many at the end -/
def gap : Nat → List CpInfo → List CpInfo
  | 0, r => r
  | n + 1, r => .unusable :: gap n r
def poolList (es : List (Nat × CpInfo)) (last : Nat) : List CpInfo := es.foldr (fun e r => gap e.1 (e.2 :: r)) (gap last [])
def pool (es : List (Nat × CpInfo)) (last : Nat) : Array CpInfo := ⟨poolList es last⟩
def fileOf (pool : Array CpInfo) (this : Nat) (attrs : Array Attribute := #[]) (ms : Array MethodInfo := #[]) (fl : Nat := 33) (sup : Nat := 0) (ifs : Array Nat := #[]) (fds : Array FieldInfo := #[]) : ClassFile where
  minorVersion := 0
  majorVersion := 65
  constantPool := pool
  accessFlags := fl
  thisClass := this
  superClass := sup
  interfaces := ifs
  fields := fds
  methods := ms
  attributes := attrs
def plain (name : String) (sup : Option ClassId) : Class where
  name := name
  kind := .ordinary
  loader := none
  accessFlags := 33
  super := sup
  interfaces := #[]
  cf := none
  fields := #[]
  methods := #[]
  instanceTypes := #[]
  staticTypes := #[]
  resolved := #[]
  callSites := []
  init := .initialized
  statics := none
  mirror := none

def pool0 : Array CpInfo := pool [(5, u "<init>"), (0, u "()V"), (1, .class_ 10), (1, u "java/lang/Object")] 113

def k0c0 : Code := { maxStack := 0, maxLocals := 1, code := object_method_1_code, exceptionTable := #[], attributes := #[] }
def k0m0 : Method := { name := "<init>", desc := "()V", sig := { parameters := [], returnType := none }, accessFlags := 1, code := some k0c0 }
/-- java/lang/Object -/
def k0 : Class := { plain "java/lang/Object" none with
  accessFlags := 33
  interfaces := #[]
  cf := some (fileOf pool0 8 #[] #[{ accessFlags := 1, nameIndex := 5, descriptorIndex := 6, attributes := #[] }] 33 0 #[] #[])
  fields := #[]
  methods := #[k0m0]
  instanceTypes := #[]
  staticTypes := #[]
  resolved := Array.replicate 124 none
  statics := none }

def pool1 : Array CpInfo := pool [(2, .class_ 4), (1, u "java/lang/Object"), (0, u "<init>"), (0, u "()V"), (0, .methodref 8 9), (0, .class_ 10), (0, .nameAndType 11 12), (0, u "com/example/swarmfront/swarmfront/swarm/PointSameValuesPinLaw"), (0, u "shifted"), (0, u "(DZI)D"), (0, .class_ 14), (0, u "com/example/swarmfront/swarmfront/swarm/Point"), (0, .methodref 13 16), (0, .nameAndType 5 17), (0, u "([D[DD)V"), (0, .methodref 13 19), (0, .nameAndType 20 21), (0, u "sameValues"), (0, u "(Lcom/example/swarmfront/swarmfront/swarm/Point;)Z"), (3, u "law"), (0, u "(II)Z")] 2

def k1m0 : Method := { name := "<init>", desc := "()V", sig := { parameters := [], returnType := none }, accessFlags := 1, code := none }
def k1c1 : Code := { maxStack := 4, maxLocals := 4, code := method_2_code, exceptionTable := #[], attributes := #[] }
def k1m1 : Method := { name := "shifted", desc := "(DZI)D", sig := { parameters := [.double, .boolean, .int], returnType := some .double }, accessFlags := 10, code := some k1c1 }
def k1c2 : Code := { maxStack := 8, maxLocals := 25, code := code, exceptionTable := #[], attributes := #[] }
def k1m2 : Method := { name := "law", desc := "(II)Z", sig := { parameters := [.int, .int], returnType := some .boolean }, accessFlags := 9, code := some k1c2 }
/-- com/example/swarmfront/swarmfront/swarm/PointSameValuesPinLaw -/
def k1 : Class := { plain "com/example/swarmfront/swarmfront/swarm/PointSameValuesPinLaw" (some 0) with
  accessFlags := 49
  interfaces := #[]
  cf := some (fileOf pool1 8 #[] #[{ accessFlags := 1, nameIndex := 5, descriptorIndex := 6, attributes := #[] }, { accessFlags := 10, nameIndex := 11, descriptorIndex := 12, attributes := #[] }, { accessFlags := 9, nameIndex := 25, descriptorIndex := 26, attributes := #[] }] 49 2 #[] #[])
  fields := #[]
  methods := #[k1m0, k1m1, k1m2]
  instanceTypes := #[]
  staticTypes := #[]
  resolved := Array.replicate 29 none
  statics := none }

def pool2 : Array CpInfo := pool [(1, .methodref 2 3), (0, .class_ 4), (0, .nameAndType 5 6), (0, u "java/lang/Object"), (0, u "<init>"), (0, u "()V"), (0, .fieldref 8 9), (0, .class_ 10), (0, .nameAndType 11 12), (0, u "com/example/swarmfront/swarmfront/swarm/Point"), (0, u "variables"), (0, u "[D"), (0, .fieldref 8 14), (0, .nameAndType 15 12), (0, u "objectives"), (0, .fieldref 8 17), (0, .nameAndType 18 19), (0, u "violation"), (0, u "D"), (37, u "FRONT_ORDER"), (0, u "Ljava/util/Comparator;"), (2, u "([D[DD)V"), (6, u "(Lcom/example/swarmfront/swarmfront/swarm/Point;)Z"), (1, u "sameValues")] 33

def k2c0 : Code := { maxStack := 3, maxLocals := 5, code := prog_23_method_1_code, exceptionTable := #[], attributes := #[] }
def k2m0 : Method := { name := "<init>", desc := "([D[DD)V", sig := { parameters := [(.array .double), (.array .double), .double], returnType := none }, accessFlags := 0, code := some k2c0 }
def k2c1 : Code := { maxStack := 4, maxLocals := 3, code := prog_23_method_10_code, exceptionTable := #[], attributes := #[] }
def k2m1 : Method := { name := "sameValues", desc := "(Lcom/example/swarmfront/swarmfront/swarm/Point;)Z", sig := { parameters := [(.object "com/example/swarmfront/swarmfront/swarm/Point")], returnType := some .boolean }, accessFlags := 0, code := some k2c1 }
/-- com/example/swarmfront/swarmfront/swarm/Point -/
def k2 : Class := { plain "com/example/swarmfront/swarmfront/swarm/Point" (some 0) with
  accessFlags := 49
  interfaces := #[]
  cf := some (fileOf pool2 8 #[] #[{ accessFlags := 0, nameIndex := 5, descriptorIndex := 61, attributes := #[] }, { accessFlags := 0, nameIndex := 70, descriptorIndex := 68, attributes := #[] }] 49 2 #[] #[{ accessFlags := 24, nameIndex := 57, descriptorIndex := 58, attributes := #[] }, { accessFlags := 18, nameIndex := 11, descriptorIndex := 12, attributes := #[] }, { accessFlags := 18, nameIndex := 15, descriptorIndex := 12, attributes := #[] }, { accessFlags := 18, nameIndex := 18, descriptorIndex := 19, attributes := #[] }])
  fields := #[{ name := "FRONT_ORDER", type := (.object "java/util/Comparator"), accessFlags := 24, slot := 0, constantValue := 0 }, { name := "variables", type := (.array .double), accessFlags := 18, slot := 0, constantValue := 0 }, { name := "objectives", type := (.array .double), accessFlags := 18, slot := 1, constantValue := 0 }, { name := "violation", type := .double, accessFlags := 18, slot := 2, constantValue := 0 }]
  methods := #[k2m0, k2m1]
  instanceTypes := #[(.array .double), (.array .double), .double]
  staticTypes := #[(.object "java/util/Comparator")]
  resolved := Array.replicate 104 none
  statics := none }

def pool3 : Array CpInfo := pool [(1, u "java/lang/Cloneable"), (0, .class_ 1), (0, u "java/lang/Object"), (0, .class_ 3)] 3

/-- java/lang/Cloneable -/
def k3 : Class := { plain "java/lang/Cloneable" (some 0) with
  accessFlags := 1537
  interfaces := #[]
  cf := some (fileOf pool3 2 #[] #[] 1537 4 #[] #[])
  fields := #[]
  methods := #[]
  instanceTypes := #[]
  staticTypes := #[]
  resolved := Array.replicate 8 none
  statics := none }

def pool4 : Array CpInfo := pool [(1, u "java/io/Serializable"), (0, .class_ 1), (0, u "java/lang/Object"), (0, .class_ 3)] 3

/-- java/io/Serializable -/
def k4 : Class := { plain "java/io/Serializable" (some 0) with
  accessFlags := 1537
  interfaces := #[]
  cf := some (fileOf pool4 2 #[] #[] 1537 4 #[] #[])
  fields := #[]
  methods := #[]
  instanceTypes := #[]
  staticTypes := #[]
  resolved := Array.replicate 8 none
  statics := none }

/-- the primitive byte -/
def k5 : Class := { plain "byte" none with kind := .primitive 'B', accessFlags := 0x411 }
/-- [B -/
def k6 : Class := { plain "[B" (some 0) with kind := .array 5 .byte, interfaces := #[3, 4], accessFlags := 1041 }

/-- the primitive int -/
def k7 : Class := { plain "int" none with kind := .primitive 'I', accessFlags := 0x411 }
/-- [I -/
def k8 : Class := { plain "[I" (some 0) with kind := .array 7 .int, interfaces := #[3, 4], accessFlags := 1041 }

/-- the primitive double -/
def k9 : Class := { plain "double" none with kind := .primitive 'D', accessFlags := 0x411 }
/-- [D -/
def k10 : Class := { plain "[D" (some 0) with kind := .array 9 .double, interfaces := #[3, 4], accessFlags := 1041 }

def heap : Heap := #[]
def classes : Array Class := #[k0, k1, k2, k3, k4, k5, k6, k7, k8, k9, k10]
def interned : List (Array UInt16 × Addr) := []
def slotsUsed : Nat := 0
def theMethod : MethodId := ⟨1, 2⟩
def args0 : Array Value := #[.int 5, .int 6]
def aboutOver (below : List Frame) : State where
  vm := { classes := classes, interned := interned.toArray }
  heap := heap
  slotsUsed := slotsUsed
  threads := #[{ frames := .invoking theMethod args0 :: below }]
def below0 : List Frame := [.native { method := ⟨0, 0⟩, args := #[] }]
def about1 : State := aboutOver below0
def p0 : Program := .bare "" "" ""
def e0 : Env := launch0.env 0 0 0
theorem w_frames : about1.frames = Frame.invoking theMethod args0 :: below0 := rfl
set_option maxRecDepth 65536 in
theorem w_args : argsFit about1.vm theMethod args0 = true := by decide +kernel
set_option maxRecDepth 65536 in
theorem w_heap : heapFits about1 = true := by decide +kernel
set_option maxRecDepth 65536 in
theorem w_runnable : about1.curStatus? = some .runnable := by decide +kernel
set_option maxRecDepth 65536 in
theorem w_alone : about1.alone = true := by decide +kernel
set_option maxRecDepth 65536 in
theorem w_named : about1.methodNamed? x = some theMethod := by decide +kernel
set_option maxRecDepth 65536 in
theorem w_hears : about1.hears theMethod below0 = true := by decide +kernel
set_option maxRecDepth 65536 in
theorem w_ripe : about1.ripe theMethod args0 below0 = true := by decide +kernel
theorem w_running : about1.status = .running := rfl
set_option maxRecDepth 65536 in
theorem w_room : about1.hasRoom e0.platform room_1 = true :=
  launch0.hasRoom_least _ room_1 (by decide +kernel) (by decide +kernel) (by decide +kernel) (by decide +kernel) (by decide +kernel) (by decide +kernel)
theorem allAtoms_all (ts : List Jvm.Cond) (a : Array Jvm.Value) (st : Jvm.State) : (allAtoms ts).before a st = ts.all (fun c => c.before a st) := by
  induction ts with
  | nil => rfl
  | cons c t ih =>
    show (Jvm.Cond.and c (allAtoms t)).before a st = _
    rw [Jvm.Cond.before_and, ih, List.all_cons]
def words1 : List Jvm.Cond := Jvm.Cond.code x code maxLocals ret :: tables_1
/-- a 'code' word, met by the world's own term for the bytes: nothing is compared byte by byte -/
theorem code_word {y : MethodName} {bytes : ByteArray} {mx : Nat} {rt : Option FieldType} {a : Array Value} {s : State} {m : MethodId} {meth : Method} {c : Code} (h1 : s.methodNamed? y = some m) (h2 : s.vm.method? m = some meth) (h3 : meth.code = some c) (h4 : c.code = bytes)
    (h5 : (c.maxLocals == mx && c.exceptionTable.isEmpty && decide (c.maxStack ≤ mostOperands) && decide (meth.sig.returnType = rt) && !meth.locks && decide (parseMethodDescriptor y.desc = some meth.sig)) = true) : (Jvm.Cond.code y bytes mx rt).before a s = true := by
  simp only [Bool.and_eq_true, beq_iff_eq, Bool.not_eq_true', decide_eq_true_eq] at h5
  obtain ⟨⟨⟨⟨⟨g1, g2⟩, g3⟩, g4⟩, g5⟩, g6⟩ := h5
  simp [Cond.before, Cond.holds, Cond.value, h1, h2, h3, h4, g1, g2, g3, g4, g5, g6]
def isCode : Jvm.Cond → Bool
  | .code _ _ _ _ => true
  | _ => false
theorem all_split {L : List Jvm.Cond} {P : Jvm.Cond → Bool} (h1 : L.all (fun c => isCode c || P c) = true) (h2 : ∀ c ∈ L.filter isCode, P c = true) : L.all P = true := by
  refine List.all_eq_true.mpr fun c hc => ?_
  have h := List.all_eq_true.mp h1 c hc
  rcases Bool.eq_false_or_eq_true (isCode c) with hi | hi
  · exact h2 c (List.mem_filter.mpr ⟨hc, hi⟩)
  · simpa [hi] using h
set_option maxRecDepth 65536 in
theorem w_c0 : (Jvm.Cond.code x code maxLocals ret).before args0 about1 = true := code_word (m := ⟨1, 2⟩) (meth := k1m2) (c := k1c2) (by decide +kernel) rfl rfl rfl (by decide +kernel)
set_option maxRecDepth 65536 in
theorem w_c1 : (Jvm.Cond.code ({ cls := "com/example/swarmfront/swarmfront/swarm/PointSameValuesPinLaw", name := "shifted", desc := "(DZI)D" } : Jvm.MethodName) method_2_code (4 : Nat) (Option.some Jvm.ClassFile.FieldType.double)).before args0 about1 = true := code_word (m := ⟨1, 1⟩) (meth := k1m1) (c := k1c1) (by decide +kernel) rfl rfl rfl (by decide +kernel)
set_option maxRecDepth 65536 in
theorem w_c2 : (Jvm.Cond.code ({ cls := "com/example/swarmfront/swarmfront/swarm/Point", name := "<init>", desc := "([D[DD)V" } : Jvm.MethodName) prog_23_method_1_code (5 : Nat) (Option.none : Option Jvm.ClassFile.FieldType)).before args0 about1 = true := code_word (m := ⟨2, 0⟩) (meth := k2m0) (c := k2c0) (by decide +kernel) rfl rfl rfl (by decide +kernel)
set_option maxRecDepth 65536 in
theorem w_c3 : (Jvm.Cond.code ({ cls := "java/lang/Object", name := "<init>", desc := "()V" } : Jvm.MethodName) object_method_1_code (1 : Nat) (Option.none : Option Jvm.ClassFile.FieldType)).before args0 about1 = true := code_word (m := ⟨0, 0⟩) (meth := k0m0) (c := k0c0) (by decide +kernel) rfl rfl rfl (by decide +kernel)
set_option maxRecDepth 65536 in
theorem w_c4 : (Jvm.Cond.code ({ cls := "com/example/swarmfront/swarmfront/swarm/Point", name := "sameValues", desc := "(Lcom/example/swarmfront/swarmfront/swarm/Point;)Z" } : Jvm.MethodName) prog_23_method_10_code (3 : Nat) (Option.some Jvm.ClassFile.FieldType.boolean)).before args0 about1 = true := code_word (m := ⟨2, 1⟩) (meth := k2m1) (c := k2c1) (by decide +kernel) rfl rfl rfl (by decide +kernel)
def codes1 : List Jvm.Cond := [Jvm.Cond.code x code maxLocals ret, Jvm.Cond.code ({ cls := "com/example/swarmfront/swarmfront/swarm/PointSameValuesPinLaw", name := "shifted", desc := "(DZI)D" } : Jvm.MethodName) method_2_code (4 : Nat) (Option.some Jvm.ClassFile.FieldType.double), Jvm.Cond.code ({ cls := "com/example/swarmfront/swarmfront/swarm/Point", name := "<init>", desc := "([D[DD)V" } : Jvm.MethodName) prog_23_method_1_code (5 : Nat) (Option.none : Option Jvm.ClassFile.FieldType), Jvm.Cond.code ({ cls := "java/lang/Object", name := "<init>", desc := "()V" } : Jvm.MethodName) object_method_1_code (1 : Nat) (Option.none : Option Jvm.ClassFile.FieldType), Jvm.Cond.code ({ cls := "com/example/swarmfront/swarmfront/swarm/Point", name := "sameValues", desc := "(Lcom/example/swarmfront/swarmfront/swarm/Point;)Z" } : Jvm.MethodName) prog_23_method_10_code (3 : Nat) (Option.some Jvm.ClassFile.FieldType.boolean)]
set_option maxRecDepth 65536 in
theorem codes_eq : words1.filter isCode = codes1 := rfl
theorem w_codes : ∀ c ∈ words1.filter isCode, c.before args0 about1 = true := by
  rw [codes_eq]
  intro c hc
  simp only [codes1, List.mem_cons, List.not_mem_nil, or_false] at hc
  rcases hc with rfl | rfl | rfl | rfl | rfl
  · exact w_c0
  · exact w_c1
  · exact w_c2
  · exact w_c3
  · exact w_c4
set_option maxRecDepth 65536 in
theorem w_t1 : (words1.take 24).all (fun c => isCode c || c.before args0 about1) = true := by decide +kernel
set_option maxRecDepth 65536 in
theorem w_t2 : (words1.drop 24).all (fun c => isCode c || c.before args0 about1) = true := by decide +kernel
theorem w_tables : (allAtoms (Jvm.Cond.code x code maxLocals ret :: tables_1)).before args0 about1 = true := by
  rw [allAtoms_all]
  show words1.all (fun c => c.before args0 about1) = true
  refine all_split ?_ w_codes
  rw [← List.take_append_drop 24 words1, List.all_append, w_t1, w_t2]
  rfl
set_option maxRecDepth 65536 in
theorem w_case : (Jvm.Cond.and given_1 narrow_1).before args0 about1 = true := by decide +kernel
theorem w_applies : (headSpec (Jvm.Cond.code x code maxLocals ret :: tables_1) room_1).applies x e0.platform about1 = true :=
  (Spec.applies_iff w_frames).mpr ⟨w_running, w_runnable, w_alone, w_named, w_hears, w_ripe, w_room, w_tables⟩
theorem atStart : AtStart classFile x code maxLocals ret World_1 tables_1 room_1 Calls_1 rest_1 Pre_1 launch0 p0 e0 about1 theMethod args0 below0 :=
  ⟨lists_1, trivial, launch0.admits_env _ _ _, launch0.least_env, fairChoices_fair.cas, fairChoices_fair.clock, w_frames, w_args, w_heap, w_applies, trivial, trivial, w_case⟩
end start1
theorem witness_1 : WitnessClaimed_1 := ⟨start1.p0, start1.e0, start1.about1, start1.theMethod, start1.args0, start1.below0, start1.atStart⟩
end Jvm.Pilot.@@N@@
