import JvmDerived
import JvmDerived.Pilot.@@N@@Statement
import JvmDerived.Pilot.@@N@@Code
set_option linter.unusedVariables false
set_option linter.unusedSimpArgs false
namespace Jvm.Pilot.@@N@@
open Jvm Jvm.ClassFile Sem Op Lib Jvm.Free Jvm.Stand Jvm.LawKit Jvm.RoadKit Bundle Jvm.Pilot.@@N@@.Jvm.D
section Own
/-- from the state U the body comes to its end, and P holds there of what it returns, of the heap and of the places that were written -/
def own_G (tb : Tables) (e : Env) (below : List Frame) (s : State) (P : Option Value → Heap → List Loc → Prop) (k n : Nat) (U : State) : Prop :=
  ∃ s₂ o, Steps tb e below U s₂ ∧ s₂.status = .running ∧ Ended s₂ below o ∧ ∃ v L, o = .returned v ∧ P v s₂.heap L ∧ FrameEnd s o s₂ L k n
theorem own_up {tb : Tables} {e : Env} {below : List Frame} {s : State} {P : Option Value → Heap → List Loc → Prop} {k n : Nat} {U U' : State} (h : own_G tb e below s P k n U') (q : ∀ t, Steps tb e below U' t → Steps tb e below U t) : own_G tb e below s P k n U := by
  obtain ⟨s₂, o, h1, r⟩ := h
  exact ⟨s₂, o, q _ h1, r⟩
variable {p : Program} {l : Launch} {e : Env} {R : Room} {s : State} {m : MethodId} {args : Array Value} {below : List Frame} {meth : Method} {c : Code} {T : State} {locs : List Loc} {cells slots : Nat} {P : Option Value → Heap → List Loc → Prop} {k n : Nat}
theorem own_retI (X : Stand p l e R s m args below meth c T locs cells slots) (hx : p.tables.exec = Jvm.exec) (hlk : meth.locks = false) {t : FieldType} (hret : meth.sig.returnType = some t) (hti : t = .int ∨ t = .boolean ∨ t = .byte ∨ t = .char ∨ t = .short) {pc : Nat} {Ls : Array Slot} {w : Int32} (hn : narrow t (.int w) = .int w) (hd : decode c.code pc = .ok (.ireturn, 1)) (hP : P (some (.int w)) T.heap locs) (hk : cells ≤ k) (hs : slots ≤ n) : own_G p.tables e below s P k n (T.setTop (mkF m pc Ls [.int w])) := by
  obtain ⟨fs, hr, hrun, hended, hW, hsame⟩ := X.leave (v := some (.int w)) (fun h => by rw [hret] at h; cases h) hlk
  exact ⟨_, _, X.ireturnOut hx hret hn hti hd hr, hrun, hended, _, _, rfl, hP, ⟨_, rfl⟩, hW, hsame.mono hk hs⟩
theorem own_retJ (X : Stand p l e R s m args below meth c T locs cells slots) (hx : p.tables.exec = Jvm.exec) (hlk : meth.locks = false) (hret : meth.sig.returnType = some .long) {pc : Nat} {Ls : Array Slot} {w : Int64} (hd : decode c.code pc = .ok (.lreturn, 1)) (hP : P (some (.long w)) T.heap locs) (hk : cells ≤ k) (hs : slots ≤ n) : own_G p.tables e below s P k n (T.setTop (mkF m pc Ls [.long w])) := by
  obtain ⟨fs, hr, hrun, hended, hW, hsame⟩ := X.leave (v := some (.long w)) (fun h => by rw [hret] at h; cases h) hlk
  exact ⟨_, _, X.lreturnOut hx hret hd hr, hrun, hended, _, _, rfl, hP, ⟨_, rfl⟩, hW, hsame.mono hk hs⟩
theorem own_retA (X : Stand p l e R s m args below meth c T locs cells slots) (hx : p.tables.exec = Jvm.exec) (hlk : meth.locks = false) {t : FieldType} (hret : meth.sig.returnType = some t) (ht : t.isReference = true) {pc : Nat} {Ls : Array Slot} {w : Value} (hw : w.isRef = true) (hd : decode c.code pc = .ok (.areturn, 1)) (hP : P (some w) T.heap locs) (hk : cells ≤ k) (hs : slots ≤ n) : own_G p.tables e below s P k n (T.setTop (mkF m pc Ls [w])) := by
  obtain ⟨fs, hr, hrun, hended, hW, hsame⟩ := X.leave (v := some w) (fun h => by rw [hret] at h; cases h) hlk
  exact ⟨_, _, X.areturnOut hx hw hret ht hd hr, hrun, hended, _, _, rfl, hP, ⟨_, rfl⟩, hW, hsame.mono hk hs⟩
theorem own_retV (X : Stand p l e R s m args below meth c T locs cells slots) (hx : p.tables.exec = Jvm.exec) (hlk : meth.locks = false) (hret : meth.sig.returnType = none) {pc : Nat} {Ls : Array Slot} (hd : decode c.code pc = .ok (.return_, 1)) (hP : P none T.heap locs) (hk : cells ≤ k) (hs : slots ≤ n) : own_G p.tables e below s P k n (T.setTop (mkF m pc Ls [])) := by
  obtain ⟨fs, hr, hrun, hended, hW, hsame⟩ := X.leave (v := none) (fun _ => rfl) hlk
  exact ⟨_, _, X.returnOut hx hret hd hr, hrun, hended, _, _, rfl, hP, ⟨_, rfl⟩, hW, hsame.mono hk hs⟩
end Own
def own_min (a b : Int64) : Int64 := if b < a then b else a
def own_max (a b : Int64) : Int64 := if a < b then b else a
def own_maxI (a b : Int32) : Int32 := if a < b then b else a
theorem own_max_toInt (a b : Int64) : (own_max a b).toInt = max a.toInt b.toInt := by
  unfold own_max
  by_cases h : a < b
  · rw [if_pos h]; rw [Int64.lt_iff_toInt_lt] at h; omega
  · rw [if_neg h]; rw [Int64.lt_iff_toInt_lt] at h; omega
theorem own_maxI_toInt (a b : Int32) : (own_maxI a b).toInt = max a.toInt b.toInt := by
  unfold own_maxI
  by_cases h : a < b
  · rw [if_pos h]; rw [Int32.lt_iff_toInt_lt] at h; omega
  · rw [if_neg h]; rw [Int32.lt_iff_toInt_lt] at h; omega
theorem own_one {m mo : Int64} (h : mo = own_max (1 : Int64) m) : 1 ≤ mo.toInt := by
  rw [h, own_max_toInt]
  have : (1 : Int64).toInt = 1 := rfl
  omega
theorem own_oneI {m cn : Int32} (h : cn = own_maxI (1 : Int32) m) : 1 ≤ cn.toInt := by
  rw [h, own_maxI_toInt]
  have : (1 : Int32).toInt = 1 := rfl
  omega
theorem own_pos (x : Int64) : 0 ≤ (x &&& (9223372036854775807 : Int64)).toInt := by
  rw [c_maskL x _ 63 (by decide) (by decide)]
  exact Int.emod_nonneg _ (by decide)
theorem own_min_toInt (a b : Int64) : (own_min a b).toInt = min a.toInt b.toInt := by
  unfold own_min
  by_cases h : b < a
  · rw [if_pos h]; rw [Int64.lt_iff_toInt_lt] at h; omega
  · rw [if_neg h]; rw [Int64.lt_iff_toInt_lt] at h; omega
theorem own_nz {m mo : Int64} (h : mo = own_max (1 : Int64) m) : (mo + (1 : Int64)) ≠ 0 := fun q => by
  have h1 := own_one h
  have h2 := congrArg Int64.toInt q
  have h3 := c_ladd mo 1
  have h4 : (1 : Int64).toInt = 1 := rfl
  have h5 : (0 : Int64).toInt = 0 := rfl
  have h6 := rng64 mo
  omega
theorem own_g1 {m mo x : Int64} (h : mo = own_max (1 : Int64) m) (q : mo = (9223372036854775807 : Int64)) : 0 ≤ (x &&& (9223372036854775807 : Int64)).toInt ∧ (x &&& (9223372036854775807 : Int64)).toInt ≤ mo.toInt := by
  refine ⟨own_pos x, ?_⟩
  have h1 : mo.toInt = 9223372036854775807 := by rw [q]; rfl
  have := rng64 (x &&& (9223372036854775807 : Int64))
  omega
theorem own_g2 {m mo x : Int64} (h : mo = own_max (1 : Int64) m) (q : ¬ mo = (9223372036854775807 : Int64)) :
    0 ≤ ((x &&& (9223372036854775807 : Int64)) - ((x &&& (9223372036854775807 : Int64)) / (mo + (1 : Int64))) * (mo + (1 : Int64))).toInt ∧ ((x &&& (9223372036854775807 : Int64)) - ((x &&& (9223372036854775807 : Int64)) / (mo + (1 : Int64))) * (mo + (1 : Int64))).toInt ≤ mo.toInt := by
  have h1 := own_one h
  have h2 := rng64 mo
  have h3 : ¬ mo.toInt = 9223372036854775807 := fun z => q (Int64.toInt_inj.mp (z.trans rfl))
  have h4 : (mo + (1 : Int64)).toInt = mo.toInt + 1 := by
    have := c_ladd mo 1
    have := rng64 (mo + 1)
    have : (1 : Int64).toInt = 1 := rfl
    omega
  rw [(c_lrem (x &&& (9223372036854775807 : Int64)) (mo + (1 : Int64)) _ h4).1 (own_pos x)]
  have q1 := Int.emod_nonneg (x &&& (9223372036854775807 : Int64)).toInt (show mo.toInt + 1 ≠ 0 by omega)
  have q2 := Int.emod_lt_of_pos (x &&& (9223372036854775807 : Int64)).toInt (show 0 < mo.toInt + 1 by omega)
  omega
theorem own_g3 {m mo x : Int64} (h : mo = own_max (1 : Int64) m) : 0 ≤ (own_min mo (x &&& (4294967295 : Int64))).toInt ∧ (own_min mo (x &&& (4294967295 : Int64))).toInt ≤ mo.toInt := by
  have h1 := own_one h
  have h2 : 0 ≤ (x &&& (4294967295 : Int64)).toInt := by
    rw [c_maskL x _ 32 (by decide) (by decide)]
    exact Int.emod_nonneg _ (by decide)
  rw [own_min_toInt]
  omega
theorem own_lt {g mo : Int64} {cn m : Int32} (hg : 0 ≤ g.toInt ∧ g.toInt ≤ mo.toInt) (hc : cn = own_maxI (1 : Int32) m) (h : g < (cn.toInt64)) : (mo - (cn.toInt64)) < mo - g := by
  have h1 := own_oneI hc
  rw [Int64.lt_iff_toInt_lt] at h ⊢
  rw [c_i2l] at h
  have := c_lsub mo g; have := c_lsub mo cn.toInt64; have := c_i2l cn; have := rng64 mo; have := rng64 g; have := rng64 (mo - g); have := rng64 (mo - cn.toInt64); have := rng32 cn
  omega
theorem own_nlt {g mo : Int64} {cn m : Int32} (hg : 0 ≤ g.toInt ∧ g.toInt ≤ mo.toInt) (hc : cn = own_maxI (1 : Int32) m) (h : ¬ g < (cn.toInt64)) : ¬ (mo - (cn.toInt64)) < mo - g := by
  have h1 := own_oneI hc
  rw [Int64.lt_iff_toInt_lt] at h ⊢
  rw [c_i2l] at h
  have := c_lsub mo g; have := c_lsub mo cn.toInt64; have := c_i2l cn; have := rng64 mo; have := rng64 g; have := rng64 (mo - g); have := rng64 (mo - cn.toInt64); have := rng32 cn
  omega
theorem own_pd0 : parseMethodDescriptor "(JJ)J" = some ⟨[.long, .long], some .long⟩ := by decide +kernel
theorem own_pd1 : parseMethodDescriptor "(II)I" = some ⟨[.int, .int], some .int⟩ := by decide +kernel
theorem own_pd2 : parseMethodDescriptor "(J)V" = some ⟨[.long], none⟩ := by decide +kernel
theorem own_pd3 : parseMethodDescriptor "(I)Z" = some ⟨[.int], some .boolean⟩ := by decide +kernel
theorem own_pd4 : parseMethodDescriptor "()J" = some ⟨[], some .long⟩ := by decide +kernel
theorem own_d1_0 : decode jdk_29_method_66_code 0 = .ok (.lload_n 0, 1) := by decide +kernel
theorem own_d1_1 : decode jdk_29_method_66_code 1 = .ok (.lload_n 2, 1) := by decide +kernel
theorem own_d1_2 : decode jdk_29_method_66_code 2 = .ok (.lcmp, 1) := by decide +kernel
theorem own_d1_3 : decode jdk_29_method_66_code 3 = .ok (.ifCond .lt 7, 3) := by decide +kernel
theorem own_d1_6 : decode jdk_29_method_66_code 6 = .ok (.lload_n 0, 1) := by decide +kernel
theorem own_d1_7 : decode jdk_29_method_66_code 7 = .ok (.goto 4, 3) := by decide +kernel
theorem own_d1_10 : decode jdk_29_method_66_code 10 = .ok (.lload_n 2, 1) := by decide +kernel
theorem own_d1_11 : decode jdk_29_method_66_code 11 = .ok (.lreturn, 1) := by decide +kernel
theorem own_ef_rm1 (m : MethodId) (x0 : Int64) (x1 : Int64) : entryFrame m #[(.long x0), (.long x1)] 4 = mkF m 0 #[.val (.long x0), .second, .val (.long x1), .second] [] := by first | (simp [entryFrame, mkF, argsToLocals, Value.category]; done) | rfl
def own_Q_rm1 (Z : State) (a : Int64) (b : Int64) (h0 : Heap) (n0 : Nat) (v : Option Value) (h : Heap) (L : List Loc) : Prop := v = some (.long (own_max a b)) ∧ Fr n0 L ∧ h = h0
set_option maxRecDepth 65536 in
set_option maxHeartbeats 40000000 in
theorem rm1 (l : Launch) (Z : State) (a0 : Array Value) (hw : ∀ d ∈ tables_1, d.before a0 Z = true) (ws : List Jvm.Cond) (a : Int64) (b : Int64) (h0 : Heap) (n0 : Nat) (Z0 : n0 ≤ h0.size) :
    MetFree l (⟨"java/lang/Math", "max", "(JJ)J"⟩ : MethodName) (head1 (Jvm.Cond.code (⟨"java/lang/Math", "max", "(JJ)J"⟩ : MethodName) jdk_29_method_66_code 4 (some .long) :: ws) ({ frames := 0, cells := 0, slots := 0, locals := 0 } : Room)) (fun aa UU => aa = #[(.long a), (.long b)] ∧ Z.Warmed39 UU.vm ∧ UU.heap = h0) (fun _ _ _ _ _ => True) (fun _ UU oo UU' => ∃ vv LL, oo = .returned vv ∧ own_Q_rm1 Z a b h0 n0 vv UU'.heap LL ∧ FrameEnd UU oo UU' LL ({ frames := 0, cells := 0, slots := 0, locals := 0 } : Room).cells ({ frames := 0, cells := 0, slots := 0, locals := 0 } : Room).slots) := by
  refine MetFree.of_bodySF (Jvm.Free.JP.mathPlain rfl (by decide +kernel)) hisR ?_
  intro p e s m args below meth c s₁ Bd hml0 hP hK
  obtain ⟨rfl, hZ, hh⟩ := hP
  have hx := Bd.exec
  have hby := Bd.bytes
  have hlk := Bd.notSynchronized
  have hml : c.maxLocals = 4 := hml0
  have hown : s.vm.findClass "java/lang/Math" = some m.cls := findClass_of_methodNamed Bd.named
  have hnm := (name_of_methodNamed Bd.named Bd.method).1
  have X0 : Stand p l e ({ frames := 0, cells := 0, slots := 0, locals := 0 } : Room) s m #[(.long a), (.long b)] below meth c s₁ [] 0 0 := Stand.of_body Bd
  have e0 : s₁.heap = h0 := by rw [← hh, Bd.state]; rfl
  have N0 := Fr.nil n0
  show own_G p.tables e below s (own_Q_rm1 Z a b h0 n0) ({ frames := 0, cells := 0, slots := 0, locals := 0 } : Room).cells ({ frames := 0, cells := 0, slots := 0, locals := 0 } : Room).slots (s₁.setTop (entryFrame m #[(.long a), (.long b)] 4))
  refine own_up (U' := s₁.setTop (mkF m 0 #[.val (.long a), .second, .val (.long b), .second] [])) ?_ (fun t k => castTop (own_ef_rm1 m a b) k)
  refine own_up ?_ fun t k => XS.lloadN X0.here hx rfl (hb hby own_d1_0) rfl k
  show own_G p.tables e below s _ _ _ (s₁.setTop (mkF m 1 #[.val (.long a), .second, .val (.long b), .second] [(.long a)]))
  refine own_up ?_ fun t k => XS.lloadN X0.here hx rfl (hb hby own_d1_1) rfl k
  show own_G p.tables e below s _ _ _ (s₁.setTop (mkF m 2 #[.val (.long a), .second, .val (.long b), .second] [(.long b), (.long a)]))
  refine own_up ?_ fun t k => XS.lcmp X0.here hx rfl (hb hby own_d1_2) rfl k
  show own_G p.tables e below s _ _ _ (s₁.setTop (mkF m 3 #[.val (.long a), .second, .val (.long b), .second] [(.int (lcmpW a b))]))
  by_cases hc3_1 : a < b
  · refine own_up ?_ fun t k => XS.ifYes X0.here hx rfl (pc0 := 3) (pc' := 10) rfl (hb hby own_d1_3) rfl ((if0 _ _).trans (tlt ((lw_lt _ _).mpr hc3_1)).1) (by decide) (by decide) k
    show own_G p.tables e below s _ _ _ (s₁.setTop (mkF m 10 #[.val (.long a), .second, .val (.long b), .second] []))
    refine own_up ?_ fun t k => XS.lloadN X0.here hx rfl (hb hby own_d1_10) rfl k
    show own_G p.tables e below s _ _ _ (s₁.setTop (mkF m 11 #[.val (.long a), .second, .val (.long b), .second] [(.long b)]))
    exact own_retJ X0 hx hlk Bd.returns (hb hby own_d1_11) ⟨congrArg (fun z => some (Value.long z)) (by simp only [own_max, if_pos hc3_1]), N0, e0⟩ (by decide) (by decide)
  · refine own_up ?_ fun t k => XS.ifNo X0.here hx rfl (hb hby own_d1_3) rfl ((if0 _ _).trans (flt (fun q => hc3_1 ((lw_lt _ _).mp q))).1) k
    show own_G p.tables e below s _ _ _ (s₁.setTop (mkF m 6 #[.val (.long a), .second, .val (.long b), .second] []))
    refine own_up ?_ fun t k => XS.lloadN X0.here hx rfl (hb hby own_d1_6) rfl k
    show own_G p.tables e below s _ _ _ (s₁.setTop (mkF m 7 #[.val (.long a), .second, .val (.long b), .second] [(.long a)]))
    refine own_up ?_ fun t k => XS.goto X0.here hx rfl (pc0 := 7) (pc' := 11) rfl (hb hby own_d1_7) (by decide) (by decide) k
    show own_G p.tables e below s _ _ _ (s₁.setTop (mkF m 11 #[.val (.long a), .second, .val (.long b), .second] [(.long a)]))
    exact own_retJ X0 hx hlk Bd.returns (hb hby own_d1_11) ⟨congrArg (fun z => some (Value.long z)) (by simp only [own_max, if_neg hc3_1]), N0, e0⟩ (by decide) (by decide)
theorem own_d2_0 : decode jdk_29_method_70_code 0 = .ok (.lload_n 0, 1) := by decide +kernel
theorem own_d2_1 : decode jdk_29_method_70_code 1 = .ok (.lload_n 2, 1) := by decide +kernel
theorem own_d2_2 : decode jdk_29_method_70_code 2 = .ok (.lcmp, 1) := by decide +kernel
theorem own_d2_3 : decode jdk_29_method_70_code 3 = .ok (.ifCond .gt 7, 3) := by decide +kernel
theorem own_d2_6 : decode jdk_29_method_70_code 6 = .ok (.lload_n 0, 1) := by decide +kernel
theorem own_d2_7 : decode jdk_29_method_70_code 7 = .ok (.goto 4, 3) := by decide +kernel
theorem own_d2_10 : decode jdk_29_method_70_code 10 = .ok (.lload_n 2, 1) := by decide +kernel
theorem own_d2_11 : decode jdk_29_method_70_code 11 = .ok (.lreturn, 1) := by decide +kernel
theorem own_ef_rm2 (m : MethodId) (x0 : Int64) (x1 : Int64) : entryFrame m #[(.long x0), (.long x1)] 4 = mkF m 0 #[.val (.long x0), .second, .val (.long x1), .second] [] := by first | (simp [entryFrame, mkF, argsToLocals, Value.category]; done) | rfl
def own_Q_rm2 (Z : State) (a : Int64) (b : Int64) (h0 : Heap) (n0 : Nat) (v : Option Value) (h : Heap) (L : List Loc) : Prop := v = some (.long (own_min a b)) ∧ Fr n0 L ∧ h = h0
set_option maxRecDepth 65536 in
set_option maxHeartbeats 40000000 in
theorem rm2 (l : Launch) (Z : State) (a0 : Array Value) (hw : ∀ d ∈ tables_1, d.before a0 Z = true) (ws : List Jvm.Cond) (a : Int64) (b : Int64) (h0 : Heap) (n0 : Nat) (Z0 : n0 ≤ h0.size) :
    MetFree l (⟨"java/lang/Math", "min", "(JJ)J"⟩ : MethodName) (head1 (Jvm.Cond.code (⟨"java/lang/Math", "min", "(JJ)J"⟩ : MethodName) jdk_29_method_70_code 4 (some .long) :: ws) ({ frames := 0, cells := 0, slots := 0, locals := 0 } : Room)) (fun aa UU => aa = #[(.long a), (.long b)] ∧ Z.Warmed39 UU.vm ∧ UU.heap = h0) (fun _ _ _ _ _ => True) (fun _ UU oo UU' => ∃ vv LL, oo = .returned vv ∧ own_Q_rm2 Z a b h0 n0 vv UU'.heap LL ∧ FrameEnd UU oo UU' LL ({ frames := 0, cells := 0, slots := 0, locals := 0 } : Room).cells ({ frames := 0, cells := 0, slots := 0, locals := 0 } : Room).slots) := by
  refine MetFree.of_bodySF (Jvm.Free.JP.mathPlain rfl (by decide +kernel)) hisR ?_
  intro p e s m args below meth c s₁ Bd hml0 hP hK
  obtain ⟨rfl, hZ, hh⟩ := hP
  have hx := Bd.exec
  have hby := Bd.bytes
  have hlk := Bd.notSynchronized
  have hml : c.maxLocals = 4 := hml0
  have hown : s.vm.findClass "java/lang/Math" = some m.cls := findClass_of_methodNamed Bd.named
  have hnm := (name_of_methodNamed Bd.named Bd.method).1
  have X0 : Stand p l e ({ frames := 0, cells := 0, slots := 0, locals := 0 } : Room) s m #[(.long a), (.long b)] below meth c s₁ [] 0 0 := Stand.of_body Bd
  have e0 : s₁.heap = h0 := by rw [← hh, Bd.state]; rfl
  have N0 := Fr.nil n0
  show own_G p.tables e below s (own_Q_rm2 Z a b h0 n0) ({ frames := 0, cells := 0, slots := 0, locals := 0 } : Room).cells ({ frames := 0, cells := 0, slots := 0, locals := 0 } : Room).slots (s₁.setTop (entryFrame m #[(.long a), (.long b)] 4))
  refine own_up (U' := s₁.setTop (mkF m 0 #[.val (.long a), .second, .val (.long b), .second] [])) ?_ (fun t k => castTop (own_ef_rm2 m a b) k)
  refine own_up ?_ fun t k => XS.lloadN X0.here hx rfl (hb hby own_d2_0) rfl k
  show own_G p.tables e below s _ _ _ (s₁.setTop (mkF m 1 #[.val (.long a), .second, .val (.long b), .second] [(.long a)]))
  refine own_up ?_ fun t k => XS.lloadN X0.here hx rfl (hb hby own_d2_1) rfl k
  show own_G p.tables e below s _ _ _ (s₁.setTop (mkF m 2 #[.val (.long a), .second, .val (.long b), .second] [(.long b), (.long a)]))
  refine own_up ?_ fun t k => XS.lcmp X0.here hx rfl (hb hby own_d2_2) rfl k
  show own_G p.tables e below s _ _ _ (s₁.setTop (mkF m 3 #[.val (.long a), .second, .val (.long b), .second] [(.int (lcmpW a b))]))
  by_cases hc3_2 : b < a
  · refine own_up ?_ fun t k => XS.ifYes X0.here hx rfl (pc0 := 3) (pc' := 10) rfl (hb hby own_d2_3) rfl ((if0 _ _).trans (tlt ((lw_gt _ _).mpr hc3_2)).2.2.1) (by decide) (by decide) k
    show own_G p.tables e below s _ _ _ (s₁.setTop (mkF m 10 #[.val (.long a), .second, .val (.long b), .second] []))
    refine own_up ?_ fun t k => XS.lloadN X0.here hx rfl (hb hby own_d2_10) rfl k
    show own_G p.tables e below s _ _ _ (s₁.setTop (mkF m 11 #[.val (.long a), .second, .val (.long b), .second] [(.long b)]))
    exact own_retJ X0 hx hlk Bd.returns (hb hby own_d2_11) ⟨congrArg (fun z => some (Value.long z)) (by simp only [own_min, if_pos hc3_2]), N0, e0⟩ (by decide) (by decide)
  · refine own_up ?_ fun t k => XS.ifNo X0.here hx rfl (hb hby own_d2_3) rfl ((if0 _ _).trans (flt (fun q => hc3_2 ((lw_gt _ _).mp q))).2.2.1) k
    show own_G p.tables e below s _ _ _ (s₁.setTop (mkF m 6 #[.val (.long a), .second, .val (.long b), .second] []))
    refine own_up ?_ fun t k => XS.lloadN X0.here hx rfl (hb hby own_d2_6) rfl k
    show own_G p.tables e below s _ _ _ (s₁.setTop (mkF m 7 #[.val (.long a), .second, .val (.long b), .second] [(.long a)]))
    refine own_up ?_ fun t k => XS.goto X0.here hx rfl (pc0 := 7) (pc' := 11) rfl (hb hby own_d2_7) (by decide) (by decide) k
    show own_G p.tables e below s _ _ _ (s₁.setTop (mkF m 11 #[.val (.long a), .second, .val (.long b), .second] [(.long a)]))
    exact own_retJ X0 hx hlk Bd.returns (hb hby own_d2_11) ⟨congrArg (fun z => some (Value.long z)) (by simp only [own_min, if_neg hc3_2]), N0, e0⟩ (by decide) (by decide)
theorem own_d3_0 : decode jdk_29_method_65_code 0 = .ok (.iload_n 0, 1) := by decide +kernel
theorem own_d3_1 : decode jdk_29_method_65_code 1 = .ok (.iload_n 1, 1) := by decide +kernel
theorem own_d3_2 : decode jdk_29_method_65_code 2 = .ok (.if_icmp .lt 7, 3) := by decide +kernel
theorem own_d3_5 : decode jdk_29_method_65_code 5 = .ok (.iload_n 0, 1) := by decide +kernel
theorem own_d3_6 : decode jdk_29_method_65_code 6 = .ok (.goto 4, 3) := by decide +kernel
theorem own_d3_9 : decode jdk_29_method_65_code 9 = .ok (.iload_n 1, 1) := by decide +kernel
theorem own_d3_10 : decode jdk_29_method_65_code 10 = .ok (.ireturn, 1) := by decide +kernel
theorem own_ef_rm3 (m : MethodId) (x0 : Int32) (x1 : Int32) : entryFrame m #[(.int x0), (.int x1)] 2 = mkF m 0 #[.val (.int x0), .val (.int x1)] [] := by first | (simp [entryFrame, mkF, argsToLocals, Value.category]; done) | rfl
def own_Q_rm3 (Z : State) (a : Int32) (b : Int32) (h0 : Heap) (n0 : Nat) (v : Option Value) (h : Heap) (L : List Loc) : Prop := v = some (.int (own_maxI a b)) ∧ Fr n0 L ∧ h = h0
set_option maxRecDepth 65536 in
set_option maxHeartbeats 40000000 in
theorem rm3 (l : Launch) (Z : State) (a0 : Array Value) (hw : ∀ d ∈ tables_1, d.before a0 Z = true) (ws : List Jvm.Cond) (a : Int32) (b : Int32) (h0 : Heap) (n0 : Nat) (Z0 : n0 ≤ h0.size) :
    MetFree l (⟨"java/lang/Math", "max", "(II)I"⟩ : MethodName) (head1 (Jvm.Cond.code (⟨"java/lang/Math", "max", "(II)I"⟩ : MethodName) jdk_29_method_65_code 2 (some .int) :: ws) ({ frames := 0, cells := 0, slots := 0, locals := 0 } : Room)) (fun aa UU => aa = #[(.int a), (.int b)] ∧ Z.Warmed39 UU.vm ∧ UU.heap = h0) (fun _ _ _ _ _ => True) (fun _ UU oo UU' => ∃ vv LL, oo = .returned vv ∧ own_Q_rm3 Z a b h0 n0 vv UU'.heap LL ∧ FrameEnd UU oo UU' LL ({ frames := 0, cells := 0, slots := 0, locals := 0 } : Room).cells ({ frames := 0, cells := 0, slots := 0, locals := 0 } : Room).slots) := by
  refine MetFree.of_bodySF (Jvm.Free.JP.mathPlain rfl (by decide +kernel)) hisR ?_
  intro p e s m args below meth c s₁ Bd hml0 hP hK
  obtain ⟨rfl, hZ, hh⟩ := hP
  have hx := Bd.exec
  have hby := Bd.bytes
  have hlk := Bd.notSynchronized
  have hml : c.maxLocals = 2 := hml0
  have hown : s.vm.findClass "java/lang/Math" = some m.cls := findClass_of_methodNamed Bd.named
  have hnm := (name_of_methodNamed Bd.named Bd.method).1
  have X0 : Stand p l e ({ frames := 0, cells := 0, slots := 0, locals := 0 } : Room) s m #[(.int a), (.int b)] below meth c s₁ [] 0 0 := Stand.of_body Bd
  have e0 : s₁.heap = h0 := by rw [← hh, Bd.state]; rfl
  have N0 := Fr.nil n0
  show own_G p.tables e below s (own_Q_rm3 Z a b h0 n0) ({ frames := 0, cells := 0, slots := 0, locals := 0 } : Room).cells ({ frames := 0, cells := 0, slots := 0, locals := 0 } : Room).slots (s₁.setTop (entryFrame m #[(.int a), (.int b)] 2))
  refine own_up (U' := s₁.setTop (mkF m 0 #[.val (.int a), .val (.int b)] [])) ?_ (fun t k => castTop (own_ef_rm3 m a b) k)
  refine own_up ?_ fun t k => XS.iloadN X0.here hx rfl (hb hby own_d3_0) rfl k
  show own_G p.tables e below s _ _ _ (s₁.setTop (mkF m 1 #[.val (.int a), .val (.int b)] [(.int a)]))
  refine own_up ?_ fun t k => XS.iloadN X0.here hx rfl (hb hby own_d3_1) rfl k
  show own_G p.tables e below s _ _ _ (s₁.setTop (mkF m 2 #[.val (.int a), .val (.int b)] [(.int b), (.int a)]))
  by_cases hc2_3 : a < b
  · refine own_up ?_ fun t k => XS.icmpYes X0.here hx rfl (pc0 := 2) (pc' := 9) rfl (hb hby own_d3_2) rfl (tlt hc2_3).1 (by decide) (by decide) k
    show own_G p.tables e below s _ _ _ (s₁.setTop (mkF m 9 #[.val (.int a), .val (.int b)] []))
    refine own_up ?_ fun t k => XS.iloadN X0.here hx rfl (hb hby own_d3_9) rfl k
    show own_G p.tables e below s _ _ _ (s₁.setTop (mkF m 10 #[.val (.int a), .val (.int b)] [(.int b)]))
    exact own_retI X0 hx hlk Bd.returns (by simp) rfl (hb hby own_d3_10) ⟨congrArg (fun z => some (Value.int z)) (by simp only [own_maxI, if_pos hc2_3]), N0, e0⟩ (by decide) (by decide)
  · refine own_up ?_ fun t k => XS.icmpNo X0.here hx rfl (hb hby own_d3_2) rfl (flt hc2_3).1 k
    show own_G p.tables e below s _ _ _ (s₁.setTop (mkF m 5 #[.val (.int a), .val (.int b)] []))
    refine own_up ?_ fun t k => XS.iloadN X0.here hx rfl (hb hby own_d3_5) rfl k
    show own_G p.tables e below s _ _ _ (s₁.setTop (mkF m 6 #[.val (.int a), .val (.int b)] [(.int a)]))
    refine own_up ?_ fun t k => XS.goto X0.here hx rfl (pc0 := 6) (pc' := 10) rfl (hb hby own_d3_6) (by decide) (by decide) k
    show own_G p.tables e below s _ _ _ (s₁.setTop (mkF m 10 #[.val (.int a), .val (.int b)] [(.int a)]))
    exact own_retI X0 hx hlk Bd.returns (by simp) rfl (hb hby own_d3_10) ⟨congrArg (fun z => some (Value.int z)) (by simp only [own_maxI, if_neg hc2_3]), N0, e0⟩ (by decide) (by decide)
theorem own_d4_0 : decode prog_180_method_1_code 0 = .ok (.aload_n 0, 1) := by decide +kernel
theorem own_d4_1 : decode prog_180_method_1_code 1 = .ok (.invokespecial 1, 3) := by decide +kernel
theorem own_d4_4 : decode prog_180_method_1_code 4 = .ok (.aload_n 0, 1) := by decide +kernel
theorem own_d4_5 : decode prog_180_method_1_code 5 = .ok (.lload_n 1, 1) := by decide +kernel
theorem own_d4_6 : decode prog_180_method_1_code 6 = .ok (.putfield 7, 3) := by decide +kernel
theorem own_d4_9 : decode prog_180_method_1_code 9 = .ok (.return_, 1) := by decide +kernel
theorem own_pn0 : plainName "com/example/eventweir/eventweir/PatternStates" = true := by first | (simp [plainName, overriddenIn]; done) | decide +kernel
theorem own_ef_rm4 (m : MethodId) (x0 : Addr) (x1 : Int64) : entryFrame m #[(.ref x0), (.long x1)] 3 = mkF m 0 #[.val (.ref x0), .val (.long x1), .second] [] := by first | (simp [entryFrame, mkF, argsToLocals, Value.category]; done) | rfl
def own_Q_rm4 (Z : State) (a : Addr) (q : Int64) (u : Value) (lv : Int64) (h0 : Heap) (n0 : Nat) (v : Option Value) (h : Heap) (L : List Loc) : Prop := v = none ∧ Fr n0 L ∧ Keep h0 h [a] ∧ Fld Z h a "com/example/eventweir/eventweir/PatternStates" "most" "J" (.long q) ∧ Fld Z h a "com/example/eventweir/eventweir/PatternStates" "live" "J" (.long lv)
set_option maxRecDepth 65536 in
set_option maxHeartbeats 40000000 in
theorem rm4 (l : Launch) (Z : State) (a0 : Array Value) (hw : ∀ d ∈ tables_1, d.before a0 Z = true) (ws : List Jvm.Cond) (a : Addr) (q : Int64) (u : Value) (lv : Int64) (h0 : Heap) (n0 : Nat) (Z0 : n0 ≤ h0.size) (E_a : Exa Z h0 a "com/example/eventweir/eventweir/PatternStates") (F_most : Fld Z h0 a "com/example/eventweir/eventweir/PatternStates" "most" "J" u) (F_live : Fld Z h0 a "com/example/eventweir/eventweir/PatternStates" "live" "J" (.long lv)) (g_a : n0 ≤ a) :
    MetFree l (⟨"com/example/eventweir/eventweir/PatternStates", "<init>", "(J)V"⟩ : MethodName) (head1 (Jvm.Cond.code (⟨"com/example/eventweir/eventweir/PatternStates", "<init>", "(J)V"⟩ : MethodName) prog_180_method_1_code 3 none :: ws) ({ frames := 1, cells := 0, slots := 0, locals := 12 } : Room)) (fun aa UU => aa = #[(.ref a), (.long q)] ∧ Z.Warmed39 UU.vm ∧ UU.heap = h0) (fun _ _ _ _ _ => True) (fun _ UU oo UU' => ∃ vv LL, oo = .returned vv ∧ own_Q_rm4 Z a q u lv h0 n0 vv UU'.heap LL ∧ FrameEnd UU oo UU' LL ({ frames := 1, cells := 0, slots := 0, locals := 12 } : Room).cells ({ frames := 1, cells := 0, slots := 0, locals := 12 } : Room).slots) := by
  refine MetFree.of_bodySF (plainFor_of_name own_pn0) hisR ?_
  intro p e s m args below meth c s₁ Bd hml0 hP hK
  obtain ⟨rfl, hZ, hh⟩ := hP
  have hx := Bd.exec
  have hby := Bd.bytes
  have hlk := Bd.notSynchronized
  have hml : c.maxLocals = 3 := hml0
  have hown : s.vm.findClass "com/example/eventweir/eventweir/PatternStates" = some m.cls := findClass_of_methodNamed Bd.named
  have hnm := (name_of_methodNamed Bd.named Bd.method).1
  have X0 : Stand p l e ({ frames := 1, cells := 0, slots := 0, locals := 12 } : Room) s m #[(.ref a), (.long q)] below meth c s₁ [] 0 0 := Stand.of_body Bd
  have e0 : s₁.heap = h0 := by rw [← hh, Bd.state]; rfl
  have N0 := Fr.nil n0
  show own_G p.tables e below s (own_Q_rm4 Z a q u lv h0 n0) ({ frames := 1, cells := 0, slots := 0, locals := 12 } : Room).cells ({ frames := 1, cells := 0, slots := 0, locals := 12 } : Room).slots (s₁.setTop (entryFrame m #[(.ref a), (.long q)] 3))
  have K0 := Keep.refl h0 [a]
  refine own_up (U' := s₁.setTop (mkF m 0 #[.val (.ref a), .val (.long q), .second] [])) ?_ (fun t k => castTop (own_ef_rm4 m a q) k)
  refine own_up ?_ fun t k => XS.aloadN X0.here hx rfl (hb hby own_d4_0) rfl rfl k
  show own_G p.tables e below s _ _ _ (s₁.setTop (mkF m 1 #[.val (.ref a), .val (.long q), .second] [(.ref a)]))
  obtain ⟨T4, X4, e4, st4⟩ := initO X0 hx hZ hown (hw _ (List.mem_of_getElem? (i := 18) rfl)) (hw _ (List.mem_of_getElem? (i := 19) rfl)) (hw _ (List.mem_of_getElem? (i := 20) rfl)) e0 (g := (mkF m 1 #[.val (.ref a), .val (.long q), .second] [(.ref a)])) rfl (by rw [hml]; rfl) rfl (hb hby own_d4_1) (by decide) (W := 0) (by show 2 * 0 + _ ≤ _; exact Nat.le_of_eq rfl) (by decide)
  refine own_up ?_ st4
  show own_G p.tables e below s _ _ _ (T4.setTop (mkF m 4 #[.val (.ref a), .val (.long q), .second] []))
  refine own_up ?_ fun t k => XS.aloadN X4.here hx rfl (hb hby own_d4_4) rfl rfl k
  show own_G p.tables e below s _ _ _ (T4.setTop (mkF m 5 #[.val (.ref a), .val (.long q), .second] [(.ref a)]))
  refine own_up ?_ fun t k => XS.lloadN X4.here hx rfl (hb hby own_d4_5) rfl k
  show own_G p.tables e below s _ _ _ (T4.setTop (mkF m 6 #[.val (.ref a), .val (.long q), .second] [(.long q), (.ref a)]))
  obtain ⟨T5, h5, X5, e5, W5, st5⟩ := putF X4 hx hZ hown (host := "") (Or.inl (hw _ (List.mem_of_getElem? (i := 21) rfl))) Via.refl e4 F_most E_a (Or.inr ⟨(hw _ (List.mem_of_getElem? (i := 22) rfl)), rfl, hnm⟩) (hw _ (List.mem_of_getElem? (i := 13) rfl)) (ty := .long) (by decide) rfl rfl (g := (mkF m 6 #[.val (.ref a), .val (.long q), .second] [(.long q), (.ref a)])) rfl rfl (hb hby own_d4_6)
  refine own_up ?_ st5
  have E_a_c6 := E_a.wr W5
  have F_live_c6 := F_live.other W5 (Or.inr (slot_ne (Or.inl (hw _ (List.mem_of_getElem? (i := 29) rfl))) (Or.inr (hw _ (List.mem_of_getElem? (i := 22) rfl))) (by decide) (t := .long) (t' := .long) (by decide) (by decide)))
  have F5 := F_most.same W5
  have N5 := Fr.snoc X5 N0 g_a
  have Zs7 : n0 ≤ h5.size := Nat.le_trans Z0 (Keep.of_wr W5).1
  have K8 : Keep h0 h5 [a] := K0.wr W5 (Or.inl (List.mem_of_getElem? (i := 0) rfl))
  show own_G p.tables e below s _ _ _ (T5.setTop (mkF m 9 #[.val (.ref a), .val (.long q), .second] []))
  exact own_retV X5 hx hlk Bd.returns (hb hby own_d4_9) (by rw [e5]; exact ⟨rfl, N5, K8, F5, F_live_c6⟩) (by decide) (by decide)
theorem own_d6_0 : decode prog_180_method_7_code 0 = .ok (.aload_n 0, 1) := by decide +kernel
theorem own_d6_1 : decode prog_180_method_7_code 1 = .ok (.lload_n 1, 1) := by decide +kernel
theorem own_d6_2 : decode prog_180_method_7_code 2 = .ok (.putfield 13, 3) := by decide +kernel
theorem own_d6_5 : decode prog_180_method_7_code 5 = .ok (.return_, 1) := by decide +kernel
theorem own_ef_rm6 (m : MethodId) (x0 : Addr) (x1 : Int64) : entryFrame m #[(.ref x0), (.long x1)] 3 = mkF m 0 #[.val (.ref x0), .val (.long x1), .second] [] := by first | (simp [entryFrame, mkF, argsToLocals, Value.category]; done) | rfl
def own_Q_rm6 (Z : State) (a : Addr) (q : Int64) (mo : Int64) (lv : Int64) (h0 : Heap) (n0 : Nat) (v : Option Value) (h : Heap) (L : List Loc) : Prop := v = none ∧ Fr n0 L ∧ Keep h0 h [a] ∧ Fld Z h a "com/example/eventweir/eventweir/PatternStates" "most" "J" (.long mo) ∧ Fld Z h a "com/example/eventweir/eventweir/PatternStates" "live" "J" (.long q)
set_option maxRecDepth 65536 in
set_option maxHeartbeats 40000000 in
theorem rm6 (l : Launch) (Z : State) (a0 : Array Value) (hw : ∀ d ∈ tables_1, d.before a0 Z = true) (ws : List Jvm.Cond) (a : Addr) (q : Int64) (mo : Int64) (lv : Int64) (h0 : Heap) (n0 : Nat) (Z0 : n0 ≤ h0.size) (E_a : Exa Z h0 a "com/example/eventweir/eventweir/PatternStates") (F_most : Fld Z h0 a "com/example/eventweir/eventweir/PatternStates" "most" "J" (.long mo)) (F_live : Fld Z h0 a "com/example/eventweir/eventweir/PatternStates" "live" "J" (.long lv)) (g_a : n0 ≤ a) :
    MetFree l (⟨"com/example/eventweir/eventweir/PatternStates", "reset", "(J)V"⟩ : MethodName) (head1 (Jvm.Cond.code (⟨"com/example/eventweir/eventweir/PatternStates", "reset", "(J)V"⟩ : MethodName) prog_180_method_7_code 3 none :: ws) ({ frames := 0, cells := 0, slots := 0, locals := 0 } : Room)) (fun aa UU => aa = #[(.ref a), (.long q)] ∧ Z.Warmed39 UU.vm ∧ UU.heap = h0) (fun _ _ _ _ _ => True) (fun _ UU oo UU' => ∃ vv LL, oo = .returned vv ∧ own_Q_rm6 Z a q mo lv h0 n0 vv UU'.heap LL ∧ FrameEnd UU oo UU' LL ({ frames := 0, cells := 0, slots := 0, locals := 0 } : Room).cells ({ frames := 0, cells := 0, slots := 0, locals := 0 } : Room).slots) := by
  refine MetFree.of_bodySF (plainFor_of_name own_pn0) hisR ?_
  intro p e s m args below meth c s₁ Bd hml0 hP hK
  obtain ⟨rfl, hZ, hh⟩ := hP
  have hx := Bd.exec
  have hby := Bd.bytes
  have hlk := Bd.notSynchronized
  have hml : c.maxLocals = 3 := hml0
  have hown : s.vm.findClass "com/example/eventweir/eventweir/PatternStates" = some m.cls := findClass_of_methodNamed Bd.named
  have hnm := (name_of_methodNamed Bd.named Bd.method).1
  have X0 : Stand p l e ({ frames := 0, cells := 0, slots := 0, locals := 0 } : Room) s m #[(.ref a), (.long q)] below meth c s₁ [] 0 0 := Stand.of_body Bd
  have e0 : s₁.heap = h0 := by rw [← hh, Bd.state]; rfl
  have N0 := Fr.nil n0
  show own_G p.tables e below s (own_Q_rm6 Z a q mo lv h0 n0) ({ frames := 0, cells := 0, slots := 0, locals := 0 } : Room).cells ({ frames := 0, cells := 0, slots := 0, locals := 0 } : Room).slots (s₁.setTop (entryFrame m #[(.ref a), (.long q)] 3))
  have K0 := Keep.refl h0 [a]
  refine own_up (U' := s₁.setTop (mkF m 0 #[.val (.ref a), .val (.long q), .second] [])) ?_ (fun t k => castTop (own_ef_rm6 m a q) k)
  refine own_up ?_ fun t k => XS.aloadN X0.here hx rfl (hb hby own_d6_0) rfl rfl k
  show own_G p.tables e below s _ _ _ (s₁.setTop (mkF m 1 #[.val (.ref a), .val (.long q), .second] [(.ref a)]))
  refine own_up ?_ fun t k => XS.lloadN X0.here hx rfl (hb hby own_d6_1) rfl k
  show own_G p.tables e below s _ _ _ (s₁.setTop (mkF m 2 #[.val (.ref a), .val (.long q), .second] [(.long q), (.ref a)]))
  obtain ⟨T9, h9, X9, e9, W9, st9⟩ := putF X0 hx hZ hown (host := "") (Or.inl (hw _ (List.mem_of_getElem? (i := 28) rfl))) Via.refl e0 F_live E_a (Or.inl (hw _ (List.mem_of_getElem? (i := 29) rfl))) (hw _ (List.mem_of_getElem? (i := 13) rfl)) (ty := .long) (by decide) rfl rfl (g := (mkF m 2 #[.val (.ref a), .val (.long q), .second] [(.long q), (.ref a)])) rfl rfl (hb hby own_d6_2)
  refine own_up ?_ st9
  have E_a_c10 := E_a.wr W9
  have F_most_c10 := F_most.other W9 (Or.inr (slot_ne (Or.inr (hw _ (List.mem_of_getElem? (i := 22) rfl))) (Or.inl (hw _ (List.mem_of_getElem? (i := 29) rfl))) (by decide) (t := .long) (t' := .long) (by decide) (by decide)))
  have F9 := F_live.same W9
  have N9 := Fr.snoc X9 N0 g_a
  have Zs11 : n0 ≤ h9.size := Nat.le_trans Z0 (Keep.of_wr W9).1
  have K12 : Keep h0 h9 [a] := K0.wr W9 (Or.inl (List.mem_of_getElem? (i := 0) rfl))
  show own_G p.tables e below s _ _ _ (T9.setTop (mkF m 5 #[.val (.ref a), .val (.long q), .second] []))
  exact own_retV X9 hx hlk Bd.returns (hb hby own_d6_5) (by rw [e9]; exact ⟨rfl, N9, K12, F_most_c10, F9⟩) (by decide) (by decide)
theorem own_d7_0 : decode prog_180_method_5_code 0 = .ok (.aload_n 0, 1) := by decide +kernel
theorem own_d7_1 : decode prog_180_method_5_code 1 = .ok (.getfield 13, 3) := by decide +kernel
theorem own_d7_4 : decode prog_180_method_5_code 4 = .ok (.aload_n 0, 1) := by decide +kernel
theorem own_d7_5 : decode prog_180_method_5_code 5 = .ok (.getfield 7, 3) := by decide +kernel
theorem own_d7_8 : decode prog_180_method_5_code 8 = .ok (.iload_n 1, 1) := by decide +kernel
theorem own_d7_9 : decode prog_180_method_5_code 9 = .ok (.i2l, 1) := by decide +kernel
theorem own_d7_10 : decode prog_180_method_5_code 10 = .ok (.lsub, 1) := by decide +kernel
theorem own_d7_11 : decode prog_180_method_5_code 11 = .ok (.lcmp, 1) := by decide +kernel
theorem own_d7_12 : decode prog_180_method_5_code 12 = .ok (.ifCond .le 5, 3) := by decide +kernel
theorem own_d7_15 : decode prog_180_method_5_code 15 = .ok (.iconst 0, 1) := by decide +kernel
theorem own_d7_16 : decode prog_180_method_5_code 16 = .ok (.ireturn, 1) := by decide +kernel
theorem own_d7_17 : decode prog_180_method_5_code 17 = .ok (.aload_n 0, 1) := by decide +kernel
theorem own_d7_18 : decode prog_180_method_5_code 18 = .ok (.dup, 1) := by decide +kernel
theorem own_d7_19 : decode prog_180_method_5_code 19 = .ok (.getfield 13, 3) := by decide +kernel
theorem own_d7_22 : decode prog_180_method_5_code 22 = .ok (.iload_n 1, 1) := by decide +kernel
theorem own_d7_23 : decode prog_180_method_5_code 23 = .ok (.i2l, 1) := by decide +kernel
theorem own_d7_24 : decode prog_180_method_5_code 24 = .ok (.ladd, 1) := by decide +kernel
theorem own_d7_25 : decode prog_180_method_5_code 25 = .ok (.putfield 13, 3) := by decide +kernel
theorem own_d7_28 : decode prog_180_method_5_code 28 = .ok (.iconst 1, 1) := by decide +kernel
theorem own_d7_29 : decode prog_180_method_5_code 29 = .ok (.ireturn, 1) := by decide +kernel
theorem own_ef_rm7 (m : MethodId) (x0 : Addr) (x1 : Int32) : entryFrame m #[(.ref x0), (.int x1)] 2 = mkF m 0 #[.val (.ref x0), .val (.int x1)] [] := by first | (simp [entryFrame, mkF, argsToLocals, Value.category]; done) | rfl
def own_Q_rm7 (Z : State) (a : Addr) (c1 : Int32) (mo : Int64) (lv : Int64) (h0 : Heap) (n0 : Nat) (v : Option Value) (h : Heap) (L : List Loc) : Prop := v = some (.int (if (mo - (c1.toInt64)) < lv then (0 : Int32) else (1 : Int32))) ∧ Fr n0 L ∧ Keep h0 h [a] ∧ Fld Z h a "com/example/eventweir/eventweir/PatternStates" "most" "J" (.long mo) ∧ Fld Z h a "com/example/eventweir/eventweir/PatternStates" "live" "J" (.long (if (mo - (c1.toInt64)) < lv then lv else (lv + (c1.toInt64))))
set_option maxRecDepth 65536 in
set_option maxHeartbeats 40000000 in
theorem rm7 (l : Launch) (Z : State) (a0 : Array Value) (hw : ∀ d ∈ tables_1, d.before a0 Z = true) (ws : List Jvm.Cond) (a : Addr) (c1 : Int32) (mo : Int64) (lv : Int64) (h0 : Heap) (n0 : Nat) (Z0 : n0 ≤ h0.size) (E_a : Exa Z h0 a "com/example/eventweir/eventweir/PatternStates") (F_most : Fld Z h0 a "com/example/eventweir/eventweir/PatternStates" "most" "J" (.long mo)) (F_live : Fld Z h0 a "com/example/eventweir/eventweir/PatternStates" "live" "J" (.long lv)) (g_a : n0 ≤ a) :
    MetFree l (⟨"com/example/eventweir/eventweir/PatternStates", "start", "(I)Z"⟩ : MethodName) (head1 (Jvm.Cond.code (⟨"com/example/eventweir/eventweir/PatternStates", "start", "(I)Z"⟩ : MethodName) prog_180_method_5_code 2 (some .boolean) :: ws) ({ frames := 0, cells := 0, slots := 0, locals := 0 } : Room)) (fun aa UU => aa = #[(.ref a), (.int c1)] ∧ Z.Warmed39 UU.vm ∧ UU.heap = h0) (fun _ _ _ _ _ => True) (fun _ UU oo UU' => ∃ vv LL, oo = .returned vv ∧ own_Q_rm7 Z a c1 mo lv h0 n0 vv UU'.heap LL ∧ FrameEnd UU oo UU' LL ({ frames := 0, cells := 0, slots := 0, locals := 0 } : Room).cells ({ frames := 0, cells := 0, slots := 0, locals := 0 } : Room).slots) := by
  refine MetFree.of_bodySF (plainFor_of_name own_pn0) hisR ?_
  intro p e s m args below meth c s₁ Bd hml0 hP hK
  obtain ⟨rfl, hZ, hh⟩ := hP
  have hx := Bd.exec
  have hby := Bd.bytes
  have hlk := Bd.notSynchronized
  have hml : c.maxLocals = 2 := hml0
  have hown : s.vm.findClass "com/example/eventweir/eventweir/PatternStates" = some m.cls := findClass_of_methodNamed Bd.named
  have hnm := (name_of_methodNamed Bd.named Bd.method).1
  have X0 : Stand p l e ({ frames := 0, cells := 0, slots := 0, locals := 0 } : Room) s m #[(.ref a), (.int c1)] below meth c s₁ [] 0 0 := Stand.of_body Bd
  have e0 : s₁.heap = h0 := by rw [← hh, Bd.state]; rfl
  have N0 := Fr.nil n0
  show own_G p.tables e below s (own_Q_rm7 Z a c1 mo lv h0 n0) ({ frames := 0, cells := 0, slots := 0, locals := 0 } : Room).cells ({ frames := 0, cells := 0, slots := 0, locals := 0 } : Room).slots (s₁.setTop (entryFrame m #[(.ref a), (.int c1)] 2))
  have K0 := Keep.refl h0 [a]
  refine own_up (U' := s₁.setTop (mkF m 0 #[.val (.ref a), .val (.int c1)] [])) ?_ (fun t k => castTop (own_ef_rm7 m a c1) k)
  refine own_up ?_ fun t k => XS.aloadN X0.here hx rfl (hb hby own_d7_0) rfl rfl k
  show own_G p.tables e below s _ _ _ (s₁.setTop (mkF m 1 #[.val (.ref a), .val (.int c1)] [(.ref a)]))
  obtain ⟨T13, X13, e13, st13⟩ := getF X0 hx hZ hown (host := "") (Or.inl (hw _ (List.mem_of_getElem? (i := 28) rfl))) Via.refl e0 F_live (g := (mkF m 1 #[.val (.ref a), .val (.int c1)] [(.ref a)])) rfl rfl (hb hby own_d7_1)
  refine own_up ?_ st13
  show own_G p.tables e below s _ _ _ (T13.setTop (mkF m 4 #[.val (.ref a), .val (.int c1)] [(.long lv)]))
  refine own_up ?_ fun t k => XS.aloadN X13.here hx rfl (hb hby own_d7_4) rfl rfl k
  show own_G p.tables e below s _ _ _ (T13.setTop (mkF m 5 #[.val (.ref a), .val (.int c1)] [(.ref a), (.long lv)]))
  obtain ⟨T14, X14, e14, st14⟩ := getF X13 hx hZ hown (host := "") (Or.inl (hw _ (List.mem_of_getElem? (i := 21) rfl))) Via.refl e13 F_most (g := (mkF m 5 #[.val (.ref a), .val (.int c1)] [(.ref a), (.long lv)])) rfl rfl (hb hby own_d7_5)
  refine own_up ?_ st14
  show own_G p.tables e below s _ _ _ (T14.setTop (mkF m 8 #[.val (.ref a), .val (.int c1)] [(.long mo), (.long lv)]))
  refine own_up ?_ fun t k => XS.iloadN X14.here hx rfl (hb hby own_d7_8) rfl k
  show own_G p.tables e below s _ _ _ (T14.setTop (mkF m 9 #[.val (.ref a), .val (.int c1)] [(.int c1), (.long mo), (.long lv)]))
  refine own_up ?_ fun t k => XS.i2l X14.here hx rfl (hb hby own_d7_9) rfl k
  show own_G p.tables e below s _ _ _ (T14.setTop (mkF m 10 #[.val (.ref a), .val (.int c1)] [(.long (c1.toInt64)), (.long mo), (.long lv)]))
  refine own_up ?_ fun t k => XS.lsub X14.here hx rfl (hb hby own_d7_10) rfl k
  show own_G p.tables e below s _ _ _ (T14.setTop (mkF m 11 #[.val (.ref a), .val (.int c1)] [(.long (mo - (c1.toInt64))), (.long lv)]))
  refine own_up ?_ fun t k => XS.lcmp X14.here hx rfl (hb hby own_d7_11) rfl k
  show own_G p.tables e below s _ _ _ (T14.setTop (mkF m 12 #[.val (.ref a), .val (.int c1)] [(.int (lcmpW lv (mo - (c1.toInt64))))]))
  by_cases hc12_15 : (mo - (c1.toInt64)) < lv
  · refine own_up ?_ fun t k => XS.ifNo X14.here hx rfl (hb hby own_d7_12) rfl ((if0 _ _).trans (tlt ((lw_gt _ _).mpr hc12_15)).2.2.2) k
    show own_G p.tables e below s _ _ _ (T14.setTop (mkF m 15 #[.val (.ref a), .val (.int c1)] []))
    refine own_up ?_ fun t k => XS.iconst X14.here hx rfl (hb hby own_d7_15) k
    show own_G p.tables e below s _ _ _ (T14.setTop (mkF m 16 #[.val (.ref a), .val (.int c1)] [(.int (0 : Int32))]))
    exact own_retI X14 hx hlk Bd.returns (by simp) rfl (hb hby own_d7_16) (by rw [e14]; exact ⟨by simp only [if_pos hc12_15], N0, K0, F_most, by simpa only [if_pos hc12_15] using F_live⟩) (by decide) (by decide)
  · refine own_up ?_ fun t k => XS.ifYes X14.here hx rfl (pc0 := 12) (pc' := 17) rfl (hb hby own_d7_12) rfl ((if0 _ _).trans (flt (fun q => hc12_15 ((lw_gt _ _).mp q))).2.2.2) (by decide) (by decide) k
    show own_G p.tables e below s _ _ _ (T14.setTop (mkF m 17 #[.val (.ref a), .val (.int c1)] []))
    refine own_up ?_ fun t k => XS.aloadN X14.here hx rfl (hb hby own_d7_17) rfl rfl k
    show own_G p.tables e below s _ _ _ (T14.setTop (mkF m 18 #[.val (.ref a), .val (.int c1)] [(.ref a)]))
    refine own_up ?_ fun t k => XS.dup X14.here hx rfl (hb hby own_d7_18) rfl rfl k
    show own_G p.tables e below s _ _ _ (T14.setTop (mkF m 19 #[.val (.ref a), .val (.int c1)] [(.ref a), (.ref a)]))
    obtain ⟨T16, X16, e16, st16⟩ := getF X14 hx hZ hown (host := "") (Or.inl (hw _ (List.mem_of_getElem? (i := 28) rfl))) Via.refl e14 F_live (g := (mkF m 19 #[.val (.ref a), .val (.int c1)] [(.ref a), (.ref a)])) rfl rfl (hb hby own_d7_19)
    refine own_up ?_ st16
    show own_G p.tables e below s _ _ _ (T16.setTop (mkF m 22 #[.val (.ref a), .val (.int c1)] [(.long lv), (.ref a)]))
    refine own_up ?_ fun t k => XS.iloadN X16.here hx rfl (hb hby own_d7_22) rfl k
    show own_G p.tables e below s _ _ _ (T16.setTop (mkF m 23 #[.val (.ref a), .val (.int c1)] [(.int c1), (.long lv), (.ref a)]))
    refine own_up ?_ fun t k => XS.i2l X16.here hx rfl (hb hby own_d7_23) rfl k
    show own_G p.tables e below s _ _ _ (T16.setTop (mkF m 24 #[.val (.ref a), .val (.int c1)] [(.long (c1.toInt64)), (.long lv), (.ref a)]))
    refine own_up ?_ fun t k => XS.ladd X16.here hx rfl (hb hby own_d7_24) rfl k
    show own_G p.tables e below s _ _ _ (T16.setTop (mkF m 25 #[.val (.ref a), .val (.int c1)] [(.long (lv + (c1.toInt64))), (.ref a)]))
    obtain ⟨T17, h17, X17, e17, W17, st17⟩ := putF X16 hx hZ hown (host := "") (Or.inl (hw _ (List.mem_of_getElem? (i := 28) rfl))) Via.refl e16 F_live E_a (Or.inl (hw _ (List.mem_of_getElem? (i := 29) rfl))) (hw _ (List.mem_of_getElem? (i := 13) rfl)) (ty := .long) (by decide) rfl rfl (g := (mkF m 25 #[.val (.ref a), .val (.int c1)] [(.long (lv + (c1.toInt64))), (.ref a)])) rfl rfl (hb hby own_d7_25)
    refine own_up ?_ st17
    have E_a_c18 := E_a.wr W17
    have F_most_c18 := F_most.other W17 (Or.inr (slot_ne (Or.inr (hw _ (List.mem_of_getElem? (i := 22) rfl))) (Or.inl (hw _ (List.mem_of_getElem? (i := 29) rfl))) (by decide) (t := .long) (t' := .long) (by decide) (by decide)))
    have F17 := F_live.same W17
    have N17 := Fr.snoc X17 N0 g_a
    have Zs19 : n0 ≤ h17.size := Nat.le_trans Z0 (Keep.of_wr W17).1
    have K20 : Keep h0 h17 [a] := K0.wr W17 (Or.inl (List.mem_of_getElem? (i := 0) rfl))
    show own_G p.tables e below s _ _ _ (T17.setTop (mkF m 28 #[.val (.ref a), .val (.int c1)] []))
    refine own_up ?_ fun t k => XS.iconst X17.here hx rfl (hb hby own_d7_28) k
    show own_G p.tables e below s _ _ _ (T17.setTop (mkF m 29 #[.val (.ref a), .val (.int c1)] [(.int (1 : Int32))]))
    exact own_retI X17 hx hlk Bd.returns (by simp) rfl (hb hby own_d7_29) (by rw [e17]; exact ⟨by simp only [if_neg hc12_15], N17, K20, F_most_c18, by simpa only [if_neg hc12_15] using F17⟩) (by decide) (by decide)
theorem own_d8_0 : decode prog_180_method_3_code 0 = .ok (.aload_n 0, 1) := by decide +kernel
theorem own_d8_1 : decode prog_180_method_3_code 1 = .ok (.getfield 13, 3) := by decide +kernel
theorem own_d8_4 : decode prog_180_method_3_code 4 = .ok (.lreturn, 1) := by decide +kernel
theorem own_ef_rm8 (m : MethodId) (x0 : Addr) : entryFrame m #[(.ref x0)] 1 = mkF m 0 #[.val (.ref x0)] [] := by first | (simp [entryFrame, mkF, argsToLocals, Value.category]; done) | rfl
def own_Q_rm8 (Z : State) (a : Addr) (lv : Int64) (h0 : Heap) (n0 : Nat) (v : Option Value) (h : Heap) (L : List Loc) : Prop := v = some (.long lv) ∧ Fr n0 L ∧ h = h0
set_option maxRecDepth 65536 in
set_option maxHeartbeats 40000000 in
theorem rm8 (l : Launch) (Z : State) (a0 : Array Value) (hw : ∀ d ∈ tables_1, d.before a0 Z = true) (ws : List Jvm.Cond) (a : Addr) (lv : Int64) (h0 : Heap) (n0 : Nat) (Z0 : n0 ≤ h0.size) (F_live : Fld Z h0 a "com/example/eventweir/eventweir/PatternStates" "live" "J" (.long lv)) :
    MetFree l (⟨"com/example/eventweir/eventweir/PatternStates", "live", "()J"⟩ : MethodName) (head1 (Jvm.Cond.code (⟨"com/example/eventweir/eventweir/PatternStates", "live", "()J"⟩ : MethodName) prog_180_method_3_code 1 (some .long) :: ws) ({ frames := 0, cells := 0, slots := 0, locals := 0 } : Room)) (fun aa UU => aa = #[(.ref a)] ∧ Z.Warmed39 UU.vm ∧ UU.heap = h0) (fun _ _ _ _ _ => True) (fun _ UU oo UU' => ∃ vv LL, oo = .returned vv ∧ own_Q_rm8 Z a lv h0 n0 vv UU'.heap LL ∧ FrameEnd UU oo UU' LL ({ frames := 0, cells := 0, slots := 0, locals := 0 } : Room).cells ({ frames := 0, cells := 0, slots := 0, locals := 0 } : Room).slots) := by
  refine MetFree.of_bodySF (plainFor_of_name own_pn0) hisR ?_
  intro p e s m args below meth c s₁ Bd hml0 hP hK
  obtain ⟨rfl, hZ, hh⟩ := hP
  have hx := Bd.exec
  have hby := Bd.bytes
  have hlk := Bd.notSynchronized
  have hml : c.maxLocals = 1 := hml0
  have hown : s.vm.findClass "com/example/eventweir/eventweir/PatternStates" = some m.cls := findClass_of_methodNamed Bd.named
  have hnm := (name_of_methodNamed Bd.named Bd.method).1
  have X0 : Stand p l e ({ frames := 0, cells := 0, slots := 0, locals := 0 } : Room) s m #[(.ref a)] below meth c s₁ [] 0 0 := Stand.of_body Bd
  have e0 : s₁.heap = h0 := by rw [← hh, Bd.state]; rfl
  have N0 := Fr.nil n0
  show own_G p.tables e below s (own_Q_rm8 Z a lv h0 n0) ({ frames := 0, cells := 0, slots := 0, locals := 0 } : Room).cells ({ frames := 0, cells := 0, slots := 0, locals := 0 } : Room).slots (s₁.setTop (entryFrame m #[(.ref a)] 1))
  refine own_up (U' := s₁.setTop (mkF m 0 #[.val (.ref a)] [])) ?_ (fun t k => castTop (own_ef_rm8 m a) k)
  refine own_up ?_ fun t k => XS.aloadN X0.here hx rfl (hb hby own_d8_0) rfl rfl k
  show own_G p.tables e below s _ _ _ (s₁.setTop (mkF m 1 #[.val (.ref a)] [(.ref a)]))
  obtain ⟨T21, X21, e21, st21⟩ := getF X0 hx hZ hown (host := "") (Or.inl (hw _ (List.mem_of_getElem? (i := 28) rfl))) Via.refl e0 F_live (g := (mkF m 1 #[.val (.ref a)] [(.ref a)])) rfl rfl (hb hby own_d8_1)
  refine own_up ?_ st21
  show own_G p.tables e below s _ _ _ (T21.setTop (mkF m 4 #[.val (.ref a)] [(.long lv)]))
  exact own_retJ X21 hx hlk Bd.returns (hb hby own_d8_4) ⟨rfl, N0, e21⟩ (by decide) (by decide)
theorem own_d9_0 : decode prog_180_method_2_code 0 = .ok (.aload_n 0, 1) := by decide +kernel
theorem own_d9_1 : decode prog_180_method_2_code 1 = .ok (.getfield 7, 3) := by decide +kernel
theorem own_d9_4 : decode prog_180_method_2_code 4 = .ok (.lreturn, 1) := by decide +kernel
theorem own_ef_rm9 (m : MethodId) (x0 : Addr) : entryFrame m #[(.ref x0)] 1 = mkF m 0 #[.val (.ref x0)] [] := by first | (simp [entryFrame, mkF, argsToLocals, Value.category]; done) | rfl
def own_Q_rm9 (Z : State) (a : Addr) (lv : Int64) (h0 : Heap) (n0 : Nat) (v : Option Value) (h : Heap) (L : List Loc) : Prop := v = some (.long lv) ∧ Fr n0 L ∧ h = h0
set_option maxRecDepth 65536 in
set_option maxHeartbeats 40000000 in
theorem rm9 (l : Launch) (Z : State) (a0 : Array Value) (hw : ∀ d ∈ tables_1, d.before a0 Z = true) (ws : List Jvm.Cond) (a : Addr) (lv : Int64) (h0 : Heap) (n0 : Nat) (Z0 : n0 ≤ h0.size) (F_most : Fld Z h0 a "com/example/eventweir/eventweir/PatternStates" "most" "J" (.long lv)) :
    MetFree l (⟨"com/example/eventweir/eventweir/PatternStates", "most", "()J"⟩ : MethodName) (head1 (Jvm.Cond.code (⟨"com/example/eventweir/eventweir/PatternStates", "most", "()J"⟩ : MethodName) prog_180_method_2_code 1 (some .long) :: ws) ({ frames := 0, cells := 0, slots := 0, locals := 0 } : Room)) (fun aa UU => aa = #[(.ref a)] ∧ Z.Warmed39 UU.vm ∧ UU.heap = h0) (fun _ _ _ _ _ => True) (fun _ UU oo UU' => ∃ vv LL, oo = .returned vv ∧ own_Q_rm9 Z a lv h0 n0 vv UU'.heap LL ∧ FrameEnd UU oo UU' LL ({ frames := 0, cells := 0, slots := 0, locals := 0 } : Room).cells ({ frames := 0, cells := 0, slots := 0, locals := 0 } : Room).slots) := by
  refine MetFree.of_bodySF (plainFor_of_name own_pn0) hisR ?_
  intro p e s m args below meth c s₁ Bd hml0 hP hK
  obtain ⟨rfl, hZ, hh⟩ := hP
  have hx := Bd.exec
  have hby := Bd.bytes
  have hlk := Bd.notSynchronized
  have hml : c.maxLocals = 1 := hml0
  have hown : s.vm.findClass "com/example/eventweir/eventweir/PatternStates" = some m.cls := findClass_of_methodNamed Bd.named
  have hnm := (name_of_methodNamed Bd.named Bd.method).1
  have X0 : Stand p l e ({ frames := 0, cells := 0, slots := 0, locals := 0 } : Room) s m #[(.ref a)] below meth c s₁ [] 0 0 := Stand.of_body Bd
  have e0 : s₁.heap = h0 := by rw [← hh, Bd.state]; rfl
  have N0 := Fr.nil n0
  show own_G p.tables e below s (own_Q_rm9 Z a lv h0 n0) ({ frames := 0, cells := 0, slots := 0, locals := 0 } : Room).cells ({ frames := 0, cells := 0, slots := 0, locals := 0 } : Room).slots (s₁.setTop (entryFrame m #[(.ref a)] 1))
  refine own_up (U' := s₁.setTop (mkF m 0 #[.val (.ref a)] [])) ?_ (fun t k => castTop (own_ef_rm9 m a) k)
  refine own_up ?_ fun t k => XS.aloadN X0.here hx rfl (hb hby own_d9_0) rfl rfl k
  show own_G p.tables e below s _ _ _ (s₁.setTop (mkF m 1 #[.val (.ref a)] [(.ref a)]))
  obtain ⟨T22, X22, e22, st22⟩ := getF X0 hx hZ hown (host := "") (Or.inl (hw _ (List.mem_of_getElem? (i := 21) rfl))) Via.refl e0 F_most (g := (mkF m 1 #[.val (.ref a)] [(.ref a)])) rfl rfl (hb hby own_d9_1)
  refine own_up ?_ st22
  show own_G p.tables e below s _ _ _ (T22.setTop (mkF m 4 #[.val (.ref a)] [(.long lv)]))
  exact own_retJ X22 hx hlk Bd.returns (hb hby own_d9_4) ⟨rfl, N0, e22⟩ (by decide) (by decide)
theorem own_pn1 : plainName "com/example/eventweir/eventweir/PatternStatesStartPinLaw" = true := by first | (simp [plainName, overriddenIn]; done) | decide +kernel
theorem own_ef_rm0 (m : MethodId) (x0 : Int64) (x1 : Int64) (x2 : Int32) (x3 : Int32) : entryFrame m #[(.long x0), (.long x1), (.int x2), (.int x3)] maxLocals = mkF m 0 #[.val (.long x0), .second, .val (.long x1), .second, .val (.int x2), .val (.int x3), .unset, .unset, .unset, .unset, .unset, .unset, .unset, .unset, .unset, .unset, .unset, .unset, .unset, .unset] [] := by first | (simp [entryFrame, mkF, argsToLocals, Value.category, maxLocals]; done) | rfl
def own_Q_rm0 (Z : State) (q1 : Int64) (q2 : Int64) (p3 : Int32) (p4 : Int32) (h0 : Heap) (n0 : Nat) (v : Option Value) (h : Heap) (L : List Loc) : Prop := v = some (.int (1 : Int32)) ∧ Fr n0 L
set_option maxRecDepth 65536 in
set_option maxHeartbeats 40000000 in
theorem rm0 (l : Launch) (Z : State) (a0 : Array Value) (hw : ∀ d ∈ tables_1, d.before a0 Z = true) (ws : List Jvm.Cond) (q1 : Int64) (q2 : Int64) (p3 : Int32) (p4 : Int32) (h0 : Heap) (n0 : Nat) (Z0 : n0 ≤ h0.size) :
    MetFree l x (head1 (Jvm.Cond.code x code maxLocals ret :: ws) room_1) (fun aa UU => aa = #[(.long q1), (.long q2), (.int p3), (.int p4)] ∧ Z.Warmed39 UU.vm ∧ UU.heap = h0) (fun _ _ _ _ _ => True) (fun _ UU oo UU' => ∃ vv LL, oo = .returned vv ∧ own_Q_rm0 Z q1 q2 p3 p4 h0 n0 vv UU'.heap LL ∧ FrameEnd UU oo UU' LL room_1.cells room_1.slots) := by
  refine MetFree.of_bodySF (plainFor_of_name own_pn1) hisR ?_
  intro p e s m args below meth c s₁ Bd hml0 hP hK
  obtain ⟨rfl, hZ, hh⟩ := hP
  have hx := Bd.exec
  have hby := Bd.bytes
  have hlk := Bd.notSynchronized
  have hml : c.maxLocals = 20 := hml0
  have hown : s.vm.findClass "com/example/eventweir/eventweir/PatternStatesStartPinLaw" = some m.cls := findClass_of_methodNamed Bd.named
  have hnm := (name_of_methodNamed Bd.named Bd.method).1
  have X0 : Stand p l e room_1 s m #[(.long q1), (.long q2), (.int p3), (.int p4)] below meth c s₁ [] 0 0 := Stand.of_body Bd
  have e0 : s₁.heap = h0 := by rw [← hh, Bd.state]; rfl
  have N0 := Fr.nil n0
  show own_G p.tables e below s (own_Q_rm0 Z q1 q2 p3 p4 h0 n0) room_1.cells room_1.slots (s₁.setTop (entryFrame m #[(.long q1), (.long q2), (.int p3), (.int p4)] maxLocals))
  refine own_up (U' := s₁.setTop (mkF m 0 #[.val (.long q1), .second, .val (.long q2), .second, .val (.int p3), .val (.int p4), .unset, .unset, .unset, .unset, .unset, .unset, .unset, .unset, .unset, .unset, .unset, .unset, .unset, .unset] [])) ?_ (fun t k => castTop (own_ef_rm0 m q1 q2 p3 p4) k)
  refine own_up ?_ fun t k => XS.lconst X0.here hx rfl (hb hby at_0) k
  show own_G p.tables e below s _ _ _ (s₁.setTop (mkF m 1 #[.val (.long q1), .second, .val (.long q2), .second, .val (.int p3), .val (.int p4), .unset, .unset, .unset, .unset, .unset, .unset, .unset, .unset, .unset, .unset, .unset, .unset, .unset, .unset] [(.long (1 : Int64))]))
  refine own_up ?_ fun t k => XS.lloadN X0.here hx rfl (hb hby at_1) rfl k
  show own_G p.tables e below s _ _ _ (s₁.setTop (mkF m 2 #[.val (.long q1), .second, .val (.long q2), .second, .val (.int p3), .val (.int p4), .unset, .unset, .unset, .unset, .unset, .unset, .unset, .unset, .unset, .unset, .unset, .unset, .unset, .unset] [(.long q1), (.long (1 : Int64))]))
  obtain ⟨_, _, ⟨T23, L23, k23, n23⟩, -, X23, ⟨Lc23, hQ23, l23, y23, z23⟩, st23⟩ := Jvm.LawKit.callS X0 hx (y := (⟨"java/lang/Math", "max", "(JJ)J"⟩ : MethodName)) hown (mvT hZ (hw _ (List.mem_of_getElem? (i := 0) rfl))) (mvT hZ (hw _ (List.mem_of_getElem? (i := 1) rfl))) (mvT hZ (hw _ (List.mem_of_getElem? (i := 2) rfl))) (mvT hZ (hw _ (List.mem_of_getElem? (i := 3) rfl))) (by decide) (backOf (W := 0) (rm1 l Z a0 hw [] (1 : Int64) q1  h0 n0 Z0 ) hZ (hw _ (List.mem_of_getElem? (i := 3) rfl)) (hw _ (List.mem_of_getElem? (i := 2) rfl)) (by decide) (by decide)) (g := (mkF m 2 #[.val (.long q1), .second, .val (.long q2), .second, .val (.int p3), .val (.int p4), .unset, .unset, .unset, .unset, .unset, .unset, .unset, .unset, .unset, .unset, .unset, .unset, .unset, .unset] [(.long q1), (.long (1 : Int64))])) rfl (by rw [hml]; rfl) (argsL := [(.long (1 : Int64)), (.long q1)]) (rest := []) (lenOf own_pd0 rfl) rfl (by show 2 * 0 + _ ≤ _; exact Nat.le_of_eq rfl) (hb hby at_2) (fun _ _ => ⟨rfl, e0, (by decide : 0 + 0 ≤ _), (by decide : 0 + 0 ≤ _)⟩)
  dsimp only [Pt.U, Pt.locs, Pt.cells, Pt.slots] at X23 l23 y23 z23 st23 hQ23
  subst l23 y23 z23
  obtain ⟨rfl, Nq23, e23⟩ := hQ23
  have N23 := Fr.app N0 Nq23
  refine own_up ?_ (st23)
  show own_G p.tables e below s _ _ _ (T23.setTop (mkF m 5 #[.val (.long q1), .second, .val (.long q2), .second, .val (.int p3), .val (.int p4), .unset, .unset, .unset, .unset, .unset, .unset, .unset, .unset, .unset, .unset, .unset, .unset, .unset, .unset] [(.long (own_max (1 : Int64) q1))]))
  refine own_up ?_ fun t k => XS.lstore X23.here hx rfl (hb hby at_5) rfl (l' := #[.val (.long q1), .second, .val (.long q2), .second, .val (.int p3), .val (.int p4), .val (.long (own_max (1 : Int64) q1)), .second, .unset, .unset, .unset, .unset, .unset, .unset, .unset, .unset, .unset, .unset, .unset, .unset]) rfl k
  show own_G p.tables e below s _ _ _ (T23.setTop (mkF m 7 #[.val (.long q1), .second, .val (.long q2), .second, .val (.int p3), .val (.int p4), .val (.long (own_max (1 : Int64) q1)), .second, .unset, .unset, .unset, .unset, .unset, .unset, .unset, .unset, .unset, .unset, .unset, .unset] []))
  obtain ⟨mo, h_mo⟩ : ∃ z, z = (own_max (1 : Int64) q1) := ⟨_, rfl⟩
  rw [← h_mo]
  show own_G p.tables e below s _ _ _ (T23.setTop (mkF m 7 #[.val (.long q1), .second, .val (.long q2), .second, .val (.int p3), .val (.int p4), .val (.long mo), .second, .unset, .unset, .unset, .unset, .unset, .unset, .unset, .unset, .unset, .unset, .unset, .unset] []))
  refine own_up ?_ fun t k => XS.iload X23.here hx rfl (hb hby at_7) rfl k
  show own_G p.tables e below s _ _ _ (T23.setTop (mkF m 9 #[.val (.long q1), .second, .val (.long q2), .second, .val (.int p3), .val (.int p4), .val (.long mo), .second, .unset, .unset, .unset, .unset, .unset, .unset, .unset, .unset, .unset, .unset, .unset, .unset] [(.int p4)]))
  refine own_up ?_ fun t k => XS.iconst X23.here hx rfl (hb hby at_9) k
  show own_G p.tables e below s _ _ _ (T23.setTop (mkF m 10 #[.val (.long q1), .second, .val (.long q2), .second, .val (.int p3), .val (.int p4), .val (.long mo), .second, .unset, .unset, .unset, .unset, .unset, .unset, .unset, .unset, .unset, .unset, .unset, .unset] [(.int (1 : Int32)), (.int p4)]))
  refine own_up ?_ fun t k => XS.iand X23.here hx rfl (hb hby at_10) rfl k
  show own_G p.tables e below s _ _ _ (T23.setTop (mkF m 11 #[.val (.long q1), .second, .val (.long q2), .second, .val (.int p3), .val (.int p4), .val (.long mo), .second, .unset, .unset, .unset, .unset, .unset, .unset, .unset, .unset, .unset, .unset, .unset, .unset] [(.int (p4 &&& (1 : Int32)))]))
  have J61 : ∀ (T : State) (locs : List Loc) (g : Int64) (o1 o2 : Slot), Stand p l e room_1 s m #[(.long q1), (.long q2), (.int p3), (.int p4)] below meth c T locs 0 0 → T.heap = h0 → Fr n0 locs → (o1 = .unset ∧ o2 = .unset ∨ ∃ y : Int64, o1 = .val (.long y) ∧ o2 = .second) → (0 ≤ g.toInt ∧ g.toInt ≤ mo.toInt) → own_G p.tables e below s (own_Q_rm0 Z q1 q2 p3 p4 h0 n0) room_1.cells room_1.slots (T.setTop (mkF m 61 #[.val (.long q1), .second, .val (.long q2), .second, .val (.int p3), .val (.int p4), .val (.long mo), .second, .val (.long g), .second, o1, o2, .unset, .unset, .unset, .unset, .unset, .unset, .unset, .unset] [])) := by
    intro TJ locs g o1 o2 XJ eJ NJ hoo hg
    refine own_up (U' := TJ.setTop (mkF m 68 #[.val (.long q1), .second, .val (.long q2), .second, .val (.int p3), .val (.int p4), .val (.long mo), .second, .val (.long g), .second, .val (.long (mo - g)), .second, .unset, .unset, .unset, .unset, .unset, .unset, .unset, .unset] [])) ?_ (fun t k => ?_)
    rotate_left
    · rcases hoo with ⟨rfl, rfl⟩ | ⟨y, rfl, rfl⟩
      · show Steps p.tables e below (TJ.setTop (mkF m 61 #[.val (.long q1), .second, .val (.long q2), .second, .val (.int p3), .val (.int p4), .val (.long mo), .second, .val (.long g), .second, .unset, .unset, .unset, .unset, .unset, .unset, .unset, .unset, .unset, .unset] [])) t
        refine XS.lload XJ.here hx rfl (hb hby at_61) rfl ?_
        show Steps p.tables e below (TJ.setTop (mkF m 63 #[.val (.long q1), .second, .val (.long q2), .second, .val (.int p3), .val (.int p4), .val (.long mo), .second, .val (.long g), .second, .unset, .unset, .unset, .unset, .unset, .unset, .unset, .unset, .unset, .unset] [(.long mo)])) t
        refine XS.lload XJ.here hx rfl (hb hby at_63) rfl ?_
        show Steps p.tables e below (TJ.setTop (mkF m 65 #[.val (.long q1), .second, .val (.long q2), .second, .val (.int p3), .val (.int p4), .val (.long mo), .second, .val (.long g), .second, .unset, .unset, .unset, .unset, .unset, .unset, .unset, .unset, .unset, .unset] [(.long g), (.long mo)])) t
        refine XS.lsub XJ.here hx rfl (hb hby at_65) rfl ?_
        show Steps p.tables e below (TJ.setTop (mkF m 66 #[.val (.long q1), .second, .val (.long q2), .second, .val (.int p3), .val (.int p4), .val (.long mo), .second, .val (.long g), .second, .unset, .unset, .unset, .unset, .unset, .unset, .unset, .unset, .unset, .unset] [(.long (mo - g))])) t
        refine XS.lstore XJ.here hx rfl (hb hby at_66) rfl (l' := #[.val (.long q1), .second, .val (.long q2), .second, .val (.int p3), .val (.int p4), .val (.long mo), .second, .val (.long g), .second, .val (.long (mo - g)), .second, .unset, .unset, .unset, .unset, .unset, .unset, .unset, .unset]) rfl ?_
        show Steps p.tables e below (TJ.setTop (mkF m 68 #[.val (.long q1), .second, .val (.long q2), .second, .val (.int p3), .val (.int p4), .val (.long mo), .second, .val (.long g), .second, .val (.long (mo - g)), .second, .unset, .unset, .unset, .unset, .unset, .unset, .unset, .unset] [])) t
        exact k
      · show Steps p.tables e below (TJ.setTop (mkF m 61 #[.val (.long q1), .second, .val (.long q2), .second, .val (.int p3), .val (.int p4), .val (.long mo), .second, .val (.long g), .second, .val (.long y), .second, .unset, .unset, .unset, .unset, .unset, .unset, .unset, .unset] [])) t
        refine XS.lload XJ.here hx rfl (hb hby at_61) rfl ?_
        show Steps p.tables e below (TJ.setTop (mkF m 63 #[.val (.long q1), .second, .val (.long q2), .second, .val (.int p3), .val (.int p4), .val (.long mo), .second, .val (.long g), .second, .val (.long y), .second, .unset, .unset, .unset, .unset, .unset, .unset, .unset, .unset] [(.long mo)])) t
        refine XS.lload XJ.here hx rfl (hb hby at_63) rfl ?_
        show Steps p.tables e below (TJ.setTop (mkF m 65 #[.val (.long q1), .second, .val (.long q2), .second, .val (.int p3), .val (.int p4), .val (.long mo), .second, .val (.long g), .second, .val (.long y), .second, .unset, .unset, .unset, .unset, .unset, .unset, .unset, .unset] [(.long g), (.long mo)])) t
        refine XS.lsub XJ.here hx rfl (hb hby at_65) rfl ?_
        show Steps p.tables e below (TJ.setTop (mkF m 66 #[.val (.long q1), .second, .val (.long q2), .second, .val (.int p3), .val (.int p4), .val (.long mo), .second, .val (.long g), .second, .val (.long y), .second, .unset, .unset, .unset, .unset, .unset, .unset, .unset, .unset] [(.long (mo - g))])) t
        refine XS.lstore XJ.here hx rfl (hb hby at_66) rfl (l' := #[.val (.long q1), .second, .val (.long q2), .second, .val (.int p3), .val (.int p4), .val (.long mo), .second, .val (.long g), .second, .val (.long (mo - g)), .second, .unset, .unset, .unset, .unset, .unset, .unset, .unset, .unset]) rfl ?_
        show Steps p.tables e below (TJ.setTop (mkF m 68 #[.val (.long q1), .second, .val (.long q2), .second, .val (.int p3), .val (.int p4), .val (.long mo), .second, .val (.long g), .second, .val (.long (mo - g)), .second, .unset, .unset, .unset, .unset, .unset, .unset, .unset, .unset] [])) t
        exact k
    · show own_G p.tables e below s _ _ _ (TJ.setTop (mkF m 68 #[.val (.long q1), .second, .val (.long q2), .second, .val (.int p3), .val (.int p4), .val (.long mo), .second, .val (.long g), .second, .val (.long (mo - g)), .second, .unset, .unset, .unset, .unset, .unset, .unset, .unset, .unset] []))
      obtain ⟨l0, h_l0⟩ : ∃ z, z = (mo - g) := ⟨_, rfl⟩
      rw [← h_l0]
      show own_G p.tables e below s _ _ _ (TJ.setTop (mkF m 68 #[.val (.long q1), .second, .val (.long q2), .second, .val (.int p3), .val (.int p4), .val (.long mo), .second, .val (.long g), .second, .val (.long l0), .second, .unset, .unset, .unset, .unset, .unset, .unset, .unset, .unset] []))
      refine own_up ?_ fun t k => XS.iconst XJ.here hx rfl (hb hby at_68) k
      show own_G p.tables e below s _ _ _ (TJ.setTop (mkF m 69 #[.val (.long q1), .second, .val (.long q2), .second, .val (.int p3), .val (.int p4), .val (.long mo), .second, .val (.long g), .second, .val (.long l0), .second, .unset, .unset, .unset, .unset, .unset, .unset, .unset, .unset] [(.int (1 : Int32))]))
      refine own_up ?_ fun t k => XS.iload XJ.here hx rfl (hb hby at_69) rfl k
      show own_G p.tables e below s _ _ _ (TJ.setTop (mkF m 71 #[.val (.long q1), .second, .val (.long q2), .second, .val (.int p3), .val (.int p4), .val (.long mo), .second, .val (.long g), .second, .val (.long l0), .second, .unset, .unset, .unset, .unset, .unset, .unset, .unset, .unset] [(.int p3), (.int (1 : Int32))]))
      refine own_up ?_ fun t k => XJ.ldcInt hx hown (mvT hZ (hw _ (List.mem_of_getElem? (i := 8) rfl))) (g := (mkF m 71 #[.val (.long q1), .second, .val (.long q2), .second, .val (.int p3), .val (.int p4), .val (.long mo), .second, .val (.long g), .second, .val (.long l0), .second, .unset, .unset, .unset, .unset, .unset, .unset, .unset, .unset] [(.int p3), (.int (1 : Int32))])) rfl (hb hby at_71) _ k
      show own_G p.tables e below s _ _ _ (TJ.setTop (mkF m 73 #[.val (.long q1), .second, .val (.long q2), .second, .val (.int p3), .val (.int p4), .val (.long mo), .second, .val (.long g), .second, .val (.long l0), .second, .unset, .unset, .unset, .unset, .unset, .unset, .unset, .unset] [(.int (2147483647 : Int32)), (.int p3), (.int (1 : Int32))]))
      refine own_up ?_ fun t k => XS.iand XJ.here hx rfl (hb hby at_73) rfl k
      show own_G p.tables e below s _ _ _ (TJ.setTop (mkF m 74 #[.val (.long q1), .second, .val (.long q2), .second, .val (.int p3), .val (.int p4), .val (.long mo), .second, .val (.long g), .second, .val (.long l0), .second, .unset, .unset, .unset, .unset, .unset, .unset, .unset, .unset] [(.int (p3 &&& (2147483647 : Int32))), (.int (1 : Int32))]))
      obtain ⟨_, _, ⟨T24, L24, k24, n24⟩, -, X24, ⟨Lc24, hQ24, l24, y24, z24⟩, st24⟩ := Jvm.LawKit.callS XJ hx (y := (⟨"java/lang/Math", "max", "(II)I"⟩ : MethodName)) hown (mvT hZ (hw _ (List.mem_of_getElem? (i := 9) rfl))) (mvT hZ (hw _ (List.mem_of_getElem? (i := 10) rfl))) (mvT hZ (hw _ (List.mem_of_getElem? (i := 2) rfl))) (mvT hZ (hw _ (List.mem_of_getElem? (i := 11) rfl))) (by decide) (backOf (W := 0) (rm3 l Z a0 hw [] (1 : Int32) (p3 &&& (2147483647 : Int32))  h0 n0 Z0 ) hZ (hw _ (List.mem_of_getElem? (i := 11) rfl)) (hw _ (List.mem_of_getElem? (i := 2) rfl)) (by decide) (by decide)) (g := (mkF m 74 #[.val (.long q1), .second, .val (.long q2), .second, .val (.int p3), .val (.int p4), .val (.long mo), .second, .val (.long g), .second, .val (.long l0), .second, .unset, .unset, .unset, .unset, .unset, .unset, .unset, .unset] [(.int (p3 &&& (2147483647 : Int32))), (.int (1 : Int32))])) rfl (by rw [hml]; rfl) (argsL := [(.int (1 : Int32)), (.int (p3 &&& (2147483647 : Int32)))]) (rest := []) (lenOf own_pd1 rfl) rfl (by show 2 * 0 + _ ≤ _; exact Nat.le_of_eq rfl) (hb hby at_74) (fun _ _ => ⟨rfl, eJ, (by decide : 0 + 0 ≤ _), (by decide : 0 + 0 ≤ _)⟩)
      dsimp only [Pt.U, Pt.locs, Pt.cells, Pt.slots] at X24 l24 y24 z24 st24 hQ24
      subst l24 y24 z24
      obtain ⟨rfl, Nq24, e24⟩ := hQ24
      have N24 := Fr.app NJ Nq24
      refine own_up ?_ (st24)
      show own_G p.tables e below s _ _ _ (T24.setTop (mkF m 77 #[.val (.long q1), .second, .val (.long q2), .second, .val (.int p3), .val (.int p4), .val (.long mo), .second, .val (.long g), .second, .val (.long l0), .second, .unset, .unset, .unset, .unset, .unset, .unset, .unset, .unset] [(.int (own_maxI (1 : Int32) (p3 &&& (2147483647 : Int32))))]))
      refine own_up ?_ fun t k => XS.istore X24.here hx rfl (hb hby at_77) rfl (l' := #[.val (.long q1), .second, .val (.long q2), .second, .val (.int p3), .val (.int p4), .val (.long mo), .second, .val (.long g), .second, .val (.long l0), .second, .val (.int (own_maxI (1 : Int32) (p3 &&& (2147483647 : Int32)))), .unset, .unset, .unset, .unset, .unset, .unset, .unset]) rfl k
      show own_G p.tables e below s _ _ _ (T24.setTop (mkF m 79 #[.val (.long q1), .second, .val (.long q2), .second, .val (.int p3), .val (.int p4), .val (.long mo), .second, .val (.long g), .second, .val (.long l0), .second, .val (.int (own_maxI (1 : Int32) (p3 &&& (2147483647 : Int32)))), .unset, .unset, .unset, .unset, .unset, .unset, .unset] []))
      obtain ⟨cn, h_cn⟩ : ∃ z, z = (own_maxI (1 : Int32) (p3 &&& (2147483647 : Int32))) := ⟨_, rfl⟩
      rw [← h_cn]
      show own_G p.tables e below s _ _ _ (T24.setTop (mkF m 79 #[.val (.long q1), .second, .val (.long q2), .second, .val (.int p3), .val (.int p4), .val (.long mo), .second, .val (.long g), .second, .val (.long l0), .second, .val (.int cn), .unset, .unset, .unset, .unset, .unset, .unset, .unset] []))
      obtain ⟨T25, h25, X25, e25, E25, A25, D25, -, st25⟩ := newO X24 hx hZ hown (hw _ (List.mem_of_getElem? (i := 12) rfl)) (hw _ (List.mem_of_getElem? (i := 13) rfl)) (hw _ (List.mem_of_getElem? (i := 14) rfl)) e24 (g := (mkF m 79 #[.val (.long q1), .second, .val (.long q2), .second, .val (.int p3), .val (.int p4), .val (.long mo), .second, .val (.long g), .second, .val (.long l0), .second, .val (.int cn), .unset, .unset, .unset, .unset, .unset, .unset, .unset] [])) rfl (hb hby at_79) (by decide) (by decide)
      obtain ⟨b25, g25⟩ : ∃ z, z = h0.size := ⟨_, rfl⟩
      rw [← g25] at A25 D25 st25
      refine own_up ?_ st25
      have ge26 : n0 ≤ b25 := Nat.le_trans Z0 (Nat.le_of_eq g25.symm)
      have Zs28 : n0 ≤ h25.size := Nat.le_trans Z0 E25.1
      have F_most_b25 : Fld Z h25 b25 "com/example/eventweir/eventweir/PatternStates" "most" "J" (.long (0 : Int64)) := D25 (Or.inr (hw _ (List.mem_of_getElem? (i := 22) rfl))) (ty := .long) (by decide)
      have F_live_b25 : Fld Z h25 b25 "com/example/eventweir/eventweir/PatternStates" "live" "J" (.long (0 : Int64)) := D25 (Or.inl (hw _ (List.mem_of_getElem? (i := 29) rfl))) (ty := .long) (by decide)
      show own_G p.tables e below s _ _ _ (T25.setTop (mkF m 82 #[.val (.long q1), .second, .val (.long q2), .second, .val (.int p3), .val (.int p4), .val (.long mo), .second, .val (.long g), .second, .val (.long l0), .second, .val (.int cn), .unset, .unset, .unset, .unset, .unset, .unset, .unset] [(.ref b25)]))
      refine own_up ?_ fun t k => XS.dup X25.here hx rfl (hb hby at_82) rfl rfl k
      show own_G p.tables e below s _ _ _ (T25.setTop (mkF m 83 #[.val (.long q1), .second, .val (.long q2), .second, .val (.int p3), .val (.int p4), .val (.long mo), .second, .val (.long g), .second, .val (.long l0), .second, .val (.int cn), .unset, .unset, .unset, .unset, .unset, .unset, .unset] [(.ref b25), (.ref b25)]))
      refine own_up ?_ fun t k => XS.lload X25.here hx rfl (hb hby at_83) rfl k
      show own_G p.tables e below s _ _ _ (T25.setTop (mkF m 85 #[.val (.long q1), .second, .val (.long q2), .second, .val (.int p3), .val (.int p4), .val (.long mo), .second, .val (.long g), .second, .val (.long l0), .second, .val (.int cn), .unset, .unset, .unset, .unset, .unset, .unset, .unset] [(.long mo), (.ref b25), (.ref b25)]))
      obtain ⟨_, _, ⟨T29, L29, k29, n29⟩, -, X29, ⟨Lc29, hQ29, l29, y29, z29⟩, st29⟩ := X25.specialBack hx (y := (⟨"com/example/eventweir/eventweir/PatternStates", "<init>", "(J)V"⟩ : MethodName)) rfl hown (mvT hZ (hw _ (List.mem_of_getElem? (i := 15) rfl))) (mvT hZ (hw _ (List.mem_of_getElem? (i := 16) rfl))) (mvT hZ (hw _ (List.mem_of_getElem? (i := 17) rfl))) (by decide) (backOf (W := 1) (rm4 l Z a0 hw [] b25 mo (.long (0 : Int64)) (0 : Int64) h25 n0 Zs28 A25 F_most_b25 F_live_b25 ge26) hZ (hw _ (List.mem_of_getElem? (i := 17) rfl)) (hw _ (List.mem_of_getElem? (i := 14) rfl)) (by decide) (by decide)) (g := (mkF m 85 #[.val (.long q1), .second, .val (.long q2), .second, .val (.int p3), .val (.int p4), .val (.long mo), .second, .val (.long g), .second, .val (.long l0), .second, .val (.int cn), .unset, .unset, .unset, .unset, .unset, .unset, .unset] [(.long mo), (.ref b25), (.ref b25)])) rfl (by rw [hml]; rfl) (Steps.refl _) (a := b25) (argsL := [(.long mo)]) (rest := [(.ref b25)]) (lenOf own_pd2 rfl) rfl (by show 2 * 0 + _ ≤ _; exact Nat.le_of_eq rfl) (hb hby at_85) (fun _ _ => ⟨rfl, e25, (by decide : 1 + 0 ≤ _), (by decide : 2 + 0 ≤ _)⟩)
      dsimp only [Pt.U, Pt.locs, Pt.cells, Pt.slots] at X29 l29 y29 z29 st29 hQ29
      subst l29 y29 z29
      obtain ⟨rfl, Nq29, Kq29, Fq29_0, Fq29_1⟩ := hQ29
      have N29 := Fr.app N24 Nq29
      have A25_c30 := A25.keep Kq29
      have Zs31 : n0 ≤ T29.heap.size := Nat.le_trans Zs28 Kq29.1
      refine own_up ?_ (fun t k => st29.trans k)
      show own_G p.tables e below s _ _ _ (T29.setTop (mkF m 88 #[.val (.long q1), .second, .val (.long q2), .second, .val (.int p3), .val (.int p4), .val (.long mo), .second, .val (.long g), .second, .val (.long l0), .second, .val (.int cn), .unset, .unset, .unset, .unset, .unset, .unset, .unset] [(.ref b25)]))
      refine own_up ?_ fun t k => XS.astore X29.here hx rfl (hb hby at_88) rfl rfl (l' := #[.val (.long q1), .second, .val (.long q2), .second, .val (.int p3), .val (.int p4), .val (.long mo), .second, .val (.long g), .second, .val (.long l0), .second, .val (.int cn), .val (.ref b25), .unset, .unset, .unset, .unset, .unset, .unset]) rfl k
      show own_G p.tables e below s _ _ _ (T29.setTop (mkF m 90 #[.val (.long q1), .second, .val (.long q2), .second, .val (.int p3), .val (.int p4), .val (.long mo), .second, .val (.long g), .second, .val (.long l0), .second, .val (.int cn), .val (.ref b25), .unset, .unset, .unset, .unset, .unset, .unset] []))
      refine own_up ?_ fun t k => XS.aload X29.here hx rfl (hb hby at_90) rfl rfl k
      show own_G p.tables e below s _ _ _ (T29.setTop (mkF m 92 #[.val (.long q1), .second, .val (.long q2), .second, .val (.int p3), .val (.int p4), .val (.long mo), .second, .val (.long g), .second, .val (.long l0), .second, .val (.int cn), .val (.ref b25), .unset, .unset, .unset, .unset, .unset, .unset] [(.ref b25)]))
      refine own_up ?_ fun t k => XS.lload X29.here hx rfl (hb hby at_92) rfl k
      show own_G p.tables e below s _ _ _ (T29.setTop (mkF m 94 #[.val (.long q1), .second, .val (.long q2), .second, .val (.int p3), .val (.int p4), .val (.long mo), .second, .val (.long g), .second, .val (.long l0), .second, .val (.int cn), .val (.ref b25), .unset, .unset, .unset, .unset, .unset, .unset] [(.long l0), (.ref b25)]))
      obtain ⟨cq32, kq32, q32a, q32b, q32c⟩ := isOf hZ rfl A25_c30
      obtain ⟨_, _, ⟨T32, L32, k32, n32⟩, -, X32, ⟨Lc32, hQ32, l32, y32, z32⟩, st32⟩ := X29.virtualBack hx (y := (⟨"com/example/eventweir/eventweir/PatternStates", "reset", "(J)V"⟩ : MethodName)) (z := (⟨"com/example/eventweir/eventweir/PatternStates", "reset", "(J)V"⟩ : MethodName)) hown (mvT hZ (hw _ (List.mem_of_getElem? (i := 23) rfl))) (mvT hZ (hw _ (List.mem_of_getElem? (i := 24) rfl))) (notFace_of_selects (args := #[]) (mvT hZ (hw _ (List.mem_of_getElem? (i := 26) rfl)))) (mvT hZ (hw _ (List.mem_of_getElem? (i := 26) rfl))) (mvT hZ (hw _ (List.mem_of_getElem? (i := 25) rfl))) (by decide) (backOf (W := 0) (rm6 l Z a0 hw [] b25 l0 mo (0 : Int64) T29.heap n0 Zs31 A25_c30 Fq29_0 Fq29_1 ge26) hZ (hw _ (List.mem_of_getElem? (i := 27) rfl)) (hw _ (List.mem_of_getElem? (i := 14) rfl)) (by decide) (by decide)) q32a q32c (g := (mkF m 94 #[.val (.long q1), .second, .val (.long q2), .second, .val (.int p3), .val (.int p4), .val (.long mo), .second, .val (.long g), .second, .val (.long l0), .second, .val (.int cn), .val (.ref b25), .unset, .unset, .unset, .unset, .unset, .unset] [(.long l0), (.ref b25)])) rfl (by rw [hml]; rfl) (Steps.refl _) (argsL := [(.long l0)]) (rest := []) (lenOf own_pd2 rfl) rfl (by show 2 * 0 + _ ≤ _; exact Nat.le_of_eq rfl) (hb hby at_94) (fun _ _ => ⟨rfl, rfl, (by decide : 1 + 0 ≤ _), (by decide : 2 + 0 ≤ _)⟩)
      dsimp only [Pt.U, Pt.locs, Pt.cells, Pt.slots] at X32 l32 y32 z32 st32 hQ32
      subst l32 y32 z32
      obtain ⟨rfl, Nq32, Kq32, Fq32_0, Fq32_1⟩ := hQ32
      have N32 := Fr.app N29 Nq32
      have A25_c33 := A25_c30.keep Kq32
      have Zs34 : n0 ≤ T32.heap.size := Nat.le_trans Zs31 Kq32.1
      refine own_up ?_ (fun t k => st32.trans k)
      show own_G p.tables e below s _ _ _ (T32.setTop (mkF m 97 #[.val (.long q1), .second, .val (.long q2), .second, .val (.int p3), .val (.int p4), .val (.long mo), .second, .val (.long g), .second, .val (.long l0), .second, .val (.int cn), .val (.ref b25), .unset, .unset, .unset, .unset, .unset, .unset] []))
      refine own_up ?_ fun t k => XS.iload X32.here hx rfl (hb hby at_97) rfl k
      show own_G p.tables e below s _ _ _ (T32.setTop (mkF m 99 #[.val (.long q1), .second, .val (.long q2), .second, .val (.int p3), .val (.int p4), .val (.long mo), .second, .val (.long g), .second, .val (.long l0), .second, .val (.int cn), .val (.ref b25), .unset, .unset, .unset, .unset, .unset, .unset] [(.int cn)]))
      refine own_up ?_ fun t k => XS.i2l X32.here hx rfl (hb hby at_99) rfl k
      show own_G p.tables e below s _ _ _ (T32.setTop (mkF m 100 #[.val (.long q1), .second, .val (.long q2), .second, .val (.int p3), .val (.int p4), .val (.long mo), .second, .val (.long g), .second, .val (.long l0), .second, .val (.int cn), .val (.ref b25), .unset, .unset, .unset, .unset, .unset, .unset] [(.long (cn.toInt64))]))
      refine own_up ?_ fun t k => XS.lload X32.here hx rfl (hb hby at_100) rfl k
      show own_G p.tables e below s _ _ _ (T32.setTop (mkF m 102 #[.val (.long q1), .second, .val (.long q2), .second, .val (.int p3), .val (.int p4), .val (.long mo), .second, .val (.long g), .second, .val (.long l0), .second, .val (.int cn), .val (.ref b25), .unset, .unset, .unset, .unset, .unset, .unset] [(.long g), (.long (cn.toInt64))]))
      refine own_up ?_ fun t k => XS.lcmp X32.here hx rfl (hb hby at_102) rfl k
      show own_G p.tables e below s _ _ _ (T32.setTop (mkF m 103 #[.val (.long q1), .second, .val (.long q2), .second, .val (.int p3), .val (.int p4), .val (.long mo), .second, .val (.long g), .second, .val (.long l0), .second, .val (.int cn), .val (.ref b25), .unset, .unset, .unset, .unset, .unset, .unset] [(.int (lcmpW (cn.toInt64) g))]))
      by_cases hc103_35 : g < (cn.toInt64)
      · refine own_up ?_ fun t k => XS.ifYes X32.here hx rfl (pc0 := 103) (pc' := 110) rfl (hb hby at_103) rfl ((if0 _ _).trans (tlt ((lw_gt _ _).mpr hc103_35)).2.2.1) (by decide) (by decide) k
        show own_G p.tables e below s _ _ _ (T32.setTop (mkF m 110 #[.val (.long q1), .second, .val (.long q2), .second, .val (.int p3), .val (.int p4), .val (.long mo), .second, .val (.long g), .second, .val (.long l0), .second, .val (.int cn), .val (.ref b25), .unset, .unset, .unset, .unset, .unset, .unset] []))
        refine own_up ?_ fun t k => XS.iconst X32.here hx rfl (hb hby at_110) k
        show own_G p.tables e below s _ _ _ (T32.setTop (mkF m 111 #[.val (.long q1), .second, .val (.long q2), .second, .val (.int p3), .val (.int p4), .val (.long mo), .second, .val (.long g), .second, .val (.long l0), .second, .val (.int cn), .val (.ref b25), .unset, .unset, .unset, .unset, .unset, .unset] [(.int (0 : Int32))]))
        refine own_up ?_ fun t k => XS.istore X32.here hx rfl (hb hby at_111) rfl (l' := #[.val (.long q1), .second, .val (.long q2), .second, .val (.int p3), .val (.int p4), .val (.long mo), .second, .val (.long g), .second, .val (.long l0), .second, .val (.int cn), .val (.ref b25), .val (.int (0 : Int32)), .unset, .unset, .unset, .unset, .unset]) rfl k
        show own_G p.tables e below s _ _ _ (T32.setTop (mkF m 113 #[.val (.long q1), .second, .val (.long q2), .second, .val (.int p3), .val (.int p4), .val (.long mo), .second, .val (.long g), .second, .val (.long l0), .second, .val (.int cn), .val (.ref b25), .val (.int (0 : Int32)), .unset, .unset, .unset, .unset, .unset] []))
        refine own_up ?_ fun t k => XS.aload X32.here hx rfl (hb hby at_113) rfl rfl k
        show own_G p.tables e below s _ _ _ (T32.setTop (mkF m 115 #[.val (.long q1), .second, .val (.long q2), .second, .val (.int p3), .val (.int p4), .val (.long mo), .second, .val (.long g), .second, .val (.long l0), .second, .val (.int cn), .val (.ref b25), .val (.int (0 : Int32)), .unset, .unset, .unset, .unset, .unset] [(.ref b25)]))
        refine own_up ?_ fun t k => XS.iload X32.here hx rfl (hb hby at_115) rfl k
        show own_G p.tables e below s _ _ _ (T32.setTop (mkF m 117 #[.val (.long q1), .second, .val (.long q2), .second, .val (.int p3), .val (.int p4), .val (.long mo), .second, .val (.long g), .second, .val (.long l0), .second, .val (.int cn), .val (.ref b25), .val (.int (0 : Int32)), .unset, .unset, .unset, .unset, .unset] [(.int cn), (.ref b25)]))
        obtain ⟨cq36, kq36, q36a, q36b, q36c⟩ := isOf hZ rfl A25_c33
        obtain ⟨_, _, ⟨T36, L36, k36, n36⟩, -, X36, ⟨Lc36, hQ36, l36, y36, z36⟩, st36⟩ := X32.virtualBack hx (y := (⟨"com/example/eventweir/eventweir/PatternStates", "start", "(I)Z"⟩ : MethodName)) (z := (⟨"com/example/eventweir/eventweir/PatternStates", "start", "(I)Z"⟩ : MethodName)) hown (mvT hZ (hw _ (List.mem_of_getElem? (i := 30) rfl))) (mvT hZ (hw _ (List.mem_of_getElem? (i := 31) rfl))) (notFace_of_selects (args := #[]) (mvT hZ (hw _ (List.mem_of_getElem? (i := 33) rfl)))) (mvT hZ (hw _ (List.mem_of_getElem? (i := 33) rfl))) (mvT hZ (hw _ (List.mem_of_getElem? (i := 32) rfl))) (by decide) (backOf (W := 0) (rm7 l Z a0 hw [] b25 cn mo l0 T32.heap n0 Zs34 A25_c33 Fq32_0 Fq32_1 ge26) hZ (hw _ (List.mem_of_getElem? (i := 34) rfl)) (hw _ (List.mem_of_getElem? (i := 14) rfl)) (by decide) (by decide)) q36a q36c (g := (mkF m 117 #[.val (.long q1), .second, .val (.long q2), .second, .val (.int p3), .val (.int p4), .val (.long mo), .second, .val (.long g), .second, .val (.long l0), .second, .val (.int cn), .val (.ref b25), .val (.int (0 : Int32)), .unset, .unset, .unset, .unset, .unset] [(.int cn), (.ref b25)])) rfl (by rw [hml]; rfl) (Steps.refl _) (argsL := [(.int cn)]) (rest := []) (lenOf own_pd3 rfl) rfl (by show 2 * 0 + _ ≤ _; exact Nat.le_of_eq rfl) (hb hby at_117) (fun _ _ => ⟨rfl, rfl, (by decide : 1 + 0 ≤ _), (by decide : 2 + 0 ≤ _)⟩)
        dsimp only [Pt.U, Pt.locs, Pt.cells, Pt.slots] at X36 l36 y36 z36 st36 hQ36
        subst l36 y36 z36
        obtain ⟨rfl, Nq36, Kq36, Fq36_0, Fq36_1⟩ := hQ36
        have N36 := Fr.app N32 Nq36
        have A25_c37 := A25_c33.keep Kq36
        have Zs38 : n0 ≤ T36.heap.size := Nat.le_trans Zs34 Kq36.1
        refine own_up ?_ (fun t k => st36.trans k)
        show own_G p.tables e below s _ _ _ (T36.setTop (mkF m 120 #[.val (.long q1), .second, .val (.long q2), .second, .val (.int p3), .val (.int p4), .val (.long mo), .second, .val (.long g), .second, .val (.long l0), .second, .val (.int cn), .val (.ref b25), .val (.int (0 : Int32)), .unset, .unset, .unset, .unset, .unset] [(.int (if (mo - (cn.toInt64)) < l0 then (0 : Int32) else (1 : Int32)))]))
        refine own_up ?_ fun t k => XS.istore X36.here hx rfl (hb hby at_120) rfl (l' := #[.val (.long q1), .second, .val (.long q2), .second, .val (.int p3), .val (.int p4), .val (.long mo), .second, .val (.long g), .second, .val (.long l0), .second, .val (.int cn), .val (.ref b25), .val (.int (0 : Int32)), .val (.int (if (mo - (cn.toInt64)) < l0 then (0 : Int32) else (1 : Int32))), .unset, .unset, .unset, .unset]) rfl k
        show own_G p.tables e below s _ _ _ (T36.setTop (mkF m 122 #[.val (.long q1), .second, .val (.long q2), .second, .val (.int p3), .val (.int p4), .val (.long mo), .second, .val (.long g), .second, .val (.long l0), .second, .val (.int cn), .val (.ref b25), .val (.int (0 : Int32)), .val (.int (if (mo - (cn.toInt64)) < l0 then (0 : Int32) else (1 : Int32))), .unset, .unset, .unset, .unset] []))
        refine own_up ?_ fun t k => XS.aload X36.here hx rfl (hb hby at_122) rfl rfl k
        show own_G p.tables e below s _ _ _ (T36.setTop (mkF m 124 #[.val (.long q1), .second, .val (.long q2), .second, .val (.int p3), .val (.int p4), .val (.long mo), .second, .val (.long g), .second, .val (.long l0), .second, .val (.int cn), .val (.ref b25), .val (.int (0 : Int32)), .val (.int (if (mo - (cn.toInt64)) < l0 then (0 : Int32) else (1 : Int32))), .unset, .unset, .unset, .unset] [(.ref b25)]))
        obtain ⟨cq39, kq39, q39a, q39b, q39c⟩ := isOf hZ rfl A25_c37
        obtain ⟨_, _, ⟨T39, L39, k39, n39⟩, -, X39, ⟨Lc39, hQ39, l39, y39, z39⟩, st39⟩ := X36.virtualBack hx (y := (⟨"com/example/eventweir/eventweir/PatternStates", "live", "()J"⟩ : MethodName)) (z := (⟨"com/example/eventweir/eventweir/PatternStates", "live", "()J"⟩ : MethodName)) hown (mvT hZ (hw _ (List.mem_of_getElem? (i := 35) rfl))) (mvT hZ (hw _ (List.mem_of_getElem? (i := 36) rfl))) (notFace_of_selects (args := #[]) (mvT hZ (hw _ (List.mem_of_getElem? (i := 38) rfl)))) (mvT hZ (hw _ (List.mem_of_getElem? (i := 38) rfl))) (mvT hZ (hw _ (List.mem_of_getElem? (i := 37) rfl))) (by decide) (backOf (W := 0) (rm8 l Z a0 hw [] b25 (if (mo - (cn.toInt64)) < l0 then l0 else (l0 + (cn.toInt64))) T36.heap n0 Zs38 Fq36_1) hZ (hw _ (List.mem_of_getElem? (i := 39) rfl)) (hw _ (List.mem_of_getElem? (i := 14) rfl)) (by decide) (by decide)) q39a q39c (g := (mkF m 124 #[.val (.long q1), .second, .val (.long q2), .second, .val (.int p3), .val (.int p4), .val (.long mo), .second, .val (.long g), .second, .val (.long l0), .second, .val (.int cn), .val (.ref b25), .val (.int (0 : Int32)), .val (.int (if (mo - (cn.toInt64)) < l0 then (0 : Int32) else (1 : Int32))), .unset, .unset, .unset, .unset] [(.ref b25)])) rfl (by rw [hml]; rfl) (Steps.refl _) (argsL := []) (rest := []) (lenOf own_pd4 rfl) rfl (by show 2 * 0 + _ ≤ _; exact Nat.le_of_eq rfl) (hb hby at_124) (fun _ _ => ⟨rfl, rfl, (by decide : 1 + 0 ≤ _), (by decide : 2 + 0 ≤ _)⟩)
        dsimp only [Pt.U, Pt.locs, Pt.cells, Pt.slots] at X39 l39 y39 z39 st39 hQ39
        subst l39 y39 z39
        obtain ⟨rfl, Nq39, e39⟩ := hQ39
        have N39 := Fr.app N36 Nq39
        refine own_up ?_ (fun t k => st39.trans k)
        show own_G p.tables e below s _ _ _ (T39.setTop (mkF m 127 #[.val (.long q1), .second, .val (.long q2), .second, .val (.int p3), .val (.int p4), .val (.long mo), .second, .val (.long g), .second, .val (.long l0), .second, .val (.int cn), .val (.ref b25), .val (.int (0 : Int32)), .val (.int (if (mo - (cn.toInt64)) < l0 then (0 : Int32) else (1 : Int32))), .unset, .unset, .unset, .unset] [(.long (if (mo - (cn.toInt64)) < l0 then l0 else (l0 + (cn.toInt64))))]))
        refine own_up ?_ fun t k => XS.lstore X39.here hx rfl (hb hby at_127) rfl (l' := #[.val (.long q1), .second, .val (.long q2), .second, .val (.int p3), .val (.int p4), .val (.long mo), .second, .val (.long g), .second, .val (.long l0), .second, .val (.int cn), .val (.ref b25), .val (.int (0 : Int32)), .val (.int (if (mo - (cn.toInt64)) < l0 then (0 : Int32) else (1 : Int32))), .val (.long (if (mo - (cn.toInt64)) < l0 then l0 else (l0 + (cn.toInt64)))), .second, .unset, .unset]) rfl k
        show own_G p.tables e below s _ _ _ (T39.setTop (mkF m 129 #[.val (.long q1), .second, .val (.long q2), .second, .val (.int p3), .val (.int p4), .val (.long mo), .second, .val (.long g), .second, .val (.long l0), .second, .val (.int cn), .val (.ref b25), .val (.int (0 : Int32)), .val (.int (if (mo - (cn.toInt64)) < l0 then (0 : Int32) else (1 : Int32))), .val (.long (if (mo - (cn.toInt64)) < l0 then l0 else (l0 + (cn.toInt64)))), .second, .unset, .unset] []))
        refine own_up ?_ fun t k => XS.iload X39.here hx rfl (hb hby at_129) rfl k
        show own_G p.tables e below s _ _ _ (T39.setTop (mkF m 131 #[.val (.long q1), .second, .val (.long q2), .second, .val (.int p3), .val (.int p4), .val (.long mo), .second, .val (.long g), .second, .val (.long l0), .second, .val (.int cn), .val (.ref b25), .val (.int (0 : Int32)), .val (.int (if (mo - (cn.toInt64)) < l0 then (0 : Int32) else (1 : Int32))), .val (.long (if (mo - (cn.toInt64)) < l0 then l0 else (l0 + (cn.toInt64)))), .second, .unset, .unset] [(.int (0 : Int32))]))
        refine own_up ?_ fun t k => XS.ifYes X39.here hx rfl (pc0 := 131) (pc' := 145) rfl (hb hby at_131) rfl ((if0 _ _).trans (teq (by decide : ((0 : Int32) = (0 : Int32)))).1) (by decide) (by decide) k
        show own_G p.tables e below s _ _ _ (T39.setTop (mkF m 145 #[.val (.long q1), .second, .val (.long q2), .second, .val (.int p3), .val (.int p4), .val (.long mo), .second, .val (.long g), .second, .val (.long l0), .second, .val (.int cn), .val (.ref b25), .val (.int (0 : Int32)), .val (.int (if (mo - (cn.toInt64)) < l0 then (0 : Int32) else (1 : Int32))), .val (.long (if (mo - (cn.toInt64)) < l0 then l0 else (l0 + (cn.toInt64)))), .second, .unset, .unset] []))
        refine own_up ?_ fun t k => XS.lload X39.here hx rfl (hb hby at_145) rfl k
        show own_G p.tables e below s _ _ _ (T39.setTop (mkF m 147 #[.val (.long q1), .second, .val (.long q2), .second, .val (.int p3), .val (.int p4), .val (.long mo), .second, .val (.long g), .second, .val (.long l0), .second, .val (.int cn), .val (.ref b25), .val (.int (0 : Int32)), .val (.int (if (mo - (cn.toInt64)) < l0 then (0 : Int32) else (1 : Int32))), .val (.long (if (mo - (cn.toInt64)) < l0 then l0 else (l0 + (cn.toInt64)))), .second, .unset, .unset] [(.long l0)]))
        refine own_up ?_ fun t k => XS.lstore X39.here hx rfl (hb hby at_147) rfl (l' := #[.val (.long q1), .second, .val (.long q2), .second, .val (.int p3), .val (.int p4), .val (.long mo), .second, .val (.long g), .second, .val (.long l0), .second, .val (.int cn), .val (.ref b25), .val (.int (0 : Int32)), .val (.int (if (mo - (cn.toInt64)) < l0 then (0 : Int32) else (1 : Int32))), .val (.long (if (mo - (cn.toInt64)) < l0 then l0 else (l0 + (cn.toInt64)))), .second, .val (.long l0), .second]) rfl k
        show own_G p.tables e below s _ _ _ (T39.setTop (mkF m 149 #[.val (.long q1), .second, .val (.long q2), .second, .val (.int p3), .val (.int p4), .val (.long mo), .second, .val (.long g), .second, .val (.long l0), .second, .val (.int cn), .val (.ref b25), .val (.int (0 : Int32)), .val (.int (if (mo - (cn.toInt64)) < l0 then (0 : Int32) else (1 : Int32))), .val (.long (if (mo - (cn.toInt64)) < l0 then l0 else (l0 + (cn.toInt64)))), .second, .val (.long l0), .second] []))
        refine own_up ?_ fun t k => XS.iload X39.here hx rfl (hb hby at_149) rfl k
        show own_G p.tables e below s _ _ _ (T39.setTop (mkF m 151 #[.val (.long q1), .second, .val (.long q2), .second, .val (.int p3), .val (.int p4), .val (.long mo), .second, .val (.long g), .second, .val (.long l0), .second, .val (.int cn), .val (.ref b25), .val (.int (0 : Int32)), .val (.int (if (mo - (cn.toInt64)) < l0 then (0 : Int32) else (1 : Int32))), .val (.long (if (mo - (cn.toInt64)) < l0 then l0 else (l0 + (cn.toInt64)))), .second, .val (.long l0), .second] [(.int (if (mo - (cn.toInt64)) < l0 then (0 : Int32) else (1 : Int32)))]))
        refine own_up ?_ fun t k => XS.iload X39.here hx rfl (hb hby at_151) rfl k
        show own_G p.tables e below s _ _ _ (T39.setTop (mkF m 153 #[.val (.long q1), .second, .val (.long q2), .second, .val (.int p3), .val (.int p4), .val (.long mo), .second, .val (.long g), .second, .val (.long l0), .second, .val (.int cn), .val (.ref b25), .val (.int (0 : Int32)), .val (.int (if (mo - (cn.toInt64)) < l0 then (0 : Int32) else (1 : Int32))), .val (.long (if (mo - (cn.toInt64)) < l0 then l0 else (l0 + (cn.toInt64)))), .second, .val (.long l0), .second] [(.int (0 : Int32)), (.int (if (mo - (cn.toInt64)) < l0 then (0 : Int32) else (1 : Int32)))]))
        refine own_up ?_ fun t k => XS.icmpNo X39.here hx rfl (hb hby at_153) rfl (teq (if_pos (by rw [h_l0]; exact own_lt hg h_cn hc103_35) : ((if (mo - (cn.toInt64)) < l0 then (0 : Int32) else (1 : Int32)) = (0 : Int32)))).2 k
        show own_G p.tables e below s _ _ _ (T39.setTop (mkF m 156 #[.val (.long q1), .second, .val (.long q2), .second, .val (.int p3), .val (.int p4), .val (.long mo), .second, .val (.long g), .second, .val (.long l0), .second, .val (.int cn), .val (.ref b25), .val (.int (0 : Int32)), .val (.int (if (mo - (cn.toInt64)) < l0 then (0 : Int32) else (1 : Int32))), .val (.long (if (mo - (cn.toInt64)) < l0 then l0 else (l0 + (cn.toInt64)))), .second, .val (.long l0), .second] []))
        refine own_up ?_ fun t k => XS.lload X39.here hx rfl (hb hby at_156) rfl k
        show own_G p.tables e below s _ _ _ (T39.setTop (mkF m 158 #[.val (.long q1), .second, .val (.long q2), .second, .val (.int p3), .val (.int p4), .val (.long mo), .second, .val (.long g), .second, .val (.long l0), .second, .val (.int cn), .val (.ref b25), .val (.int (0 : Int32)), .val (.int (if (mo - (cn.toInt64)) < l0 then (0 : Int32) else (1 : Int32))), .val (.long (if (mo - (cn.toInt64)) < l0 then l0 else (l0 + (cn.toInt64)))), .second, .val (.long l0), .second] [(.long (if (mo - (cn.toInt64)) < l0 then l0 else (l0 + (cn.toInt64))))]))
        refine own_up ?_ fun t k => XS.lload X39.here hx rfl (hb hby at_158) rfl k
        show own_G p.tables e below s _ _ _ (T39.setTop (mkF m 160 #[.val (.long q1), .second, .val (.long q2), .second, .val (.int p3), .val (.int p4), .val (.long mo), .second, .val (.long g), .second, .val (.long l0), .second, .val (.int cn), .val (.ref b25), .val (.int (0 : Int32)), .val (.int (if (mo - (cn.toInt64)) < l0 then (0 : Int32) else (1 : Int32))), .val (.long (if (mo - (cn.toInt64)) < l0 then l0 else (l0 + (cn.toInt64)))), .second, .val (.long l0), .second] [(.long l0), (.long (if (mo - (cn.toInt64)) < l0 then l0 else (l0 + (cn.toInt64))))]))
        refine own_up ?_ fun t k => XS.lcmp X39.here hx rfl (hb hby at_160) rfl k
        show own_G p.tables e below s _ _ _ (T39.setTop (mkF m 161 #[.val (.long q1), .second, .val (.long q2), .second, .val (.int p3), .val (.int p4), .val (.long mo), .second, .val (.long g), .second, .val (.long l0), .second, .val (.int cn), .val (.ref b25), .val (.int (0 : Int32)), .val (.int (if (mo - (cn.toInt64)) < l0 then (0 : Int32) else (1 : Int32))), .val (.long (if (mo - (cn.toInt64)) < l0 then l0 else (l0 + (cn.toInt64)))), .second, .val (.long l0), .second] [(.int (lcmpW (if (mo - (cn.toInt64)) < l0 then l0 else (l0 + (cn.toInt64))) l0))]))
        refine own_up ?_ fun t k => XS.ifNo X39.here hx rfl (hb hby at_161) rfl ((if0 _ _).trans (teq ((lw_eq _ _).mpr (if_pos (by rw [h_l0]; exact own_lt hg h_cn hc103_35) : ((if (mo - (cn.toInt64)) < l0 then l0 else (l0 + (cn.toInt64))) = l0)))).2) k
        show own_G p.tables e below s _ _ _ (T39.setTop (mkF m 164 #[.val (.long q1), .second, .val (.long q2), .second, .val (.int p3), .val (.int p4), .val (.long mo), .second, .val (.long g), .second, .val (.long l0), .second, .val (.int cn), .val (.ref b25), .val (.int (0 : Int32)), .val (.int (if (mo - (cn.toInt64)) < l0 then (0 : Int32) else (1 : Int32))), .val (.long (if (mo - (cn.toInt64)) < l0 then l0 else (l0 + (cn.toInt64)))), .second, .val (.long l0), .second] []))
        refine own_up ?_ fun t k => XS.aload X39.here hx rfl (hb hby at_164) rfl rfl k
        show own_G p.tables e below s _ _ _ (T39.setTop (mkF m 166 #[.val (.long q1), .second, .val (.long q2), .second, .val (.int p3), .val (.int p4), .val (.long mo), .second, .val (.long g), .second, .val (.long l0), .second, .val (.int cn), .val (.ref b25), .val (.int (0 : Int32)), .val (.int (if (mo - (cn.toInt64)) < l0 then (0 : Int32) else (1 : Int32))), .val (.long (if (mo - (cn.toInt64)) < l0 then l0 else (l0 + (cn.toInt64)))), .second, .val (.long l0), .second] [(.ref b25)]))
        obtain ⟨cq40, kq40, q40a, q40b, q40c⟩ := isOf hZ e39 A25_c37
        obtain ⟨_, _, ⟨T40, L40, k40, n40⟩, -, X40, ⟨Lc40, hQ40, l40, y40, z40⟩, st40⟩ := X39.virtualBack hx (y := (⟨"com/example/eventweir/eventweir/PatternStates", "most", "()J"⟩ : MethodName)) (z := (⟨"com/example/eventweir/eventweir/PatternStates", "most", "()J"⟩ : MethodName)) hown (mvT hZ (hw _ (List.mem_of_getElem? (i := 40) rfl))) (mvT hZ (hw _ (List.mem_of_getElem? (i := 41) rfl))) (notFace_of_selects (args := #[]) (mvT hZ (hw _ (List.mem_of_getElem? (i := 43) rfl)))) (mvT hZ (hw _ (List.mem_of_getElem? (i := 43) rfl))) (mvT hZ (hw _ (List.mem_of_getElem? (i := 42) rfl))) (by decide) (backOf (W := 0) (rm9 l Z a0 hw [] b25 mo T36.heap n0 Zs38 Fq36_0) hZ (hw _ (List.mem_of_getElem? (i := 44) rfl)) (hw _ (List.mem_of_getElem? (i := 14) rfl)) (by decide) (by decide)) q40a q40c (g := (mkF m 166 #[.val (.long q1), .second, .val (.long q2), .second, .val (.int p3), .val (.int p4), .val (.long mo), .second, .val (.long g), .second, .val (.long l0), .second, .val (.int cn), .val (.ref b25), .val (.int (0 : Int32)), .val (.int (if (mo - (cn.toInt64)) < l0 then (0 : Int32) else (1 : Int32))), .val (.long (if (mo - (cn.toInt64)) < l0 then l0 else (l0 + (cn.toInt64)))), .second, .val (.long l0), .second] [(.ref b25)])) rfl (by rw [hml]; rfl) (Steps.refl _) (argsL := []) (rest := []) (lenOf own_pd4 rfl) rfl (by show 2 * 0 + _ ≤ _; exact Nat.le_of_eq rfl) (hb hby at_166) (fun _ _ => ⟨rfl, e39, (by decide : 1 + 0 ≤ _), (by decide : 2 + 0 ≤ _)⟩)
        dsimp only [Pt.U, Pt.locs, Pt.cells, Pt.slots] at X40 l40 y40 z40 st40 hQ40
        subst l40 y40 z40
        obtain ⟨rfl, Nq40, e40⟩ := hQ40
        have N40 := Fr.app N39 Nq40
        refine own_up ?_ (fun t k => st40.trans k)
        show own_G p.tables e below s _ _ _ (T40.setTop (mkF m 169 #[.val (.long q1), .second, .val (.long q2), .second, .val (.int p3), .val (.int p4), .val (.long mo), .second, .val (.long g), .second, .val (.long l0), .second, .val (.int cn), .val (.ref b25), .val (.int (0 : Int32)), .val (.int (if (mo - (cn.toInt64)) < l0 then (0 : Int32) else (1 : Int32))), .val (.long (if (mo - (cn.toInt64)) < l0 then l0 else (l0 + (cn.toInt64)))), .second, .val (.long l0), .second] [(.long mo)]))
        refine own_up ?_ fun t k => XS.lload X40.here hx rfl (hb hby at_169) rfl k
        show own_G p.tables e below s _ _ _ (T40.setTop (mkF m 171 #[.val (.long q1), .second, .val (.long q2), .second, .val (.int p3), .val (.int p4), .val (.long mo), .second, .val (.long g), .second, .val (.long l0), .second, .val (.int cn), .val (.ref b25), .val (.int (0 : Int32)), .val (.int (if (mo - (cn.toInt64)) < l0 then (0 : Int32) else (1 : Int32))), .val (.long (if (mo - (cn.toInt64)) < l0 then l0 else (l0 + (cn.toInt64)))), .second, .val (.long l0), .second] [(.long mo), (.long mo)]))
        refine own_up ?_ fun t k => XS.lcmp X40.here hx rfl (hb hby at_171) rfl k
        show own_G p.tables e below s _ _ _ (T40.setTop (mkF m 172 #[.val (.long q1), .second, .val (.long q2), .second, .val (.int p3), .val (.int p4), .val (.long mo), .second, .val (.long g), .second, .val (.long l0), .second, .val (.int cn), .val (.ref b25), .val (.int (0 : Int32)), .val (.int (if (mo - (cn.toInt64)) < l0 then (0 : Int32) else (1 : Int32))), .val (.long (if (mo - (cn.toInt64)) < l0 then l0 else (l0 + (cn.toInt64)))), .second, .val (.long l0), .second] [(.int (lcmpW mo mo))]))
        refine own_up ?_ fun t k => XS.ifNo X40.here hx rfl (hb hby at_172) rfl ((if0 _ _).trans (teq ((lw_eq _ _).mpr (rfl : (mo = mo)))).2) k
        show own_G p.tables e below s _ _ _ (T40.setTop (mkF m 175 #[.val (.long q1), .second, .val (.long q2), .second, .val (.int p3), .val (.int p4), .val (.long mo), .second, .val (.long g), .second, .val (.long l0), .second, .val (.int cn), .val (.ref b25), .val (.int (0 : Int32)), .val (.int (if (mo - (cn.toInt64)) < l0 then (0 : Int32) else (1 : Int32))), .val (.long (if (mo - (cn.toInt64)) < l0 then l0 else (l0 + (cn.toInt64)))), .second, .val (.long l0), .second] []))
        refine own_up ?_ fun t k => XS.iconst X40.here hx rfl (hb hby at_175) k
        show own_G p.tables e below s _ _ _ (T40.setTop (mkF m 176 #[.val (.long q1), .second, .val (.long q2), .second, .val (.int p3), .val (.int p4), .val (.long mo), .second, .val (.long g), .second, .val (.long l0), .second, .val (.int cn), .val (.ref b25), .val (.int (0 : Int32)), .val (.int (if (mo - (cn.toInt64)) < l0 then (0 : Int32) else (1 : Int32))), .val (.long (if (mo - (cn.toInt64)) < l0 then l0 else (l0 + (cn.toInt64)))), .second, .val (.long l0), .second] [(.int (1 : Int32))]))
        refine own_up ?_ fun t k => XS.goto X40.here hx rfl (pc0 := 176) (pc' := 180) rfl (hb hby at_176) (by decide) (by decide) k
        show own_G p.tables e below s _ _ _ (T40.setTop (mkF m 180 #[.val (.long q1), .second, .val (.long q2), .second, .val (.int p3), .val (.int p4), .val (.long mo), .second, .val (.long g), .second, .val (.long l0), .second, .val (.int cn), .val (.ref b25), .val (.int (0 : Int32)), .val (.int (if (mo - (cn.toInt64)) < l0 then (0 : Int32) else (1 : Int32))), .val (.long (if (mo - (cn.toInt64)) < l0 then l0 else (l0 + (cn.toInt64)))), .second, .val (.long l0), .second] [(.int (1 : Int32))]))
        exact own_retI X40 hx hlk Bd.returns (by simp) rfl (hb hby at_180) ⟨rfl, N40⟩ (by decide) (by decide)
      · refine own_up ?_ fun t k => XS.ifNo X32.here hx rfl (hb hby at_103) rfl ((if0 _ _).trans (flt (fun q => hc103_35 ((lw_gt _ _).mp q))).2.2.1) k
        show own_G p.tables e below s _ _ _ (T32.setTop (mkF m 106 #[.val (.long q1), .second, .val (.long q2), .second, .val (.int p3), .val (.int p4), .val (.long mo), .second, .val (.long g), .second, .val (.long l0), .second, .val (.int cn), .val (.ref b25), .unset, .unset, .unset, .unset, .unset, .unset] []))
        refine own_up ?_ fun t k => XS.iconst X32.here hx rfl (hb hby at_106) k
        show own_G p.tables e below s _ _ _ (T32.setTop (mkF m 107 #[.val (.long q1), .second, .val (.long q2), .second, .val (.int p3), .val (.int p4), .val (.long mo), .second, .val (.long g), .second, .val (.long l0), .second, .val (.int cn), .val (.ref b25), .unset, .unset, .unset, .unset, .unset, .unset] [(.int (1 : Int32))]))
        refine own_up ?_ fun t k => XS.goto X32.here hx rfl (pc0 := 107) (pc' := 111) rfl (hb hby at_107) (by decide) (by decide) k
        show own_G p.tables e below s _ _ _ (T32.setTop (mkF m 111 #[.val (.long q1), .second, .val (.long q2), .second, .val (.int p3), .val (.int p4), .val (.long mo), .second, .val (.long g), .second, .val (.long l0), .second, .val (.int cn), .val (.ref b25), .unset, .unset, .unset, .unset, .unset, .unset] [(.int (1 : Int32))]))
        refine own_up ?_ fun t k => XS.istore X32.here hx rfl (hb hby at_111) rfl (l' := #[.val (.long q1), .second, .val (.long q2), .second, .val (.int p3), .val (.int p4), .val (.long mo), .second, .val (.long g), .second, .val (.long l0), .second, .val (.int cn), .val (.ref b25), .val (.int (1 : Int32)), .unset, .unset, .unset, .unset, .unset]) rfl k
        show own_G p.tables e below s _ _ _ (T32.setTop (mkF m 113 #[.val (.long q1), .second, .val (.long q2), .second, .val (.int p3), .val (.int p4), .val (.long mo), .second, .val (.long g), .second, .val (.long l0), .second, .val (.int cn), .val (.ref b25), .val (.int (1 : Int32)), .unset, .unset, .unset, .unset, .unset] []))
        refine own_up ?_ fun t k => XS.aload X32.here hx rfl (hb hby at_113) rfl rfl k
        show own_G p.tables e below s _ _ _ (T32.setTop (mkF m 115 #[.val (.long q1), .second, .val (.long q2), .second, .val (.int p3), .val (.int p4), .val (.long mo), .second, .val (.long g), .second, .val (.long l0), .second, .val (.int cn), .val (.ref b25), .val (.int (1 : Int32)), .unset, .unset, .unset, .unset, .unset] [(.ref b25)]))
        refine own_up ?_ fun t k => XS.iload X32.here hx rfl (hb hby at_115) rfl k
        show own_G p.tables e below s _ _ _ (T32.setTop (mkF m 117 #[.val (.long q1), .second, .val (.long q2), .second, .val (.int p3), .val (.int p4), .val (.long mo), .second, .val (.long g), .second, .val (.long l0), .second, .val (.int cn), .val (.ref b25), .val (.int (1 : Int32)), .unset, .unset, .unset, .unset, .unset] [(.int cn), (.ref b25)]))
        obtain ⟨cq41, kq41, q41a, q41b, q41c⟩ := isOf hZ rfl A25_c33
        obtain ⟨_, _, ⟨T41, L41, k41, n41⟩, -, X41, ⟨Lc41, hQ41, l41, y41, z41⟩, st41⟩ := X32.virtualBack hx (y := (⟨"com/example/eventweir/eventweir/PatternStates", "start", "(I)Z"⟩ : MethodName)) (z := (⟨"com/example/eventweir/eventweir/PatternStates", "start", "(I)Z"⟩ : MethodName)) hown (mvT hZ (hw _ (List.mem_of_getElem? (i := 30) rfl))) (mvT hZ (hw _ (List.mem_of_getElem? (i := 31) rfl))) (notFace_of_selects (args := #[]) (mvT hZ (hw _ (List.mem_of_getElem? (i := 33) rfl)))) (mvT hZ (hw _ (List.mem_of_getElem? (i := 33) rfl))) (mvT hZ (hw _ (List.mem_of_getElem? (i := 32) rfl))) (by decide) (backOf (W := 0) (rm7 l Z a0 hw [] b25 cn mo l0 T32.heap n0 Zs34 A25_c33 Fq32_0 Fq32_1 ge26) hZ (hw _ (List.mem_of_getElem? (i := 34) rfl)) (hw _ (List.mem_of_getElem? (i := 14) rfl)) (by decide) (by decide)) q41a q41c (g := (mkF m 117 #[.val (.long q1), .second, .val (.long q2), .second, .val (.int p3), .val (.int p4), .val (.long mo), .second, .val (.long g), .second, .val (.long l0), .second, .val (.int cn), .val (.ref b25), .val (.int (1 : Int32)), .unset, .unset, .unset, .unset, .unset] [(.int cn), (.ref b25)])) rfl (by rw [hml]; rfl) (Steps.refl _) (argsL := [(.int cn)]) (rest := []) (lenOf own_pd3 rfl) rfl (by show 2 * 0 + _ ≤ _; exact Nat.le_of_eq rfl) (hb hby at_117) (fun _ _ => ⟨rfl, rfl, (by decide : 1 + 0 ≤ _), (by decide : 2 + 0 ≤ _)⟩)
        dsimp only [Pt.U, Pt.locs, Pt.cells, Pt.slots] at X41 l41 y41 z41 st41 hQ41
        subst l41 y41 z41
        obtain ⟨rfl, Nq41, Kq41, Fq41_0, Fq41_1⟩ := hQ41
        have N41 := Fr.app N32 Nq41
        have A25_c42 := A25_c33.keep Kq41
        have Zs43 : n0 ≤ T41.heap.size := Nat.le_trans Zs34 Kq41.1
        refine own_up ?_ (fun t k => st41.trans k)
        show own_G p.tables e below s _ _ _ (T41.setTop (mkF m 120 #[.val (.long q1), .second, .val (.long q2), .second, .val (.int p3), .val (.int p4), .val (.long mo), .second, .val (.long g), .second, .val (.long l0), .second, .val (.int cn), .val (.ref b25), .val (.int (1 : Int32)), .unset, .unset, .unset, .unset, .unset] [(.int (if (mo - (cn.toInt64)) < l0 then (0 : Int32) else (1 : Int32)))]))
        refine own_up ?_ fun t k => XS.istore X41.here hx rfl (hb hby at_120) rfl (l' := #[.val (.long q1), .second, .val (.long q2), .second, .val (.int p3), .val (.int p4), .val (.long mo), .second, .val (.long g), .second, .val (.long l0), .second, .val (.int cn), .val (.ref b25), .val (.int (1 : Int32)), .val (.int (if (mo - (cn.toInt64)) < l0 then (0 : Int32) else (1 : Int32))), .unset, .unset, .unset, .unset]) rfl k
        show own_G p.tables e below s _ _ _ (T41.setTop (mkF m 122 #[.val (.long q1), .second, .val (.long q2), .second, .val (.int p3), .val (.int p4), .val (.long mo), .second, .val (.long g), .second, .val (.long l0), .second, .val (.int cn), .val (.ref b25), .val (.int (1 : Int32)), .val (.int (if (mo - (cn.toInt64)) < l0 then (0 : Int32) else (1 : Int32))), .unset, .unset, .unset, .unset] []))
        refine own_up ?_ fun t k => XS.aload X41.here hx rfl (hb hby at_122) rfl rfl k
        show own_G p.tables e below s _ _ _ (T41.setTop (mkF m 124 #[.val (.long q1), .second, .val (.long q2), .second, .val (.int p3), .val (.int p4), .val (.long mo), .second, .val (.long g), .second, .val (.long l0), .second, .val (.int cn), .val (.ref b25), .val (.int (1 : Int32)), .val (.int (if (mo - (cn.toInt64)) < l0 then (0 : Int32) else (1 : Int32))), .unset, .unset, .unset, .unset] [(.ref b25)]))
        obtain ⟨cq44, kq44, q44a, q44b, q44c⟩ := isOf hZ rfl A25_c42
        obtain ⟨_, _, ⟨T44, L44, k44, n44⟩, -, X44, ⟨Lc44, hQ44, l44, y44, z44⟩, st44⟩ := X41.virtualBack hx (y := (⟨"com/example/eventweir/eventweir/PatternStates", "live", "()J"⟩ : MethodName)) (z := (⟨"com/example/eventweir/eventweir/PatternStates", "live", "()J"⟩ : MethodName)) hown (mvT hZ (hw _ (List.mem_of_getElem? (i := 35) rfl))) (mvT hZ (hw _ (List.mem_of_getElem? (i := 36) rfl))) (notFace_of_selects (args := #[]) (mvT hZ (hw _ (List.mem_of_getElem? (i := 38) rfl)))) (mvT hZ (hw _ (List.mem_of_getElem? (i := 38) rfl))) (mvT hZ (hw _ (List.mem_of_getElem? (i := 37) rfl))) (by decide) (backOf (W := 0) (rm8 l Z a0 hw [] b25 (if (mo - (cn.toInt64)) < l0 then l0 else (l0 + (cn.toInt64))) T41.heap n0 Zs43 Fq41_1) hZ (hw _ (List.mem_of_getElem? (i := 39) rfl)) (hw _ (List.mem_of_getElem? (i := 14) rfl)) (by decide) (by decide)) q44a q44c (g := (mkF m 124 #[.val (.long q1), .second, .val (.long q2), .second, .val (.int p3), .val (.int p4), .val (.long mo), .second, .val (.long g), .second, .val (.long l0), .second, .val (.int cn), .val (.ref b25), .val (.int (1 : Int32)), .val (.int (if (mo - (cn.toInt64)) < l0 then (0 : Int32) else (1 : Int32))), .unset, .unset, .unset, .unset] [(.ref b25)])) rfl (by rw [hml]; rfl) (Steps.refl _) (argsL := []) (rest := []) (lenOf own_pd4 rfl) rfl (by show 2 * 0 + _ ≤ _; exact Nat.le_of_eq rfl) (hb hby at_124) (fun _ _ => ⟨rfl, rfl, (by decide : 1 + 0 ≤ _), (by decide : 2 + 0 ≤ _)⟩)
        dsimp only [Pt.U, Pt.locs, Pt.cells, Pt.slots] at X44 l44 y44 z44 st44 hQ44
        subst l44 y44 z44
        obtain ⟨rfl, Nq44, e44⟩ := hQ44
        have N44 := Fr.app N41 Nq44
        refine own_up ?_ (fun t k => st44.trans k)
        show own_G p.tables e below s _ _ _ (T44.setTop (mkF m 127 #[.val (.long q1), .second, .val (.long q2), .second, .val (.int p3), .val (.int p4), .val (.long mo), .second, .val (.long g), .second, .val (.long l0), .second, .val (.int cn), .val (.ref b25), .val (.int (1 : Int32)), .val (.int (if (mo - (cn.toInt64)) < l0 then (0 : Int32) else (1 : Int32))), .unset, .unset, .unset, .unset] [(.long (if (mo - (cn.toInt64)) < l0 then l0 else (l0 + (cn.toInt64))))]))
        refine own_up ?_ fun t k => XS.lstore X44.here hx rfl (hb hby at_127) rfl (l' := #[.val (.long q1), .second, .val (.long q2), .second, .val (.int p3), .val (.int p4), .val (.long mo), .second, .val (.long g), .second, .val (.long l0), .second, .val (.int cn), .val (.ref b25), .val (.int (1 : Int32)), .val (.int (if (mo - (cn.toInt64)) < l0 then (0 : Int32) else (1 : Int32))), .val (.long (if (mo - (cn.toInt64)) < l0 then l0 else (l0 + (cn.toInt64)))), .second, .unset, .unset]) rfl k
        show own_G p.tables e below s _ _ _ (T44.setTop (mkF m 129 #[.val (.long q1), .second, .val (.long q2), .second, .val (.int p3), .val (.int p4), .val (.long mo), .second, .val (.long g), .second, .val (.long l0), .second, .val (.int cn), .val (.ref b25), .val (.int (1 : Int32)), .val (.int (if (mo - (cn.toInt64)) < l0 then (0 : Int32) else (1 : Int32))), .val (.long (if (mo - (cn.toInt64)) < l0 then l0 else (l0 + (cn.toInt64)))), .second, .unset, .unset] []))
        refine own_up ?_ fun t k => XS.iload X44.here hx rfl (hb hby at_129) rfl k
        show own_G p.tables e below s _ _ _ (T44.setTop (mkF m 131 #[.val (.long q1), .second, .val (.long q2), .second, .val (.int p3), .val (.int p4), .val (.long mo), .second, .val (.long g), .second, .val (.long l0), .second, .val (.int cn), .val (.ref b25), .val (.int (1 : Int32)), .val (.int (if (mo - (cn.toInt64)) < l0 then (0 : Int32) else (1 : Int32))), .val (.long (if (mo - (cn.toInt64)) < l0 then l0 else (l0 + (cn.toInt64)))), .second, .unset, .unset] [(.int (1 : Int32))]))
        refine own_up ?_ fun t k => XS.ifNo X44.here hx rfl (hb hby at_131) rfl ((if0 _ _).trans (feq (by decide : ¬ ((1 : Int32) = (0 : Int32)))).1) k
        show own_G p.tables e below s _ _ _ (T44.setTop (mkF m 134 #[.val (.long q1), .second, .val (.long q2), .second, .val (.int p3), .val (.int p4), .val (.long mo), .second, .val (.long g), .second, .val (.long l0), .second, .val (.int cn), .val (.ref b25), .val (.int (1 : Int32)), .val (.int (if (mo - (cn.toInt64)) < l0 then (0 : Int32) else (1 : Int32))), .val (.long (if (mo - (cn.toInt64)) < l0 then l0 else (l0 + (cn.toInt64)))), .second, .unset, .unset] []))
        refine own_up ?_ fun t k => XS.lload X44.here hx rfl (hb hby at_134) rfl k
        show own_G p.tables e below s _ _ _ (T44.setTop (mkF m 136 #[.val (.long q1), .second, .val (.long q2), .second, .val (.int p3), .val (.int p4), .val (.long mo), .second, .val (.long g), .second, .val (.long l0), .second, .val (.int cn), .val (.ref b25), .val (.int (1 : Int32)), .val (.int (if (mo - (cn.toInt64)) < l0 then (0 : Int32) else (1 : Int32))), .val (.long (if (mo - (cn.toInt64)) < l0 then l0 else (l0 + (cn.toInt64)))), .second, .unset, .unset] [(.long l0)]))
        refine own_up ?_ fun t k => XS.iload X44.here hx rfl (hb hby at_136) rfl k
        show own_G p.tables e below s _ _ _ (T44.setTop (mkF m 138 #[.val (.long q1), .second, .val (.long q2), .second, .val (.int p3), .val (.int p4), .val (.long mo), .second, .val (.long g), .second, .val (.long l0), .second, .val (.int cn), .val (.ref b25), .val (.int (1 : Int32)), .val (.int (if (mo - (cn.toInt64)) < l0 then (0 : Int32) else (1 : Int32))), .val (.long (if (mo - (cn.toInt64)) < l0 then l0 else (l0 + (cn.toInt64)))), .second, .unset, .unset] [(.int cn), (.long l0)]))
        refine own_up ?_ fun t k => XS.i2l X44.here hx rfl (hb hby at_138) rfl k
        show own_G p.tables e below s _ _ _ (T44.setTop (mkF m 139 #[.val (.long q1), .second, .val (.long q2), .second, .val (.int p3), .val (.int p4), .val (.long mo), .second, .val (.long g), .second, .val (.long l0), .second, .val (.int cn), .val (.ref b25), .val (.int (1 : Int32)), .val (.int (if (mo - (cn.toInt64)) < l0 then (0 : Int32) else (1 : Int32))), .val (.long (if (mo - (cn.toInt64)) < l0 then l0 else (l0 + (cn.toInt64)))), .second, .unset, .unset] [(.long (cn.toInt64)), (.long l0)]))
        refine own_up ?_ fun t k => XS.ladd X44.here hx rfl (hb hby at_139) rfl k
        show own_G p.tables e below s _ _ _ (T44.setTop (mkF m 140 #[.val (.long q1), .second, .val (.long q2), .second, .val (.int p3), .val (.int p4), .val (.long mo), .second, .val (.long g), .second, .val (.long l0), .second, .val (.int cn), .val (.ref b25), .val (.int (1 : Int32)), .val (.int (if (mo - (cn.toInt64)) < l0 then (0 : Int32) else (1 : Int32))), .val (.long (if (mo - (cn.toInt64)) < l0 then l0 else (l0 + (cn.toInt64)))), .second, .unset, .unset] [(.long (l0 + (cn.toInt64)))]))
        refine own_up ?_ fun t k => XS.lstore X44.here hx rfl (hb hby at_140) rfl (l' := #[.val (.long q1), .second, .val (.long q2), .second, .val (.int p3), .val (.int p4), .val (.long mo), .second, .val (.long g), .second, .val (.long l0), .second, .val (.int cn), .val (.ref b25), .val (.int (1 : Int32)), .val (.int (if (mo - (cn.toInt64)) < l0 then (0 : Int32) else (1 : Int32))), .val (.long (if (mo - (cn.toInt64)) < l0 then l0 else (l0 + (cn.toInt64)))), .second, .val (.long (l0 + (cn.toInt64))), .second]) rfl k
        show own_G p.tables e below s _ _ _ (T44.setTop (mkF m 142 #[.val (.long q1), .second, .val (.long q2), .second, .val (.int p3), .val (.int p4), .val (.long mo), .second, .val (.long g), .second, .val (.long l0), .second, .val (.int cn), .val (.ref b25), .val (.int (1 : Int32)), .val (.int (if (mo - (cn.toInt64)) < l0 then (0 : Int32) else (1 : Int32))), .val (.long (if (mo - (cn.toInt64)) < l0 then l0 else (l0 + (cn.toInt64)))), .second, .val (.long (l0 + (cn.toInt64))), .second] []))
        refine own_up ?_ fun t k => XS.goto X44.here hx rfl (pc0 := 142) (pc' := 149) rfl (hb hby at_142) (by decide) (by decide) k
        show own_G p.tables e below s _ _ _ (T44.setTop (mkF m 149 #[.val (.long q1), .second, .val (.long q2), .second, .val (.int p3), .val (.int p4), .val (.long mo), .second, .val (.long g), .second, .val (.long l0), .second, .val (.int cn), .val (.ref b25), .val (.int (1 : Int32)), .val (.int (if (mo - (cn.toInt64)) < l0 then (0 : Int32) else (1 : Int32))), .val (.long (if (mo - (cn.toInt64)) < l0 then l0 else (l0 + (cn.toInt64)))), .second, .val (.long (l0 + (cn.toInt64))), .second] []))
        refine own_up ?_ fun t k => XS.iload X44.here hx rfl (hb hby at_149) rfl k
        show own_G p.tables e below s _ _ _ (T44.setTop (mkF m 151 #[.val (.long q1), .second, .val (.long q2), .second, .val (.int p3), .val (.int p4), .val (.long mo), .second, .val (.long g), .second, .val (.long l0), .second, .val (.int cn), .val (.ref b25), .val (.int (1 : Int32)), .val (.int (if (mo - (cn.toInt64)) < l0 then (0 : Int32) else (1 : Int32))), .val (.long (if (mo - (cn.toInt64)) < l0 then l0 else (l0 + (cn.toInt64)))), .second, .val (.long (l0 + (cn.toInt64))), .second] [(.int (if (mo - (cn.toInt64)) < l0 then (0 : Int32) else (1 : Int32)))]))
        refine own_up ?_ fun t k => XS.iload X44.here hx rfl (hb hby at_151) rfl k
        show own_G p.tables e below s _ _ _ (T44.setTop (mkF m 153 #[.val (.long q1), .second, .val (.long q2), .second, .val (.int p3), .val (.int p4), .val (.long mo), .second, .val (.long g), .second, .val (.long l0), .second, .val (.int cn), .val (.ref b25), .val (.int (1 : Int32)), .val (.int (if (mo - (cn.toInt64)) < l0 then (0 : Int32) else (1 : Int32))), .val (.long (if (mo - (cn.toInt64)) < l0 then l0 else (l0 + (cn.toInt64)))), .second, .val (.long (l0 + (cn.toInt64))), .second] [(.int (1 : Int32)), (.int (if (mo - (cn.toInt64)) < l0 then (0 : Int32) else (1 : Int32)))]))
        refine own_up ?_ fun t k => XS.icmpNo X44.here hx rfl (hb hby at_153) rfl (teq (if_neg (by rw [h_l0]; exact own_nlt hg h_cn hc103_35) : ((if (mo - (cn.toInt64)) < l0 then (0 : Int32) else (1 : Int32)) = (1 : Int32)))).2 k
        show own_G p.tables e below s _ _ _ (T44.setTop (mkF m 156 #[.val (.long q1), .second, .val (.long q2), .second, .val (.int p3), .val (.int p4), .val (.long mo), .second, .val (.long g), .second, .val (.long l0), .second, .val (.int cn), .val (.ref b25), .val (.int (1 : Int32)), .val (.int (if (mo - (cn.toInt64)) < l0 then (0 : Int32) else (1 : Int32))), .val (.long (if (mo - (cn.toInt64)) < l0 then l0 else (l0 + (cn.toInt64)))), .second, .val (.long (l0 + (cn.toInt64))), .second] []))
        refine own_up ?_ fun t k => XS.lload X44.here hx rfl (hb hby at_156) rfl k
        show own_G p.tables e below s _ _ _ (T44.setTop (mkF m 158 #[.val (.long q1), .second, .val (.long q2), .second, .val (.int p3), .val (.int p4), .val (.long mo), .second, .val (.long g), .second, .val (.long l0), .second, .val (.int cn), .val (.ref b25), .val (.int (1 : Int32)), .val (.int (if (mo - (cn.toInt64)) < l0 then (0 : Int32) else (1 : Int32))), .val (.long (if (mo - (cn.toInt64)) < l0 then l0 else (l0 + (cn.toInt64)))), .second, .val (.long (l0 + (cn.toInt64))), .second] [(.long (if (mo - (cn.toInt64)) < l0 then l0 else (l0 + (cn.toInt64))))]))
        refine own_up ?_ fun t k => XS.lload X44.here hx rfl (hb hby at_158) rfl k
        show own_G p.tables e below s _ _ _ (T44.setTop (mkF m 160 #[.val (.long q1), .second, .val (.long q2), .second, .val (.int p3), .val (.int p4), .val (.long mo), .second, .val (.long g), .second, .val (.long l0), .second, .val (.int cn), .val (.ref b25), .val (.int (1 : Int32)), .val (.int (if (mo - (cn.toInt64)) < l0 then (0 : Int32) else (1 : Int32))), .val (.long (if (mo - (cn.toInt64)) < l0 then l0 else (l0 + (cn.toInt64)))), .second, .val (.long (l0 + (cn.toInt64))), .second] [(.long (l0 + (cn.toInt64))), (.long (if (mo - (cn.toInt64)) < l0 then l0 else (l0 + (cn.toInt64))))]))
        refine own_up ?_ fun t k => XS.lcmp X44.here hx rfl (hb hby at_160) rfl k
        show own_G p.tables e below s _ _ _ (T44.setTop (mkF m 161 #[.val (.long q1), .second, .val (.long q2), .second, .val (.int p3), .val (.int p4), .val (.long mo), .second, .val (.long g), .second, .val (.long l0), .second, .val (.int cn), .val (.ref b25), .val (.int (1 : Int32)), .val (.int (if (mo - (cn.toInt64)) < l0 then (0 : Int32) else (1 : Int32))), .val (.long (if (mo - (cn.toInt64)) < l0 then l0 else (l0 + (cn.toInt64)))), .second, .val (.long (l0 + (cn.toInt64))), .second] [(.int (lcmpW (if (mo - (cn.toInt64)) < l0 then l0 else (l0 + (cn.toInt64))) (l0 + (cn.toInt64))))]))
        refine own_up ?_ fun t k => XS.ifNo X44.here hx rfl (hb hby at_161) rfl ((if0 _ _).trans (teq ((lw_eq _ _).mpr (if_neg (by rw [h_l0]; exact own_nlt hg h_cn hc103_35) : ((if (mo - (cn.toInt64)) < l0 then l0 else (l0 + (cn.toInt64))) = (l0 + (cn.toInt64)))))).2) k
        show own_G p.tables e below s _ _ _ (T44.setTop (mkF m 164 #[.val (.long q1), .second, .val (.long q2), .second, .val (.int p3), .val (.int p4), .val (.long mo), .second, .val (.long g), .second, .val (.long l0), .second, .val (.int cn), .val (.ref b25), .val (.int (1 : Int32)), .val (.int (if (mo - (cn.toInt64)) < l0 then (0 : Int32) else (1 : Int32))), .val (.long (if (mo - (cn.toInt64)) < l0 then l0 else (l0 + (cn.toInt64)))), .second, .val (.long (l0 + (cn.toInt64))), .second] []))
        refine own_up ?_ fun t k => XS.aload X44.here hx rfl (hb hby at_164) rfl rfl k
        show own_G p.tables e below s _ _ _ (T44.setTop (mkF m 166 #[.val (.long q1), .second, .val (.long q2), .second, .val (.int p3), .val (.int p4), .val (.long mo), .second, .val (.long g), .second, .val (.long l0), .second, .val (.int cn), .val (.ref b25), .val (.int (1 : Int32)), .val (.int (if (mo - (cn.toInt64)) < l0 then (0 : Int32) else (1 : Int32))), .val (.long (if (mo - (cn.toInt64)) < l0 then l0 else (l0 + (cn.toInt64)))), .second, .val (.long (l0 + (cn.toInt64))), .second] [(.ref b25)]))
        obtain ⟨cq45, kq45, q45a, q45b, q45c⟩ := isOf hZ e44 A25_c42
        obtain ⟨_, _, ⟨T45, L45, k45, n45⟩, -, X45, ⟨Lc45, hQ45, l45, y45, z45⟩, st45⟩ := X44.virtualBack hx (y := (⟨"com/example/eventweir/eventweir/PatternStates", "most", "()J"⟩ : MethodName)) (z := (⟨"com/example/eventweir/eventweir/PatternStates", "most", "()J"⟩ : MethodName)) hown (mvT hZ (hw _ (List.mem_of_getElem? (i := 40) rfl))) (mvT hZ (hw _ (List.mem_of_getElem? (i := 41) rfl))) (notFace_of_selects (args := #[]) (mvT hZ (hw _ (List.mem_of_getElem? (i := 43) rfl)))) (mvT hZ (hw _ (List.mem_of_getElem? (i := 43) rfl))) (mvT hZ (hw _ (List.mem_of_getElem? (i := 42) rfl))) (by decide) (backOf (W := 0) (rm9 l Z a0 hw [] b25 mo T41.heap n0 Zs43 Fq41_0) hZ (hw _ (List.mem_of_getElem? (i := 44) rfl)) (hw _ (List.mem_of_getElem? (i := 14) rfl)) (by decide) (by decide)) q45a q45c (g := (mkF m 166 #[.val (.long q1), .second, .val (.long q2), .second, .val (.int p3), .val (.int p4), .val (.long mo), .second, .val (.long g), .second, .val (.long l0), .second, .val (.int cn), .val (.ref b25), .val (.int (1 : Int32)), .val (.int (if (mo - (cn.toInt64)) < l0 then (0 : Int32) else (1 : Int32))), .val (.long (if (mo - (cn.toInt64)) < l0 then l0 else (l0 + (cn.toInt64)))), .second, .val (.long (l0 + (cn.toInt64))), .second] [(.ref b25)])) rfl (by rw [hml]; rfl) (Steps.refl _) (argsL := []) (rest := []) (lenOf own_pd4 rfl) rfl (by show 2 * 0 + _ ≤ _; exact Nat.le_of_eq rfl) (hb hby at_166) (fun _ _ => ⟨rfl, e44, (by decide : 1 + 0 ≤ _), (by decide : 2 + 0 ≤ _)⟩)
        dsimp only [Pt.U, Pt.locs, Pt.cells, Pt.slots] at X45 l45 y45 z45 st45 hQ45
        subst l45 y45 z45
        obtain ⟨rfl, Nq45, e45⟩ := hQ45
        have N45 := Fr.app N44 Nq45
        refine own_up ?_ (fun t k => st45.trans k)
        show own_G p.tables e below s _ _ _ (T45.setTop (mkF m 169 #[.val (.long q1), .second, .val (.long q2), .second, .val (.int p3), .val (.int p4), .val (.long mo), .second, .val (.long g), .second, .val (.long l0), .second, .val (.int cn), .val (.ref b25), .val (.int (1 : Int32)), .val (.int (if (mo - (cn.toInt64)) < l0 then (0 : Int32) else (1 : Int32))), .val (.long (if (mo - (cn.toInt64)) < l0 then l0 else (l0 + (cn.toInt64)))), .second, .val (.long (l0 + (cn.toInt64))), .second] [(.long mo)]))
        refine own_up ?_ fun t k => XS.lload X45.here hx rfl (hb hby at_169) rfl k
        show own_G p.tables e below s _ _ _ (T45.setTop (mkF m 171 #[.val (.long q1), .second, .val (.long q2), .second, .val (.int p3), .val (.int p4), .val (.long mo), .second, .val (.long g), .second, .val (.long l0), .second, .val (.int cn), .val (.ref b25), .val (.int (1 : Int32)), .val (.int (if (mo - (cn.toInt64)) < l0 then (0 : Int32) else (1 : Int32))), .val (.long (if (mo - (cn.toInt64)) < l0 then l0 else (l0 + (cn.toInt64)))), .second, .val (.long (l0 + (cn.toInt64))), .second] [(.long mo), (.long mo)]))
        refine own_up ?_ fun t k => XS.lcmp X45.here hx rfl (hb hby at_171) rfl k
        show own_G p.tables e below s _ _ _ (T45.setTop (mkF m 172 #[.val (.long q1), .second, .val (.long q2), .second, .val (.int p3), .val (.int p4), .val (.long mo), .second, .val (.long g), .second, .val (.long l0), .second, .val (.int cn), .val (.ref b25), .val (.int (1 : Int32)), .val (.int (if (mo - (cn.toInt64)) < l0 then (0 : Int32) else (1 : Int32))), .val (.long (if (mo - (cn.toInt64)) < l0 then l0 else (l0 + (cn.toInt64)))), .second, .val (.long (l0 + (cn.toInt64))), .second] [(.int (lcmpW mo mo))]))
        refine own_up ?_ fun t k => XS.ifNo X45.here hx rfl (hb hby at_172) rfl ((if0 _ _).trans (teq ((lw_eq _ _).mpr (rfl : (mo = mo)))).2) k
        show own_G p.tables e below s _ _ _ (T45.setTop (mkF m 175 #[.val (.long q1), .second, .val (.long q2), .second, .val (.int p3), .val (.int p4), .val (.long mo), .second, .val (.long g), .second, .val (.long l0), .second, .val (.int cn), .val (.ref b25), .val (.int (1 : Int32)), .val (.int (if (mo - (cn.toInt64)) < l0 then (0 : Int32) else (1 : Int32))), .val (.long (if (mo - (cn.toInt64)) < l0 then l0 else (l0 + (cn.toInt64)))), .second, .val (.long (l0 + (cn.toInt64))), .second] []))
        refine own_up ?_ fun t k => XS.iconst X45.here hx rfl (hb hby at_175) k
        show own_G p.tables e below s _ _ _ (T45.setTop (mkF m 176 #[.val (.long q1), .second, .val (.long q2), .second, .val (.int p3), .val (.int p4), .val (.long mo), .second, .val (.long g), .second, .val (.long l0), .second, .val (.int cn), .val (.ref b25), .val (.int (1 : Int32)), .val (.int (if (mo - (cn.toInt64)) < l0 then (0 : Int32) else (1 : Int32))), .val (.long (if (mo - (cn.toInt64)) < l0 then l0 else (l0 + (cn.toInt64)))), .second, .val (.long (l0 + (cn.toInt64))), .second] [(.int (1 : Int32))]))
        refine own_up ?_ fun t k => XS.goto X45.here hx rfl (pc0 := 176) (pc' := 180) rfl (hb hby at_176) (by decide) (by decide) k
        show own_G p.tables e below s _ _ _ (T45.setTop (mkF m 180 #[.val (.long q1), .second, .val (.long q2), .second, .val (.int p3), .val (.int p4), .val (.long mo), .second, .val (.long g), .second, .val (.long l0), .second, .val (.int cn), .val (.ref b25), .val (.int (1 : Int32)), .val (.int (if (mo - (cn.toInt64)) < l0 then (0 : Int32) else (1 : Int32))), .val (.long (if (mo - (cn.toInt64)) < l0 then l0 else (l0 + (cn.toInt64)))), .second, .val (.long (l0 + (cn.toInt64))), .second] [(.int (1 : Int32))]))
        exact own_retI X45 hx hlk Bd.returns (by simp) rfl (hb hby at_180) ⟨rfl, N45⟩ (by decide) (by decide)
  by_cases hc11_46 : (p4 &&& (1 : Int32)) = (0 : Int32)
  · refine own_up ?_ fun t k => XS.ifNo X23.here hx rfl (hb hby at_11) rfl ((if0 _ _).trans (teq hc11_46).2) k
    show own_G p.tables e below s _ _ _ (T23.setTop (mkF m 14 #[.val (.long q1), .second, .val (.long q2), .second, .val (.int p3), .val (.int p4), .val (.long mo), .second, .unset, .unset, .unset, .unset, .unset, .unset, .unset, .unset, .unset, .unset, .unset, .unset] []))
    refine own_up ?_ fun t k => XS.lloadN X23.here hx rfl (hb hby at_14) rfl k
    show own_G p.tables e below s _ _ _ (T23.setTop (mkF m 15 #[.val (.long q1), .second, .val (.long q2), .second, .val (.int p3), .val (.int p4), .val (.long mo), .second, .unset, .unset, .unset, .unset, .unset, .unset, .unset, .unset, .unset, .unset, .unset, .unset] [(.long q2)]))
    refine own_up ?_ fun t k => X23.ldc2Long hx hown (mvT hZ (hw _ (List.mem_of_getElem? (i := 45) rfl))) (g := (mkF m 15 #[.val (.long q1), .second, .val (.long q2), .second, .val (.int p3), .val (.int p4), .val (.long mo), .second, .unset, .unset, .unset, .unset, .unset, .unset, .unset, .unset, .unset, .unset, .unset, .unset] [(.long q2)])) rfl (hb hby at_15) _ k
    show own_G p.tables e below s _ _ _ (T23.setTop (mkF m 18 #[.val (.long q1), .second, .val (.long q2), .second, .val (.int p3), .val (.int p4), .val (.long mo), .second, .unset, .unset, .unset, .unset, .unset, .unset, .unset, .unset, .unset, .unset, .unset, .unset] [(.long (9223372036854775807 : Int64)), (.long q2)]))
    refine own_up ?_ fun t k => XS.land X23.here hx rfl (hb hby at_18) rfl k
    show own_G p.tables e below s _ _ _ (T23.setTop (mkF m 19 #[.val (.long q1), .second, .val (.long q2), .second, .val (.int p3), .val (.int p4), .val (.long mo), .second, .unset, .unset, .unset, .unset, .unset, .unset, .unset, .unset, .unset, .unset, .unset, .unset] [(.long (q2 &&& (9223372036854775807 : Int64)))]))
    refine own_up ?_ fun t k => XS.lstore X23.here hx rfl (hb hby at_19) rfl (l' := #[.val (.long q1), .second, .val (.long q2), .second, .val (.int p3), .val (.int p4), .val (.long mo), .second, .unset, .unset, .val (.long (q2 &&& (9223372036854775807 : Int64))), .second, .unset, .unset, .unset, .unset, .unset, .unset, .unset, .unset]) rfl k
    show own_G p.tables e below s _ _ _ (T23.setTop (mkF m 21 #[.val (.long q1), .second, .val (.long q2), .second, .val (.int p3), .val (.int p4), .val (.long mo), .second, .unset, .unset, .val (.long (q2 &&& (9223372036854775807 : Int64))), .second, .unset, .unset, .unset, .unset, .unset, .unset, .unset, .unset] []))
    refine own_up ?_ fun t k => XS.lload X23.here hx rfl (hb hby at_21) rfl k
    show own_G p.tables e below s _ _ _ (T23.setTop (mkF m 23 #[.val (.long q1), .second, .val (.long q2), .second, .val (.int p3), .val (.int p4), .val (.long mo), .second, .unset, .unset, .val (.long (q2 &&& (9223372036854775807 : Int64))), .second, .unset, .unset, .unset, .unset, .unset, .unset, .unset, .unset] [(.long mo)]))
    refine own_up ?_ fun t k => X23.ldc2Long hx hown (mvT hZ (hw _ (List.mem_of_getElem? (i := 45) rfl))) (g := (mkF m 23 #[.val (.long q1), .second, .val (.long q2), .second, .val (.int p3), .val (.int p4), .val (.long mo), .second, .unset, .unset, .val (.long (q2 &&& (9223372036854775807 : Int64))), .second, .unset, .unset, .unset, .unset, .unset, .unset, .unset, .unset] [(.long mo)])) rfl (hb hby at_23) _ k
    show own_G p.tables e below s _ _ _ (T23.setTop (mkF m 26 #[.val (.long q1), .second, .val (.long q2), .second, .val (.int p3), .val (.int p4), .val (.long mo), .second, .unset, .unset, .val (.long (q2 &&& (9223372036854775807 : Int64))), .second, .unset, .unset, .unset, .unset, .unset, .unset, .unset, .unset] [(.long (9223372036854775807 : Int64)), (.long mo)]))
    refine own_up ?_ fun t k => XS.lcmp X23.here hx rfl (hb hby at_26) rfl k
    show own_G p.tables e below s _ _ _ (T23.setTop (mkF m 27 #[.val (.long q1), .second, .val (.long q2), .second, .val (.int p3), .val (.int p4), .val (.long mo), .second, .unset, .unset, .val (.long (q2 &&& (9223372036854775807 : Int64))), .second, .unset, .unset, .unset, .unset, .unset, .unset, .unset, .unset] [(.int (lcmpW mo (9223372036854775807 : Int64)))]))
    by_cases hc27_47 : mo = (9223372036854775807 : Int64)
    · refine own_up ?_ fun t k => XS.ifNo X23.here hx rfl (hb hby at_27) rfl ((if0 _ _).trans (teq ((lw_eq _ _).mpr hc27_47)).2) k
      show own_G p.tables e below s _ _ _ (T23.setTop (mkF m 30 #[.val (.long q1), .second, .val (.long q2), .second, .val (.int p3), .val (.int p4), .val (.long mo), .second, .unset, .unset, .val (.long (q2 &&& (9223372036854775807 : Int64))), .second, .unset, .unset, .unset, .unset, .unset, .unset, .unset, .unset] []))
      refine own_up ?_ fun t k => XS.lload X23.here hx rfl (hb hby at_30) rfl k
      show own_G p.tables e below s _ _ _ (T23.setTop (mkF m 32 #[.val (.long q1), .second, .val (.long q2), .second, .val (.int p3), .val (.int p4), .val (.long mo), .second, .unset, .unset, .val (.long (q2 &&& (9223372036854775807 : Int64))), .second, .unset, .unset, .unset, .unset, .unset, .unset, .unset, .unset] [(.long (q2 &&& (9223372036854775807 : Int64)))]))
      refine own_up ?_ fun t k => XS.lstore X23.here hx rfl (hb hby at_32) rfl (l' := #[.val (.long q1), .second, .val (.long q2), .second, .val (.int p3), .val (.int p4), .val (.long mo), .second, .val (.long (q2 &&& (9223372036854775807 : Int64))), .second, .val (.long (q2 &&& (9223372036854775807 : Int64))), .second, .unset, .unset, .unset, .unset, .unset, .unset, .unset, .unset]) rfl k
      show own_G p.tables e below s _ _ _ (T23.setTop (mkF m 34 #[.val (.long q1), .second, .val (.long q2), .second, .val (.int p3), .val (.int p4), .val (.long mo), .second, .val (.long (q2 &&& (9223372036854775807 : Int64))), .second, .val (.long (q2 &&& (9223372036854775807 : Int64))), .second, .unset, .unset, .unset, .unset, .unset, .unset, .unset, .unset] []))
      refine own_up ?_ fun t k => XS.goto X23.here hx rfl (pc0 := 34) (pc' := 46) rfl (hb hby at_34) (by decide) (by decide) k
      show own_G p.tables e below s _ _ _ (T23.setTop (mkF m 46 #[.val (.long q1), .second, .val (.long q2), .second, .val (.int p3), .val (.int p4), .val (.long mo), .second, .val (.long (q2 &&& (9223372036854775807 : Int64))), .second, .val (.long (q2 &&& (9223372036854775807 : Int64))), .second, .unset, .unset, .unset, .unset, .unset, .unset, .unset, .unset] []))
      refine own_up ?_ fun t k => XS.goto X23.here hx rfl (pc0 := 46) (pc' := 61) rfl (hb hby at_46) (by decide) (by decide) k
      show own_G p.tables e below s _ _ _ (T23.setTop (mkF m 61 #[.val (.long q1), .second, .val (.long q2), .second, .val (.int p3), .val (.int p4), .val (.long mo), .second, .val (.long (q2 &&& (9223372036854775807 : Int64))), .second, .val (.long (q2 &&& (9223372036854775807 : Int64))), .second, .unset, .unset, .unset, .unset, .unset, .unset, .unset, .unset] []))
      exact J61 _ _ _ _ _ X23 e23 N23 (Or.inr ⟨_, rfl, rfl⟩) (own_g1 h_mo hc27_47)
    · refine own_up ?_ fun t k => XS.ifYes X23.here hx rfl (pc0 := 27) (pc' := 37) rfl (hb hby at_27) rfl ((if0 _ _).trans (feq (fun q => hc27_47 ((lw_eq _ _).mp q))).2) (by decide) (by decide) k
      show own_G p.tables e below s _ _ _ (T23.setTop (mkF m 37 #[.val (.long q1), .second, .val (.long q2), .second, .val (.int p3), .val (.int p4), .val (.long mo), .second, .unset, .unset, .val (.long (q2 &&& (9223372036854775807 : Int64))), .second, .unset, .unset, .unset, .unset, .unset, .unset, .unset, .unset] []))
      refine own_up ?_ fun t k => XS.lload X23.here hx rfl (hb hby at_37) rfl k
      show own_G p.tables e below s _ _ _ (T23.setTop (mkF m 39 #[.val (.long q1), .second, .val (.long q2), .second, .val (.int p3), .val (.int p4), .val (.long mo), .second, .unset, .unset, .val (.long (q2 &&& (9223372036854775807 : Int64))), .second, .unset, .unset, .unset, .unset, .unset, .unset, .unset, .unset] [(.long (q2 &&& (9223372036854775807 : Int64)))]))
      refine own_up ?_ fun t k => XS.lload X23.here hx rfl (hb hby at_39) rfl k
      show own_G p.tables e below s _ _ _ (T23.setTop (mkF m 41 #[.val (.long q1), .second, .val (.long q2), .second, .val (.int p3), .val (.int p4), .val (.long mo), .second, .unset, .unset, .val (.long (q2 &&& (9223372036854775807 : Int64))), .second, .unset, .unset, .unset, .unset, .unset, .unset, .unset, .unset] [(.long mo), (.long (q2 &&& (9223372036854775807 : Int64)))]))
      refine own_up ?_ fun t k => XS.lconst X23.here hx rfl (hb hby at_41) k
      show own_G p.tables e below s _ _ _ (T23.setTop (mkF m 42 #[.val (.long q1), .second, .val (.long q2), .second, .val (.int p3), .val (.int p4), .val (.long mo), .second, .unset, .unset, .val (.long (q2 &&& (9223372036854775807 : Int64))), .second, .unset, .unset, .unset, .unset, .unset, .unset, .unset, .unset] [(.long (1 : Int64)), (.long mo), (.long (q2 &&& (9223372036854775807 : Int64)))]))
      refine own_up ?_ fun t k => XS.ladd X23.here hx rfl (hb hby at_42) rfl k
      show own_G p.tables e below s _ _ _ (T23.setTop (mkF m 43 #[.val (.long q1), .second, .val (.long q2), .second, .val (.int p3), .val (.int p4), .val (.long mo), .second, .unset, .unset, .val (.long (q2 &&& (9223372036854775807 : Int64))), .second, .unset, .unset, .unset, .unset, .unset, .unset, .unset, .unset] [(.long (mo + (1 : Int64))), (.long (q2 &&& (9223372036854775807 : Int64)))]))
      refine own_up ?_ fun t k => XS.lrem X23.here hx rfl (hb hby at_43) rfl (own_nz h_mo) k
      show own_G p.tables e below s _ _ _ (T23.setTop (mkF m 44 #[.val (.long q1), .second, .val (.long q2), .second, .val (.int p3), .val (.int p4), .val (.long mo), .second, .unset, .unset, .val (.long (q2 &&& (9223372036854775807 : Int64))), .second, .unset, .unset, .unset, .unset, .unset, .unset, .unset, .unset] [(.long ((q2 &&& (9223372036854775807 : Int64)) - ((q2 &&& (9223372036854775807 : Int64)) / (mo + (1 : Int64))) * (mo + (1 : Int64))))]))
      refine own_up ?_ fun t k => XS.lstore X23.here hx rfl (hb hby at_44) rfl (l' := #[.val (.long q1), .second, .val (.long q2), .second, .val (.int p3), .val (.int p4), .val (.long mo), .second, .val (.long ((q2 &&& (9223372036854775807 : Int64)) - ((q2 &&& (9223372036854775807 : Int64)) / (mo + (1 : Int64))) * (mo + (1 : Int64)))), .second, .val (.long (q2 &&& (9223372036854775807 : Int64))), .second, .unset, .unset, .unset, .unset, .unset, .unset, .unset, .unset]) rfl k
      show own_G p.tables e below s _ _ _ (T23.setTop (mkF m 46 #[.val (.long q1), .second, .val (.long q2), .second, .val (.int p3), .val (.int p4), .val (.long mo), .second, .val (.long ((q2 &&& (9223372036854775807 : Int64)) - ((q2 &&& (9223372036854775807 : Int64)) / (mo + (1 : Int64))) * (mo + (1 : Int64)))), .second, .val (.long (q2 &&& (9223372036854775807 : Int64))), .second, .unset, .unset, .unset, .unset, .unset, .unset, .unset, .unset] []))
      refine own_up ?_ fun t k => XS.goto X23.here hx rfl (pc0 := 46) (pc' := 61) rfl (hb hby at_46) (by decide) (by decide) k
      show own_G p.tables e below s _ _ _ (T23.setTop (mkF m 61 #[.val (.long q1), .second, .val (.long q2), .second, .val (.int p3), .val (.int p4), .val (.long mo), .second, .val (.long ((q2 &&& (9223372036854775807 : Int64)) - ((q2 &&& (9223372036854775807 : Int64)) / (mo + (1 : Int64))) * (mo + (1 : Int64)))), .second, .val (.long (q2 &&& (9223372036854775807 : Int64))), .second, .unset, .unset, .unset, .unset, .unset, .unset, .unset, .unset] []))
      exact J61 _ _ _ _ _ X23 e23 N23 (Or.inr ⟨_, rfl, rfl⟩) (own_g2 h_mo hc27_47)
  · refine own_up ?_ fun t k => XS.ifYes X23.here hx rfl (pc0 := 11) (pc' := 49) rfl (hb hby at_11) rfl ((if0 _ _).trans (feq hc11_46).2) (by decide) (by decide) k
    show own_G p.tables e below s _ _ _ (T23.setTop (mkF m 49 #[.val (.long q1), .second, .val (.long q2), .second, .val (.int p3), .val (.int p4), .val (.long mo), .second, .unset, .unset, .unset, .unset, .unset, .unset, .unset, .unset, .unset, .unset, .unset, .unset] []))
    refine own_up ?_ fun t k => XS.lload X23.here hx rfl (hb hby at_49) rfl k
    show own_G p.tables e below s _ _ _ (T23.setTop (mkF m 51 #[.val (.long q1), .second, .val (.long q2), .second, .val (.int p3), .val (.int p4), .val (.long mo), .second, .unset, .unset, .unset, .unset, .unset, .unset, .unset, .unset, .unset, .unset, .unset, .unset] [(.long mo)]))
    refine own_up ?_ fun t k => XS.lloadN X23.here hx rfl (hb hby at_51) rfl k
    show own_G p.tables e below s _ _ _ (T23.setTop (mkF m 52 #[.val (.long q1), .second, .val (.long q2), .second, .val (.int p3), .val (.int p4), .val (.long mo), .second, .unset, .unset, .unset, .unset, .unset, .unset, .unset, .unset, .unset, .unset, .unset, .unset] [(.long q2), (.long mo)]))
    refine own_up ?_ fun t k => X23.ldc2Long hx hown (mvT hZ (hw _ (List.mem_of_getElem? (i := 4) rfl))) (g := (mkF m 52 #[.val (.long q1), .second, .val (.long q2), .second, .val (.int p3), .val (.int p4), .val (.long mo), .second, .unset, .unset, .unset, .unset, .unset, .unset, .unset, .unset, .unset, .unset, .unset, .unset] [(.long q2), (.long mo)])) rfl (hb hby at_52) _ k
    show own_G p.tables e below s _ _ _ (T23.setTop (mkF m 55 #[.val (.long q1), .second, .val (.long q2), .second, .val (.int p3), .val (.int p4), .val (.long mo), .second, .unset, .unset, .unset, .unset, .unset, .unset, .unset, .unset, .unset, .unset, .unset, .unset] [(.long (4294967295 : Int64)), (.long q2), (.long mo)]))
    refine own_up ?_ fun t k => XS.land X23.here hx rfl (hb hby at_55) rfl k
    show own_G p.tables e below s _ _ _ (T23.setTop (mkF m 56 #[.val (.long q1), .second, .val (.long q2), .second, .val (.int p3), .val (.int p4), .val (.long mo), .second, .unset, .unset, .unset, .unset, .unset, .unset, .unset, .unset, .unset, .unset, .unset, .unset] [(.long (q2 &&& (4294967295 : Int64))), (.long mo)]))
    obtain ⟨_, _, ⟨T48, L48, k48, n48⟩, -, X48, ⟨Lc48, hQ48, l48, y48, z48⟩, st48⟩ := Jvm.LawKit.callS X23 hx (y := (⟨"java/lang/Math", "min", "(JJ)J"⟩ : MethodName)) hown (mvT hZ (hw _ (List.mem_of_getElem? (i := 5) rfl))) (mvT hZ (hw _ (List.mem_of_getElem? (i := 6) rfl))) (mvT hZ (hw _ (List.mem_of_getElem? (i := 2) rfl))) (mvT hZ (hw _ (List.mem_of_getElem? (i := 7) rfl))) (by decide) (backOf (W := 0) (rm2 l Z a0 hw [] mo (q2 &&& (4294967295 : Int64))  h0 n0 Z0 ) hZ (hw _ (List.mem_of_getElem? (i := 7) rfl)) (hw _ (List.mem_of_getElem? (i := 2) rfl)) (by decide) (by decide)) (g := (mkF m 56 #[.val (.long q1), .second, .val (.long q2), .second, .val (.int p3), .val (.int p4), .val (.long mo), .second, .unset, .unset, .unset, .unset, .unset, .unset, .unset, .unset, .unset, .unset, .unset, .unset] [(.long (q2 &&& (4294967295 : Int64))), (.long mo)])) rfl (by rw [hml]; rfl) (argsL := [(.long mo), (.long (q2 &&& (4294967295 : Int64)))]) (rest := []) (lenOf own_pd0 rfl) rfl (by show 2 * 0 + _ ≤ _; exact Nat.le_of_eq rfl) (hb hby at_56) (fun _ _ => ⟨rfl, e23, (by decide : 0 + 0 ≤ _), (by decide : 0 + 0 ≤ _)⟩)
    dsimp only [Pt.U, Pt.locs, Pt.cells, Pt.slots] at X48 l48 y48 z48 st48 hQ48
    subst l48 y48 z48
    obtain ⟨rfl, Nq48, e48⟩ := hQ48
    have N48 := Fr.app N23 Nq48
    refine own_up ?_ (st48)
    show own_G p.tables e below s _ _ _ (T48.setTop (mkF m 59 #[.val (.long q1), .second, .val (.long q2), .second, .val (.int p3), .val (.int p4), .val (.long mo), .second, .unset, .unset, .unset, .unset, .unset, .unset, .unset, .unset, .unset, .unset, .unset, .unset] [(.long (own_min mo (q2 &&& (4294967295 : Int64))))]))
    refine own_up ?_ fun t k => XS.lstore X48.here hx rfl (hb hby at_59) rfl (l' := #[.val (.long q1), .second, .val (.long q2), .second, .val (.int p3), .val (.int p4), .val (.long mo), .second, .val (.long (own_min mo (q2 &&& (4294967295 : Int64)))), .second, .unset, .unset, .unset, .unset, .unset, .unset, .unset, .unset, .unset, .unset]) rfl k
    show own_G p.tables e below s _ _ _ (T48.setTop (mkF m 61 #[.val (.long q1), .second, .val (.long q2), .second, .val (.int p3), .val (.int p4), .val (.long mo), .second, .val (.long (own_min mo (q2 &&& (4294967295 : Int64)))), .second, .unset, .unset, .unset, .unset, .unset, .unset, .unset, .unset, .unset, .unset] []))
    exact J61 _ _ _ _ _ X48 e48 N48 (Or.inl ⟨rfl, rfl⟩) (own_g3 h_mo)
set_option maxRecDepth 65536 in
set_option maxHeartbeats 40000000 in
theorem comes_1 {Post : Tables → Env → Array Value → State → Outcome → State → Prop} (hpost : ∀ tb e args s v u, (limb_1_1.after args s (.returned v) u = true ∧ limb_1_2.after args s (.returned v) u = true ∧ True) → FrameEnd s (.returned v) u (Jvm.fieldLocs frame_1_writes args s ++ Jvm.arrayLocs frame_1_arrays args s ++ Jvm.staticLocs frame_1_statics s) 16 128 → Post tb e args s (.returned v) u) :
    ArmFor flags0 classFile x code maxLocals ret World_1 tables_1 room_1 Calls_1 rest_1 Pre_1 Post := by
  intro l hfl _ _ p e ha hc hk s m args below hf hA hF happ hP
  obtain ⟨hcalls, hrest, hpre⟩ := hP
  obtain ⟨-, -, -, hnamed, -, -, -, hat⟩ := (Spec.applies_iff hf).mp happ
  obtain ⟨hg, hn⟩ := and_e (Cond.before_iff.mp (show (Jvm.Cond.and given_1 narrow_1).before args s = true from hpre))
  obtain ⟨gc, g0⟩ := and_e hg
  obtain ⟨gv0, g1⟩ := and_e g0
  obtain ⟨gv1, g2⟩ := and_e g1
  obtain ⟨gv2, g3⟩ := and_e g2
  obtain ⟨w0, w1, w2, w3, rfl⟩ : ∃ w0 w1 w2 w3 : Value, args = #[w0, w1, w2, w3] := by
    have hs : args.size = 4 := by simpa [Cond.value, given_1] using gc
    obtain ⟨L⟩ := args
    match L, hs with
    | [w0, w1, w2, w3], _ => exact ⟨w0, w1, w2, w3, rfl⟩
  have hw := fun d (hd : d ∈ tables_1) => atoms_spec (ws := Jvm.Cond.code x code maxLocals ret :: tables_1) hat d (List.mem_cons_of_mem _ hd)
  have hfit : Fit s := fun {y c} hc i hi => by
    obtain ⟨ha, rfl⟩ := Array.getElem?_eq_some_iff.mp hc
    have q := List.all_eq_true.mp ((Array.all_eq_true_iff_forall_mem.mp hF) _ (Array.getElem_mem ha)) i (List.mem_range.mpr hi)
    simpa [Array.getElem?_eq_getElem hi] using q
  obtain ⟨i0, ei0⟩ := isL_v gv0
  obtain rfl : w0 = (.long i0) := Option.some.inj ei0
  obtain ⟨i1, ei1⟩ := isL_v gv1
  obtain rfl : w1 = (.long i1) := Option.some.inj ei1
  obtain ⟨i2, ei2⟩ := is_v gv2
  obtain rfl : w2 = (.int i2) := Option.some.inj ei2
  obtain ⟨i3, ei3⟩ := is_v g3
  obtain rfl : w3 = (.int i3) := Option.some.inj ei3
  obtain ⟨n, o, h1, h2, h3, _, L, rfl, ⟨rfl, N⟩, hq⟩ := rm0 l s _ hw tables_1 i0 i1 i2 i3  s.heap s.heap.size (Nat.le_refl _)  p e ha hc hk s m _ below hf ((Spec.applies_iff_loose hf).mp happ).1 ⟨rfl, State.Warmed39.refl s, rfl⟩ trivial
  refine ⟨n, _, h1, h2, h3, hpost _ _ _ _ _ _ ⟨Cond.after_iff.mpr rfl, Cond.after_iff.mpr (eq_i res_at (Term.int_eval (1)) rfl), trivial⟩ ⟨hq.1, hq.2.1, (hq.2.2.sift fun y hy => Or.inr (N y hy)).mono (by decide) (by decide)⟩⟩
theorem main_1_1 : Claimed_1_1 := comes_1 fun _ _ _ _ _ _ h hF => ⟨h.1, hF⟩
theorem main_1_2 : Claimed_1_2 := comes_1 fun _ _ _ _ _ _ h hF => ⟨h.2.1, hF⟩
end Jvm.Pilot.@@N@@
namespace Jvm.Pilot.@@N@@
open Jvm Jvm.ClassFile Sem Op Lib Jvm.Free Jvm.Stand Jvm.Pilot.@@N@@.Jvm.D
/-! MADE BY PROGRAM (witnessworld.py) out of the Statement's table words and the real class files: 10 classes; the members and pool entries that the words name. The judged class is class 1, her method 1. -/
namespace start1
open Jvm.ClassFile
def u (s : String) : CpInfo := .utf8 (stringToUtf16 s)
/-- a pool by its gaps: so many unusable entries, then the entry; so many at the end -/
def gap : Nat → List CpInfo → List CpInfo
  | 0, r => r
  | n + 1, r => .unusable :: gap n r
def poolList (es : List (Nat × CpInfo)) (last : Nat) : List CpInfo := es.foldr (fun e r => gap e.1 (e.2 :: r)) (gap last [])
def pool (es : List (Nat × CpInfo)) (last : Nat) : Array CpInfo := ⟨poolList es last⟩
def fileOf (pool : Array CpInfo) (this : Nat) (attrs : Array Attribute := #[]) (ms : Array MethodInfo := #[]) (fl : Nat := 33) (sup : Nat := 0) (ifs : Array Nat := #[]) (fds : Array FieldInfo := #[]) : ClassFile where
  minorVersion := 0
  majorVersion := 65
  constantPool := pool
  accessFlags := fl
  thisClass := this
  superClass := sup
  interfaces := ifs
  fields := fds
  methods := ms
  attributes := attrs
def plain (name : String) (sup : Option ClassId) : Class where
  name := name
  kind := .ordinary
  loader := none
  accessFlags := 33
  super := sup
  interfaces := #[]
  cf := none
  fields := #[]
  methods := #[]
  instanceTypes := #[]
  staticTypes := #[]
  resolved := #[]
  callSites := []
  init := .initialized
  statics := none
  mirror := none

def pool0 : Array CpInfo := pool [(5, u "<init>"), (0, u "()V"), (1, .class_ 10), (1, u "java/lang/Object")] 113

def k0c0 : Code := { maxStack := 0, maxLocals := 1, code := object_method_1_code, exceptionTable := #[], attributes := #[] }
def k0m0 : Method := { name := "<init>", desc := "()V", sig := { parameters := [], returnType := none }, accessFlags := 1, code := some k0c0 }
/-- java/lang/Object -/
def k0 : Class := { plain "java/lang/Object" none with
  accessFlags := 33
  interfaces := #[]
  cf := some (fileOf pool0 8 #[] #[{ accessFlags := 1, nameIndex := 5, descriptorIndex := 6, attributes := #[] }] 33 0 #[] #[])
  fields := #[]
  methods := #[k0m0]
  instanceTypes := #[]
  staticTypes := #[]
  resolved := Array.replicate 124 none
  statics := none }

def pool1 : Array CpInfo := pool [(2, .class_ 4), (1, u "java/lang/Object"), (0, u "<init>"), (0, u "()V"), (0, .methodref 8 9), (0, .class_ 10), (0, .nameAndType 11 12), (0, u "java/lang/Math"), (0, u "max"), (0, u "(JJ)J"), (2, .long 9223372036854775807), (1, .long 4294967295), (1, .methodref 8 20), (0, .nameAndType 21 12), (0, u "min"), (2, .integer 2147483647), (0, .methodref 8 26), (0, .nameAndType 11 27), (0, u "(II)I"), (0, .class_ 29), (0, u "com/example/eventweir/eventweir/PatternStates"), (0, .methodref 28 31), (0, .nameAndType 5 32), (0, u "(J)V"), (0, .methodref 28 34), (0, .nameAndType 35 32), (0, u "reset"), (0, .methodref 28 37), (0, .nameAndType 38 39), (0, u "start"), (0, u "(I)Z"), (0, .methodref 28 41), (0, .nameAndType 42 43), (0, u "live"), (0, u "()J"), (0, .methodref 28 45), (0, .nameAndType 46 43), (0, u "most"), (0, .class_ 48), (0, u "com/example/eventweir/eventweir/PatternStatesStartPinLaw"), (2, u "law"), (0, u "(JJII)Z")] 3

def k1m0 : Method := { name := "<init>", desc := "()V", sig := { parameters := [], returnType := none }, accessFlags := 1, code := none }
def k1c1 : Code := { maxStack := 6, maxLocals := 20, code := code, exceptionTable := #[], attributes := #[] }
def k1m1 : Method := { name := "law", desc := "(JJII)Z", sig := { parameters := [.long, .long, .int, .int], returnType := some .boolean }, accessFlags := 9, code := some k1c1 }
/-- com/example/eventweir/eventweir/PatternStatesStartPinLaw -/
def k1 : Class := { plain "com/example/eventweir/eventweir/PatternStatesStartPinLaw" (some 0) with
  accessFlags := 49
  interfaces := #[]
  cf := some (fileOf pool1 47 #[] #[{ accessFlags := 1, nameIndex := 5, descriptorIndex := 6, attributes := #[] }, { accessFlags := 9, nameIndex := 51, descriptorIndex := 52, attributes := #[] }] 49 2 #[] #[])
  fields := #[]
  methods := #[k1m0, k1m1]
  instanceTypes := #[]
  staticTypes := #[]
  resolved := Array.replicate 56 none
  statics := none }

def pool2 : Array CpInfo := pool [(1, .class_ 2), (0, u "java/lang/Math"), (1, .class_ 6), (1, u "java/lang/Object"), (0, u "<init>"), (0, u "()V"), (89, .class_ 100), (1, u "java/lang/Math$RandomNumberGeneratorHolder"), (20, u "(JJ)J"), (50, u "negativeZeroFloatBits"), (0, u "J"), (2, u "negativeZeroDoubleBits"), (21, u "max"), (2, u "min"), (43, u "$assertionsDisabled"), (0, u "Z"), (88, u "(II)I"), (2, u "twoToTheDoubleScaleDown"), (0, u "D"), (4, u "twoToTheDoubleScaleUp"), (9, u "E"), (3, u "PI"), (2, u "TAU"), (2, u "DEGREES_TO_RADIANS"), (0, u "RADIANS_TO_DEGREES")] 94

def k2m0 : Method := { name := "<init>", desc := "()V", sig := { parameters := [], returnType := none }, accessFlags := 2, code := none }
def k2c1 : Code := { maxStack := 2, maxLocals := 2, code := jdk_29_method_65_code, exceptionTable := #[], attributes := #[] }
def k2m1 : Method := { name := "max", desc := "(II)I", sig := { parameters := [.int, .int], returnType := some .int }, accessFlags := 9, code := some k2c1 }
def k2c2 : Code := { maxStack := 4, maxLocals := 4, code := jdk_29_method_66_code, exceptionTable := #[], attributes := #[] }
def k2m2 : Method := { name := "max", desc := "(JJ)J", sig := { parameters := [.long, .long], returnType := some .long }, accessFlags := 9, code := some k2c2 }
def k2c3 : Code := { maxStack := 4, maxLocals := 4, code := jdk_29_method_70_code, exceptionTable := #[], attributes := #[] }
def k2m3 : Method := { name := "min", desc := "(JJ)J", sig := { parameters := [.long, .long], returnType := some .long }, accessFlags := 9, code := some k2c3 }
/-- java/lang/Math -/
def k2 : Class := { plain "java/lang/Math" (some 0) with
  accessFlags := 49
  interfaces := #[]
  cf := some (fileOf pool2 1 #[.nestMembers #[98]] #[{ accessFlags := 2, nameIndex := 7, descriptorIndex := 8, attributes := #[] }, { accessFlags := 9, nameIndex := 198, descriptorIndex := 335, attributes := #[] }, { accessFlags := 9, nameIndex := 198, descriptorIndex := 121, attributes := #[] }, { accessFlags := 9, nameIndex := 201, descriptorIndex := 121, attributes := #[] }] 49 4 #[] #[{ accessFlags := 25, nameIndex := 354, descriptorIndex := 339, attributes := #[] }, { accessFlags := 25, nameIndex := 358, descriptorIndex := 339, attributes := #[] }, { accessFlags := 25, nameIndex := 361, descriptorIndex := 339, attributes := #[] }, { accessFlags := 26, nameIndex := 364, descriptorIndex := 339, attributes := #[] }, { accessFlags := 26, nameIndex := 365, descriptorIndex := 339, attributes := #[] }, { accessFlags := 26, nameIndex := 172, descriptorIndex := 173, attributes := #[] }, { accessFlags := 26, nameIndex := 176, descriptorIndex := 173, attributes := #[] }, { accessFlags := 8, nameIndex := 344, descriptorIndex := 339, attributes := #[] }, { accessFlags := 8, nameIndex := 338, descriptorIndex := 339, attributes := #[] }, { accessFlags := 4120, nameIndex := 245, descriptorIndex := 246, attributes := #[] }])
  fields := #[{ name := "E", type := .double, accessFlags := 25, slot := 0, constantValue := 0 }, { name := "PI", type := .double, accessFlags := 25, slot := 1, constantValue := 0 }, { name := "TAU", type := .double, accessFlags := 25, slot := 2, constantValue := 0 }, { name := "DEGREES_TO_RADIANS", type := .double, accessFlags := 26, slot := 3, constantValue := 0 }, { name := "RADIANS_TO_DEGREES", type := .double, accessFlags := 26, slot := 4, constantValue := 0 }, { name := "negativeZeroFloatBits", type := .long, accessFlags := 26, slot := 5, constantValue := 0 }, { name := "negativeZeroDoubleBits", type := .long, accessFlags := 26, slot := 6, constantValue := 0 }, { name := "twoToTheDoubleScaleUp", type := .double, accessFlags := 8, slot := 7, constantValue := 0 }, { name := "twoToTheDoubleScaleDown", type := .double, accessFlags := 8, slot := 8, constantValue := 0 }, { name := "$assertionsDisabled", type := .boolean, accessFlags := 4120, slot := 9, constantValue := 0 }]
  methods := #[k2m0, k2m1, k2m2, k2m3]
  instanceTypes := #[]
  staticTypes := #[.double, .double, .double, .double, .double, .long, .long, .double, .double, .boolean]
  resolved := Array.replicate 460 none
  statics := none }

def pool3 : Array CpInfo := pool [(1, .methodref 2 3), (0, .class_ 4), (0, .nameAndType 5 6), (0, u "java/lang/Object"), (0, u "<init>"), (0, u "()V"), (0, .fieldref 8 9), (0, .class_ 10), (0, .nameAndType 11 12), (0, u "com/example/eventweir/eventweir/PatternStates"), (0, u "most"), (0, u "J"), (0, .fieldref 8 14), (0, .nameAndType 15 12), (0, u "live"), (0, u "(J)V"), (2, u "()J"), (3, u "start"), (0, u "(I)Z"), (1, u "reset")] 2

def k3c0 : Code := { maxStack := 3, maxLocals := 3, code := prog_180_method_1_code, exceptionTable := #[], attributes := #[] }
def k3m0 : Method := { name := "<init>", desc := "(J)V", sig := { parameters := [.long], returnType := none }, accessFlags := 0, code := some k3c0 }
def k3c1 : Code := { maxStack := 2, maxLocals := 1, code := prog_180_method_2_code, exceptionTable := #[], attributes := #[] }
def k3m1 : Method := { name := "most", desc := "()J", sig := { parameters := [], returnType := some .long }, accessFlags := 0, code := some k3c1 }
def k3c2 : Code := { maxStack := 2, maxLocals := 1, code := prog_180_method_3_code, exceptionTable := #[], attributes := #[] }
def k3m2 : Method := { name := "live", desc := "()J", sig := { parameters := [], returnType := some .long }, accessFlags := 0, code := some k3c2 }
def k3c3 : Code := { maxStack := 6, maxLocals := 2, code := prog_180_method_5_code, exceptionTable := #[], attributes := #[] }
def k3m3 : Method := { name := "start", desc := "(I)Z", sig := { parameters := [.int], returnType := some .boolean }, accessFlags := 0, code := some k3c3 }
def k3c4 : Code := { maxStack := 3, maxLocals := 3, code := prog_180_method_7_code, exceptionTable := #[], attributes := #[] }
def k3m4 : Method := { name := "reset", desc := "(J)V", sig := { parameters := [.long], returnType := none }, accessFlags := 0, code := some k3c4 }
/-- com/example/eventweir/eventweir/PatternStates -/
def k3 : Class := { plain "com/example/eventweir/eventweir/PatternStates" (some 0) with
  accessFlags := 48
  interfaces := #[]
  cf := some (fileOf pool3 8 #[] #[{ accessFlags := 0, nameIndex := 5, descriptorIndex := 16, attributes := #[] }, { accessFlags := 0, nameIndex := 11, descriptorIndex := 19, attributes := #[] }, { accessFlags := 0, nameIndex := 15, descriptorIndex := 19, attributes := #[] }, { accessFlags := 0, nameIndex := 23, descriptorIndex := 24, attributes := #[] }, { accessFlags := 0, nameIndex := 26, descriptorIndex := 16, attributes := #[] }] 48 2 #[] #[{ accessFlags := 18, nameIndex := 11, descriptorIndex := 12, attributes := #[] }, { accessFlags := 2, nameIndex := 15, descriptorIndex := 12, attributes := #[] }])
  fields := #[{ name := "most", type := .long, accessFlags := 18, slot := 0, constantValue := 0 }, { name := "live", type := .long, accessFlags := 2, slot := 1, constantValue := 0 }]
  methods := #[k3m0, k3m1, k3m2, k3m3, k3m4]
  instanceTypes := #[.long, .long]
  staticTypes := #[]
  resolved := Array.replicate 29 none
  statics := none }

def pool4 : Array CpInfo := pool [(1, u "java/lang/Cloneable"), (0, .class_ 1), (0, u "java/lang/Object"), (0, .class_ 3)] 3

/-- java/lang/Cloneable -/
def k4 : Class := { plain "java/lang/Cloneable" (some 0) with
  accessFlags := 1537
  interfaces := #[]
  cf := some (fileOf pool4 2 #[] #[] 1537 4 #[] #[])
  fields := #[]
  methods := #[]
  instanceTypes := #[]
  staticTypes := #[]
  resolved := Array.replicate 8 none
  statics := none }

def pool5 : Array CpInfo := pool [(1, u "java/io/Serializable"), (0, .class_ 1), (0, u "java/lang/Object"), (0, .class_ 3)] 3

/-- java/io/Serializable -/
def k5 : Class := { plain "java/io/Serializable" (some 0) with
  accessFlags := 1537
  interfaces := #[]
  cf := some (fileOf pool5 2 #[] #[] 1537 4 #[] #[])
  fields := #[]
  methods := #[]
  instanceTypes := #[]
  staticTypes := #[]
  resolved := Array.replicate 8 none
  statics := none }

/-- the primitive byte -/
def k6 : Class := { plain "byte" none with kind := .primitive 'B', accessFlags := 0x411 }
/-- [B -/
def k7 : Class := { plain "[B" (some 0) with kind := .array 6 .byte, interfaces := #[4, 5], accessFlags := 1041 }

/-- the primitive int -/
def k8 : Class := { plain "int" none with kind := .primitive 'I', accessFlags := 0x411 }
/-- [I -/
def k9 : Class := { plain "[I" (some 0) with kind := .array 8 .int, interfaces := #[4, 5], accessFlags := 1041 }

def heap : Heap := #[]
def classes : Array Class := #[k0, k1, k2, k3, k4, k5, k6, k7, k8, k9]
def interned : List (Array UInt16 × Addr) := []
def slotsUsed : Nat := 0
def theMethod : MethodId := ⟨1, 1⟩
def args0 : Array Value := #[.long 5, .long 6, .int 7, .int 8]
def aboutOver (below : List Frame) : State where
  vm := { classes := classes, interned := interned.toArray }
  heap := heap
  slotsUsed := slotsUsed
  threads := #[{ frames := .invoking theMethod args0 :: below }]
def below0 : List Frame := [.native { method := ⟨0, 0⟩, args := #[] }]
def about1 : State := aboutOver below0
def p0 : Program := .bare "" "" ""
def e0 : Env := launch0.env 0 0 0
theorem w_frames : about1.frames = Frame.invoking theMethod args0 :: below0 := rfl
set_option maxRecDepth 65536 in
theorem w_args : argsFit about1.vm theMethod args0 = true := by decide +kernel
set_option maxRecDepth 65536 in
theorem w_heap : heapFits about1 = true := by decide +kernel
set_option maxRecDepth 65536 in
theorem w_runnable : about1.curStatus? = some .runnable := by decide +kernel
set_option maxRecDepth 65536 in
theorem w_alone : about1.alone = true := by decide +kernel
set_option maxRecDepth 65536 in
theorem w_named : about1.methodNamed? x = some theMethod := by decide +kernel
set_option maxRecDepth 65536 in
theorem w_hears : about1.hears theMethod below0 = true := by decide +kernel
set_option maxRecDepth 65536 in
theorem w_ripe : about1.ripe theMethod args0 below0 = true := by decide +kernel
theorem w_running : about1.status = .running := rfl
set_option maxRecDepth 65536 in
theorem w_room : about1.hasRoom e0.platform room_1 = true :=
  launch0.hasRoom_least _ room_1 (by decide +kernel) (by decide +kernel) (by decide +kernel) (by decide +kernel) (by decide +kernel) (by decide +kernel)
theorem allAtoms_all (ts : List Jvm.Cond) (a : Array Jvm.Value) (st : Jvm.State) : (allAtoms ts).before a st = ts.all (fun c => c.before a st) := by
  induction ts with
  | nil => rfl
  | cons c t ih =>
    show (Jvm.Cond.and c (allAtoms t)).before a st = _
    rw [Jvm.Cond.before_and, ih, List.all_cons]
def words1 : List Jvm.Cond := Jvm.Cond.code x code maxLocals ret :: tables_1
/-- a 'code' word, met by the world's own term for the bytes: nothing is compared byte by byte -/
theorem code_word {y : MethodName} {bytes : ByteArray} {mx : Nat} {rt : Option FieldType} {a : Array Value} {s : State} {m : MethodId} {meth : Method} {c : Code} (h1 : s.methodNamed? y = some m) (h2 : s.vm.method? m = some meth) (h3 : meth.code = some c) (h4 : c.code = bytes)
    (h5 : (c.maxLocals == mx && c.exceptionTable.isEmpty && decide (c.maxStack ≤ mostOperands) && decide (meth.sig.returnType = rt) && !meth.locks && decide (parseMethodDescriptor y.desc = some meth.sig)) = true) : (Jvm.Cond.code y bytes mx rt).before a s = true := by
  simp only [Bool.and_eq_true, beq_iff_eq, Bool.not_eq_true', decide_eq_true_eq] at h5
  obtain ⟨⟨⟨⟨⟨g1, g2⟩, g3⟩, g4⟩, g5⟩, g6⟩ := h5
  simp [Cond.before, Cond.holds, Cond.value, h1, h2, h3, h4, g1, g2, g3, g4, g5, g6]
def isCode : Jvm.Cond → Bool
  | .code _ _ _ _ => true
  | _ => false
theorem all_split {L : List Jvm.Cond} {P : Jvm.Cond → Bool} (h1 : L.all (fun c => isCode c || P c) = true) (h2 : ∀ c ∈ L.filter isCode, P c = true) : L.all P = true := by
  refine List.all_eq_true.mpr fun c hc => ?_
  have h := List.all_eq_true.mp h1 c hc
  rcases Bool.eq_false_or_eq_true (isCode c) with hi | hi
  · exact h2 c (List.mem_filter.mpr ⟨hc, hi⟩)
  · simpa [hi] using h
set_option maxRecDepth 65536 in
theorem w_c0 : (Jvm.Cond.code x code maxLocals ret).before args0 about1 = true := code_word (m := ⟨1, 1⟩) (meth := k1m1) (c := k1c1) (by decide +kernel) rfl rfl rfl (by decide +kernel)
set_option maxRecDepth 65536 in
theorem w_c1 : (Jvm.Cond.code ({ cls := "java/lang/Math", name := "max", desc := "(JJ)J" } : Jvm.MethodName) jdk_29_method_66_code (4 : Nat) (Option.some Jvm.ClassFile.FieldType.long)).before args0 about1 = true := code_word (m := ⟨2, 2⟩) (meth := k2m2) (c := k2c2) (by decide +kernel) rfl rfl rfl (by decide +kernel)
set_option maxRecDepth 65536 in
theorem w_c2 : (Jvm.Cond.code ({ cls := "java/lang/Math", name := "min", desc := "(JJ)J" } : Jvm.MethodName) jdk_29_method_70_code (4 : Nat) (Option.some Jvm.ClassFile.FieldType.long)).before args0 about1 = true := code_word (m := ⟨2, 3⟩) (meth := k2m3) (c := k2c3) (by decide +kernel) rfl rfl rfl (by decide +kernel)
set_option maxRecDepth 65536 in
theorem w_c3 : (Jvm.Cond.code ({ cls := "java/lang/Math", name := "max", desc := "(II)I" } : Jvm.MethodName) jdk_29_method_65_code (2 : Nat) (Option.some Jvm.ClassFile.FieldType.int)).before args0 about1 = true := code_word (m := ⟨2, 1⟩) (meth := k2m1) (c := k2c1) (by decide +kernel) rfl rfl rfl (by decide +kernel)
set_option maxRecDepth 65536 in
theorem w_c4 : (Jvm.Cond.code ({ cls := "com/example/eventweir/eventweir/PatternStates", name := "<init>", desc := "(J)V" } : Jvm.MethodName) prog_180_method_1_code (3 : Nat) (Option.none : Option Jvm.ClassFile.FieldType)).before args0 about1 = true := code_word (m := ⟨3, 0⟩) (meth := k3m0) (c := k3c0) (by decide +kernel) rfl rfl rfl (by decide +kernel)
set_option maxRecDepth 65536 in
theorem w_c5 : (Jvm.Cond.code ({ cls := "java/lang/Object", name := "<init>", desc := "()V" } : Jvm.MethodName) object_method_1_code (1 : Nat) (Option.none : Option Jvm.ClassFile.FieldType)).before args0 about1 = true := code_word (m := ⟨0, 0⟩) (meth := k0m0) (c := k0c0) (by decide +kernel) rfl rfl rfl (by decide +kernel)
set_option maxRecDepth 65536 in
theorem w_c6 : (Jvm.Cond.code ({ cls := "com/example/eventweir/eventweir/PatternStates", name := "reset", desc := "(J)V" } : Jvm.MethodName) prog_180_method_7_code (3 : Nat) (Option.none : Option Jvm.ClassFile.FieldType)).before args0 about1 = true := code_word (m := ⟨3, 4⟩) (meth := k3m4) (c := k3c4) (by decide +kernel) rfl rfl rfl (by decide +kernel)
set_option maxRecDepth 65536 in
theorem w_c7 : (Jvm.Cond.code ({ cls := "com/example/eventweir/eventweir/PatternStates", name := "start", desc := "(I)Z" } : Jvm.MethodName) prog_180_method_5_code (2 : Nat) (Option.some Jvm.ClassFile.FieldType.boolean)).before args0 about1 = true := code_word (m := ⟨3, 3⟩) (meth := k3m3) (c := k3c3) (by decide +kernel) rfl rfl rfl (by decide +kernel)
set_option maxRecDepth 65536 in
theorem w_c8 : (Jvm.Cond.code ({ cls := "com/example/eventweir/eventweir/PatternStates", name := "live", desc := "()J" } : Jvm.MethodName) prog_180_method_3_code (1 : Nat) (Option.some Jvm.ClassFile.FieldType.long)).before args0 about1 = true := code_word (m := ⟨3, 2⟩) (meth := k3m2) (c := k3c2) (by decide +kernel) rfl rfl rfl (by decide +kernel)
set_option maxRecDepth 65536 in
theorem w_c9 : (Jvm.Cond.code ({ cls := "com/example/eventweir/eventweir/PatternStates", name := "most", desc := "()J" } : Jvm.MethodName) prog_180_method_2_code (1 : Nat) (Option.some Jvm.ClassFile.FieldType.long)).before args0 about1 = true := code_word (m := ⟨3, 1⟩) (meth := k3m1) (c := k3c1) (by decide +kernel) rfl rfl rfl (by decide +kernel)
def codes1 : List Jvm.Cond := [Jvm.Cond.code x code maxLocals ret, Jvm.Cond.code ({ cls := "java/lang/Math", name := "max", desc := "(JJ)J" } : Jvm.MethodName) jdk_29_method_66_code (4 : Nat) (Option.some Jvm.ClassFile.FieldType.long), Jvm.Cond.code ({ cls := "java/lang/Math", name := "min", desc := "(JJ)J" } : Jvm.MethodName) jdk_29_method_70_code (4 : Nat) (Option.some Jvm.ClassFile.FieldType.long), Jvm.Cond.code ({ cls := "java/lang/Math", name := "max", desc := "(II)I" } : Jvm.MethodName) jdk_29_method_65_code (2 : Nat) (Option.some Jvm.ClassFile.FieldType.int), Jvm.Cond.code ({ cls := "com/example/eventweir/eventweir/PatternStates", name := "<init>", desc := "(J)V" } : Jvm.MethodName) prog_180_method_1_code (3 : Nat) (Option.none : Option Jvm.ClassFile.FieldType), Jvm.Cond.code ({ cls := "java/lang/Object", name := "<init>", desc := "()V" } : Jvm.MethodName) object_method_1_code (1 : Nat) (Option.none : Option Jvm.ClassFile.FieldType), Jvm.Cond.code ({ cls := "com/example/eventweir/eventweir/PatternStates", name := "reset", desc := "(J)V" } : Jvm.MethodName) prog_180_method_7_code (3 : Nat) (Option.none : Option Jvm.ClassFile.FieldType), Jvm.Cond.code ({ cls := "com/example/eventweir/eventweir/PatternStates", name := "start", desc := "(I)Z" } : Jvm.MethodName) prog_180_method_5_code (2 : Nat) (Option.some Jvm.ClassFile.FieldType.boolean), Jvm.Cond.code ({ cls := "com/example/eventweir/eventweir/PatternStates", name := "live", desc := "()J" } : Jvm.MethodName) prog_180_method_3_code (1 : Nat) (Option.some Jvm.ClassFile.FieldType.long), Jvm.Cond.code ({ cls := "com/example/eventweir/eventweir/PatternStates", name := "most", desc := "()J" } : Jvm.MethodName) prog_180_method_2_code (1 : Nat) (Option.some Jvm.ClassFile.FieldType.long)]
set_option maxRecDepth 65536 in
theorem codes_eq : words1.filter isCode = codes1 := rfl
theorem w_codes : ∀ c ∈ words1.filter isCode, c.before args0 about1 = true := by
  rw [codes_eq]
  intro c hc
  simp only [codes1, List.mem_cons, List.not_mem_nil, or_false] at hc
  rcases hc with rfl | rfl | rfl | rfl | rfl | rfl | rfl | rfl | rfl | rfl
  · exact w_c0
  · exact w_c1
  · exact w_c2
  · exact w_c3
  · exact w_c4
  · exact w_c5
  · exact w_c6
  · exact w_c7
  · exact w_c8
  · exact w_c9
set_option maxRecDepth 65536 in
theorem w_t1 : (words1.take 24).all (fun c => isCode c || c.before args0 about1) = true := by decide +kernel
set_option maxRecDepth 65536 in
theorem w_t2 : (words1.drop 24).all (fun c => isCode c || c.before args0 about1) = true := by decide +kernel
theorem w_tables : (allAtoms (Jvm.Cond.code x code maxLocals ret :: tables_1)).before args0 about1 = true := by
  rw [allAtoms_all]
  show words1.all (fun c => c.before args0 about1) = true
  refine all_split ?_ w_codes
  rw [← List.take_append_drop 24 words1, List.all_append, w_t1, w_t2]
  rfl
set_option maxRecDepth 65536 in
theorem w_case : (Jvm.Cond.and given_1 narrow_1).before args0 about1 = true := by decide +kernel
theorem w_applies : (headSpec (Jvm.Cond.code x code maxLocals ret :: tables_1) room_1).applies x e0.platform about1 = true :=
  (Spec.applies_iff w_frames).mpr ⟨w_running, w_runnable, w_alone, w_named, w_hears, w_ripe, w_room, w_tables⟩
theorem atStart : AtStart classFile x code maxLocals ret World_1 tables_1 room_1 Calls_1 rest_1 Pre_1 launch0 p0 e0 about1 theMethod args0 below0 :=
  ⟨lists_1, trivial, launch0.admits_env _ _ _, launch0.least_env, fairChoices_fair.cas, fairChoices_fair.clock, w_frames, w_args, w_heap, w_applies, trivial, trivial, w_case⟩
end start1
theorem witness_1 : WitnessClaimed_1 := ⟨start1.p0, start1.e0, start1.about1, start1.theMethod, start1.args0, start1.below0, start1.atStart⟩
end Jvm.Pilot.@@N@@
