import JvmDerived
import JvmDerived.Pilot.@@N@@Statement
import JvmDerived.Pilot.@@N@@Code
set_option linter.unusedVariables false
set_option linter.unusedSimpArgs false
namespace Jvm.Pilot.@@N@@
open Jvm Jvm.ClassFile Sem Op Lib Jvm.Free Jvm.Stand Jvm.LawKit Jvm.RoadKit Bundle Jvm.Pilot.@@N@@.Jvm.D
section Own
/-- from the state U the body comes to its end, and P holds there of what it returns, of the heap and of the places that were written -/
def own_G (tb : Tables) (e : Env) (below : List Frame) (s : State) (P : Option Value → Heap → List Loc → Prop) (k n : Nat) (U : State) : Prop :=
  ∃ s₂ o, Steps tb e below U s₂ ∧ s₂.status = .running ∧ Ended s₂ below o ∧ ∃ v L, o = .returned v ∧ P v s₂.heap L ∧ FrameEnd s o s₂ L k n
theorem own_up {tb : Tables} {e : Env} {below : List Frame} {s : State} {P : Option Value → Heap → List Loc → Prop} {k n : Nat} {U U' : State} (h : own_G tb e below s P k n U') (q : ∀ t, Steps tb e below U' t → Steps tb e below U t) : own_G tb e below s P k n U := by
  obtain ⟨s₂, o, h1, r⟩ := h
  exact ⟨s₂, o, q _ h1, r⟩
variable {p : Program} {l : Launch} {e : Env} {R : Room} {s : State} {m : MethodId} {args : Array Value} {below : List Frame} {meth : Method} {c : Code} {T : State} {locs : List Loc} {cells slots : Nat} {P : Option Value → Heap → List Loc → Prop} {k n : Nat}
theorem own_retI (X : Stand p l e R s m args below meth c T locs cells slots) (hx : p.tables.exec = Jvm.exec) (hlk : meth.locks = false) {t : FieldType} (hret : meth.sig.returnType = some t) (hti : t = .int ∨ t = .boolean ∨ t = .byte ∨ t = .char ∨ t = .short) {pc : Nat} {Ls : Array Slot} {w : Int32} (hn : narrow t (.int w) = .int w) (hd : decode c.code pc = .ok (.ireturn, 1)) (hP : P (some (.int w)) T.heap locs) (hk : cells ≤ k) (hs : slots ≤ n) : own_G p.tables e below s P k n (T.setTop (mkF m pc Ls [.int w])) := by
  obtain ⟨fs, hr, hrun, hended, hW, hsame⟩ := X.leave (v := some (.int w)) (fun h => by rw [hret] at h; cases h) hlk
  exact ⟨_, _, X.ireturnOut hx hret hn hti hd hr, hrun, hended, _, _, rfl, hP, ⟨_, rfl⟩, hW, hsame.mono hk hs⟩
theorem own_retJ (X : Stand p l e R s m args below meth c T locs cells slots) (hx : p.tables.exec = Jvm.exec) (hlk : meth.locks = false) (hret : meth.sig.returnType = some .long) {pc : Nat} {Ls : Array Slot} {w : Int64} (hd : decode c.code pc = .ok (.lreturn, 1)) (hP : P (some (.long w)) T.heap locs) (hk : cells ≤ k) (hs : slots ≤ n) : own_G p.tables e below s P k n (T.setTop (mkF m pc Ls [.long w])) := by
  obtain ⟨fs, hr, hrun, hended, hW, hsame⟩ := X.leave (v := some (.long w)) (fun h => by rw [hret] at h; cases h) hlk
  exact ⟨_, _, X.lreturnOut hx hret hd hr, hrun, hended, _, _, rfl, hP, ⟨_, rfl⟩, hW, hsame.mono hk hs⟩
theorem own_retA (X : Stand p l e R s m args below meth c T locs cells slots) (hx : p.tables.exec = Jvm.exec) (hlk : meth.locks = false) {t : FieldType} (hret : meth.sig.returnType = some t) (ht : t.isReference = true) {pc : Nat} {Ls : Array Slot} {w : Value} (hw : w.isRef = true) (hd : decode c.code pc = .ok (.areturn, 1)) (hP : P (some w) T.heap locs) (hk : cells ≤ k) (hs : slots ≤ n) : own_G p.tables e below s P k n (T.setTop (mkF m pc Ls [w])) := by
  obtain ⟨fs, hr, hrun, hended, hW, hsame⟩ := X.leave (v := some w) (fun h => by rw [hret] at h; cases h) hlk
  exact ⟨_, _, X.areturnOut hx hw hret ht hd hr, hrun, hended, _, _, rfl, hP, ⟨_, rfl⟩, hW, hsame.mono hk hs⟩
theorem own_retV (X : Stand p l e R s m args below meth c T locs cells slots) (hx : p.tables.exec = Jvm.exec) (hlk : meth.locks = false) (hret : meth.sig.returnType = none) {pc : Nat} {Ls : Array Slot} (hd : decode c.code pc = .ok (.return_, 1)) (hP : P none T.heap locs) (hk : cells ≤ k) (hs : slots ≤ n) : own_G p.tables e below s P k n (T.setTop (mkF m pc Ls [])) := by
  obtain ⟨fs, hr, hrun, hended, hW, hsame⟩ := X.leave (v := none) (fun _ => rfl) hlk
  exact ⟨_, _, X.returnOut hx hret hd hr, hrun, hended, _, _, rfl, hP, ⟨_, rfl⟩, hW, hsame.mono hk hs⟩
end Own
def own_max (a b : Int64) : Int64 := if a < b then b else a
def own_maxI (a b : Int32) : Int32 := if a < b then b else a
theorem own_max_toInt (a b : Int64) : (own_max a b).toInt = max a.toInt b.toInt := by
  unfold own_max
  by_cases h : a < b
  · rw [if_pos h]; rw [Int64.lt_iff_toInt_lt] at h; omega
  · rw [if_neg h]; rw [Int64.lt_iff_toInt_lt] at h; omega
theorem own_maxI_toInt (a b : Int32) : (own_maxI a b).toInt = max a.toInt b.toInt := by
  unfold own_maxI
  by_cases h : a < b
  · rw [if_pos h]; rw [Int32.lt_iff_toInt_lt] at h; omega
  · rw [if_neg h]; rw [Int32.lt_iff_toInt_lt] at h; omega
theorem own_one {m mo : Int64} (h : mo = own_max (1 : Int64) m) : 1 ≤ mo.toInt := by
  rw [h, own_max_toInt]
  have : (1 : Int64).toInt = 1 := rfl
  omega
theorem own_oneI {m cn : Int32} (h : cn = own_maxI (1 : Int32) m) : 1 ≤ cn.toInt := by
  rw [h, own_maxI_toInt]
  have : (1 : Int32).toInt = 1 := rfl
  omega
theorem own_pos (x : Int64) : 0 ≤ (x &&& (9223372036854775807 : Int64)).toInt := by
  rw [c_maskL x _ 63 (by decide) (by decide)]
  exact Int.emod_nonneg _ (by decide)
theorem own_nz {m mo : Int64} (h : mo = own_max (1 : Int64) m) : mo ≠ 0 := fun q => by
  have h1 := own_one h
  rw [q] at h1
  exact absurd h1 (by decide)
theorem own_m1 {m mo r0 m1 x : Int64} {f : Int32} (h : mo = own_max (1 : Int64) m) (hr : r0 = ((x &&& (9223372036854775807 : Int64)) - ((x &&& (9223372036854775807 : Int64)) / mo) * mo)) (hm : m1 = (if (f &&& (1 : Int32)) = (0 : Int32) then r0 else (mo - r0))) : 0 ≤ m1.toInt ∧ m1.toInt ≤ mo.toInt := by
  have h1 := own_one h
  have h2 : r0.toInt = (x &&& (9223372036854775807 : Int64)).toInt % mo.toInt := by
    rw [hr, (c_lrem (x &&& (9223372036854775807 : Int64)) mo _ rfl).1 (own_pos x)]
  have q1 := Int.emod_nonneg (x &&& (9223372036854775807 : Int64)).toInt (show mo.toInt ≠ 0 by omega)
  have q2 := Int.emod_lt_of_pos (x &&& (9223372036854775807 : Int64)).toInt (show 0 < mo.toInt by omega)
  have := c_lsub mo r0; have := rng64 mo; have := rng64 (mo - r0)
  subst hm
  split <;> omega
theorem own_lt {g mo : Int64} {cn m : Int32} (hg : 0 ≤ g.toInt ∧ g.toInt ≤ mo.toInt) (hc : cn = own_maxI (1 : Int32) m) (h : (mo - g) < (cn.toInt64)) : (mo - (cn.toInt64)) < g := by
  have h1 := own_oneI hc
  rw [Int64.lt_iff_toInt_lt] at h ⊢
  rw [c_i2l] at h
  have := c_lsub mo g; have := c_lsub mo cn.toInt64; have := c_i2l cn; have := rng64 mo; have := rng64 g; have := rng64 (mo - g); have := rng64 (mo - cn.toInt64); have := rng32 cn
  omega
theorem own_nlt {g mo : Int64} {cn m : Int32} (hg : 0 ≤ g.toInt ∧ g.toInt ≤ mo.toInt) (hc : cn = own_maxI (1 : Int32) m) (h : ¬ (mo - g) < (cn.toInt64)) : ¬ (mo - (cn.toInt64)) < g := by
  have h1 := own_oneI hc
  rw [Int64.lt_iff_toInt_lt] at h ⊢
  rw [c_i2l] at h
  have := c_lsub mo g; have := c_lsub mo cn.toInt64; have := c_i2l cn; have := rng64 mo; have := rng64 g; have := rng64 (mo - g); have := rng64 (mo - cn.toInt64); have := rng32 cn
  omega
theorem own_pd0 : parseMethodDescriptor "()V" = some ⟨[], none⟩ := by decide +kernel
theorem own_pd1 : parseMethodDescriptor "()J" = some ⟨[], some .long⟩ := by decide +kernel
theorem own_pd2 : parseMethodDescriptor "(JJ)V" = some ⟨[.long, .long], none⟩ := by decide +kernel
theorem own_pd3 : parseMethodDescriptor "(JJ)J" = some ⟨[.long, .long], some .long⟩ := by decide +kernel
theorem own_pd4 : parseMethodDescriptor "(II)I" = some ⟨[.int, .int], some .int⟩ := by decide +kernel
theorem own_pd5 : parseMethodDescriptor "(Lcom/example/eventweir/eventweir/Cascade$Done;)V" = some ⟨[(.object "com/example/eventweir/eventweir/Cascade$Done")], none⟩ := by decide +kernel
theorem own_pd6 : parseMethodDescriptor "(I)Z" = some ⟨[.int], some .boolean⟩ := by decide +kernel
theorem own_pd7 : parseMethodDescriptor "()Lcom/example/eventweir/eventweir/Cascade$Done;" = some ⟨[], some (.object "com/example/eventweir/eventweir/Cascade$Done")⟩ := by decide +kernel
theorem own_d1_0 : decode jdk_29_method_66_code 0 = .ok (.lload_n 0, 1) := by decide +kernel
theorem own_d1_1 : decode jdk_29_method_66_code 1 = .ok (.lload_n 2, 1) := by decide +kernel
theorem own_d1_2 : decode jdk_29_method_66_code 2 = .ok (.lcmp, 1) := by decide +kernel
theorem own_d1_3 : decode jdk_29_method_66_code 3 = .ok (.ifCond .lt 7, 3) := by decide +kernel
theorem own_d1_6 : decode jdk_29_method_66_code 6 = .ok (.lload_n 0, 1) := by decide +kernel
theorem own_d1_7 : decode jdk_29_method_66_code 7 = .ok (.goto 4, 3) := by decide +kernel
theorem own_d1_10 : decode jdk_29_method_66_code 10 = .ok (.lload_n 2, 1) := by decide +kernel
theorem own_d1_11 : decode jdk_29_method_66_code 11 = .ok (.lreturn, 1) := by decide +kernel
theorem own_ef_rm1 (m : MethodId) (x0 : Int64) (x1 : Int64) : entryFrame m #[(.long x0), (.long x1)] 4 = mkF m 0 #[.val (.long x0), .second, .val (.long x1), .second] [] := by first | (simp [entryFrame, mkF, argsToLocals, Value.category]; done) | rfl
def own_Q_rm1 (Z : State) (a : Int64) (b : Int64) (h0 : Heap) (n0 : Nat) (v : Option Value) (h : Heap) (L : List Loc) : Prop := v = some (.long (own_max a b)) ∧ Fr n0 L ∧ h = h0
set_option maxRecDepth 65536 in
set_option maxHeartbeats 40000000 in
theorem rm1 (l : Launch) (Z : State) (a0 : Array Value) (hw : ∀ d ∈ tables_1, d.before a0 Z = true) (ws : List Jvm.Cond) (a : Int64) (b : Int64) (h0 : Heap) (n0 : Nat) (Z0 : n0 ≤ h0.size) :
    MetFree l (⟨"java/lang/Math", "max", "(JJ)J"⟩ : MethodName) (head1 (Jvm.Cond.code (⟨"java/lang/Math", "max", "(JJ)J"⟩ : MethodName) jdk_29_method_66_code 4 (some .long) :: ws) ({ frames := 0, cells := 0, slots := 0, locals := 0 } : Room)) (fun aa UU => aa = #[(.long a), (.long b)] ∧ Z.Warmed39 UU.vm ∧ UU.heap = h0) (fun _ _ _ _ _ => True) (fun _ UU oo UU' => ∃ vv LL, oo = .returned vv ∧ own_Q_rm1 Z a b h0 n0 vv UU'.heap LL ∧ FrameEnd UU oo UU' LL ({ frames := 0, cells := 0, slots := 0, locals := 0 } : Room).cells ({ frames := 0, cells := 0, slots := 0, locals := 0 } : Room).slots) := by
  refine MetFree.of_bodySF (Jvm.Free.JP.mathPlain rfl (by decide +kernel)) hisR ?_
  intro p e s m args below meth c s₁ Bd hml0 hP hK
  obtain ⟨rfl, hZ, hh⟩ := hP
  have hx := Bd.exec
  have hby := Bd.bytes
  have hlk := Bd.notSynchronized
  have hml : c.maxLocals = 4 := hml0
  have hown : s.vm.findClass "java/lang/Math" = some m.cls := findClass_of_methodNamed Bd.named
  have hnm := (name_of_methodNamed Bd.named Bd.method).1
  have X0 : Stand p l e ({ frames := 0, cells := 0, slots := 0, locals := 0 } : Room) s m #[(.long a), (.long b)] below meth c s₁ [] 0 0 := Stand.of_body Bd
  have e0 : s₁.heap = h0 := by rw [← hh, Bd.state]; rfl
  have N0 := Fr.nil n0
  show own_G p.tables e below s (own_Q_rm1 Z a b h0 n0) ({ frames := 0, cells := 0, slots := 0, locals := 0 } : Room).cells ({ frames := 0, cells := 0, slots := 0, locals := 0 } : Room).slots (s₁.setTop (entryFrame m #[(.long a), (.long b)] 4))
  refine own_up (U' := s₁.setTop (mkF m 0 #[.val (.long a), .second, .val (.long b), .second] [])) ?_ (fun t k => castTop (own_ef_rm1 m a b) k)
  refine own_up ?_ fun t k => XS.lloadN X0.here hx rfl (hb hby own_d1_0) rfl k
  show own_G p.tables e below s _ _ _ (s₁.setTop (mkF m 1 #[.val (.long a), .second, .val (.long b), .second] [(.long a)]))
  refine own_up ?_ fun t k => XS.lloadN X0.here hx rfl (hb hby own_d1_1) rfl k
  show own_G p.tables e below s _ _ _ (s₁.setTop (mkF m 2 #[.val (.long a), .second, .val (.long b), .second] [(.long b), (.long a)]))
  refine own_up ?_ fun t k => XS.lcmp X0.here hx rfl (hb hby own_d1_2) rfl k
  show own_G p.tables e below s _ _ _ (s₁.setTop (mkF m 3 #[.val (.long a), .second, .val (.long b), .second] [(.int (lcmpW a b))]))
  by_cases hc3_1 : a < b
  · refine own_up ?_ fun t k => XS.ifYes X0.here hx rfl (pc0 := 3) (pc' := 10) rfl (hb hby own_d1_3) rfl ((if0 _ _).trans (tlt ((lw_lt _ _).mpr hc3_1)).1) (by decide) (by decide) k
    show own_G p.tables e below s _ _ _ (s₁.setTop (mkF m 10 #[.val (.long a), .second, .val (.long b), .second] []))
    refine own_up ?_ fun t k => XS.lloadN X0.here hx rfl (hb hby own_d1_10) rfl k
    show own_G p.tables e below s _ _ _ (s₁.setTop (mkF m 11 #[.val (.long a), .second, .val (.long b), .second] [(.long b)]))
    exact own_retJ X0 hx hlk Bd.returns (hb hby own_d1_11) ⟨congrArg (fun z => some (Value.long z)) (by simp only [own_max, if_pos hc3_1]), N0, e0⟩ (by decide) (by decide)
  · refine own_up ?_ fun t k => XS.ifNo X0.here hx rfl (hb hby own_d1_3) rfl ((if0 _ _).trans (flt (fun q => hc3_1 ((lw_lt _ _).mp q))).1) k
    show own_G p.tables e below s _ _ _ (s₁.setTop (mkF m 6 #[.val (.long a), .second, .val (.long b), .second] []))
    refine own_up ?_ fun t k => XS.lloadN X0.here hx rfl (hb hby own_d1_6) rfl k
    show own_G p.tables e below s _ _ _ (s₁.setTop (mkF m 7 #[.val (.long a), .second, .val (.long b), .second] [(.long a)]))
    refine own_up ?_ fun t k => XS.goto X0.here hx rfl (pc0 := 7) (pc' := 11) rfl (hb hby own_d1_7) (by decide) (by decide) k
    show own_G p.tables e below s _ _ _ (s₁.setTop (mkF m 11 #[.val (.long a), .second, .val (.long b), .second] [(.long a)]))
    exact own_retJ X0 hx hlk Bd.returns (hb hby own_d1_11) ⟨congrArg (fun z => some (Value.long z)) (by simp only [own_max, if_neg hc3_1]), N0, e0⟩ (by decide) (by decide)
theorem own_d2_0 : decode jdk_29_method_65_code 0 = .ok (.iload_n 0, 1) := by decide +kernel
theorem own_d2_1 : decode jdk_29_method_65_code 1 = .ok (.iload_n 1, 1) := by decide +kernel
theorem own_d2_2 : decode jdk_29_method_65_code 2 = .ok (.if_icmp .lt 7, 3) := by decide +kernel
theorem own_d2_5 : decode jdk_29_method_65_code 5 = .ok (.iload_n 0, 1) := by decide +kernel
theorem own_d2_6 : decode jdk_29_method_65_code 6 = .ok (.goto 4, 3) := by decide +kernel
theorem own_d2_9 : decode jdk_29_method_65_code 9 = .ok (.iload_n 1, 1) := by decide +kernel
theorem own_d2_10 : decode jdk_29_method_65_code 10 = .ok (.ireturn, 1) := by decide +kernel
theorem own_ef_rm2 (m : MethodId) (x0 : Int32) (x1 : Int32) : entryFrame m #[(.int x0), (.int x1)] 2 = mkF m 0 #[.val (.int x0), .val (.int x1)] [] := by first | (simp [entryFrame, mkF, argsToLocals, Value.category]; done) | rfl
def own_Q_rm2 (Z : State) (a : Int32) (b : Int32) (h0 : Heap) (n0 : Nat) (v : Option Value) (h : Heap) (L : List Loc) : Prop := v = some (.int (own_maxI a b)) ∧ Fr n0 L ∧ h = h0
set_option maxRecDepth 65536 in
set_option maxHeartbeats 40000000 in
theorem rm2 (l : Launch) (Z : State) (a0 : Array Value) (hw : ∀ d ∈ tables_1, d.before a0 Z = true) (ws : List Jvm.Cond) (a : Int32) (b : Int32) (h0 : Heap) (n0 : Nat) (Z0 : n0 ≤ h0.size) :
    MetFree l (⟨"java/lang/Math", "max", "(II)I"⟩ : MethodName) (head1 (Jvm.Cond.code (⟨"java/lang/Math", "max", "(II)I"⟩ : MethodName) jdk_29_method_65_code 2 (some .int) :: ws) ({ frames := 0, cells := 0, slots := 0, locals := 0 } : Room)) (fun aa UU => aa = #[(.int a), (.int b)] ∧ Z.Warmed39 UU.vm ∧ UU.heap = h0) (fun _ _ _ _ _ => True) (fun _ UU oo UU' => ∃ vv LL, oo = .returned vv ∧ own_Q_rm2 Z a b h0 n0 vv UU'.heap LL ∧ FrameEnd UU oo UU' LL ({ frames := 0, cells := 0, slots := 0, locals := 0 } : Room).cells ({ frames := 0, cells := 0, slots := 0, locals := 0 } : Room).slots) := by
  refine MetFree.of_bodySF (Jvm.Free.JP.mathPlain rfl (by decide +kernel)) hisR ?_
  intro p e s m args below meth c s₁ Bd hml0 hP hK
  obtain ⟨rfl, hZ, hh⟩ := hP
  have hx := Bd.exec
  have hby := Bd.bytes
  have hlk := Bd.notSynchronized
  have hml : c.maxLocals = 2 := hml0
  have hown : s.vm.findClass "java/lang/Math" = some m.cls := findClass_of_methodNamed Bd.named
  have hnm := (name_of_methodNamed Bd.named Bd.method).1
  have X0 : Stand p l e ({ frames := 0, cells := 0, slots := 0, locals := 0 } : Room) s m #[(.int a), (.int b)] below meth c s₁ [] 0 0 := Stand.of_body Bd
  have e0 : s₁.heap = h0 := by rw [← hh, Bd.state]; rfl
  have N0 := Fr.nil n0
  show own_G p.tables e below s (own_Q_rm2 Z a b h0 n0) ({ frames := 0, cells := 0, slots := 0, locals := 0 } : Room).cells ({ frames := 0, cells := 0, slots := 0, locals := 0 } : Room).slots (s₁.setTop (entryFrame m #[(.int a), (.int b)] 2))
  refine own_up (U' := s₁.setTop (mkF m 0 #[.val (.int a), .val (.int b)] [])) ?_ (fun t k => castTop (own_ef_rm2 m a b) k)
  refine own_up ?_ fun t k => XS.iloadN X0.here hx rfl (hb hby own_d2_0) rfl k
  show own_G p.tables e below s _ _ _ (s₁.setTop (mkF m 1 #[.val (.int a), .val (.int b)] [(.int a)]))
  refine own_up ?_ fun t k => XS.iloadN X0.here hx rfl (hb hby own_d2_1) rfl k
  show own_G p.tables e below s _ _ _ (s₁.setTop (mkF m 2 #[.val (.int a), .val (.int b)] [(.int b), (.int a)]))
  by_cases hc2_2 : a < b
  · refine own_up ?_ fun t k => XS.icmpYes X0.here hx rfl (pc0 := 2) (pc' := 9) rfl (hb hby own_d2_2) rfl (tlt hc2_2).1 (by decide) (by decide) k
    show own_G p.tables e below s _ _ _ (s₁.setTop (mkF m 9 #[.val (.int a), .val (.int b)] []))
    refine own_up ?_ fun t k => XS.iloadN X0.here hx rfl (hb hby own_d2_9) rfl k
    show own_G p.tables e below s _ _ _ (s₁.setTop (mkF m 10 #[.val (.int a), .val (.int b)] [(.int b)]))
    exact own_retI X0 hx hlk Bd.returns (by simp) rfl (hb hby own_d2_10) ⟨congrArg (fun z => some (Value.int z)) (by simp only [own_maxI, if_pos hc2_2]), N0, e0⟩ (by decide) (by decide)
  · refine own_up ?_ fun t k => XS.icmpNo X0.here hx rfl (hb hby own_d2_2) rfl (flt hc2_2).1 k
    show own_G p.tables e below s _ _ _ (s₁.setTop (mkF m 5 #[.val (.int a), .val (.int b)] []))
    refine own_up ?_ fun t k => XS.iloadN X0.here hx rfl (hb hby own_d2_5) rfl k
    show own_G p.tables e below s _ _ _ (s₁.setTop (mkF m 6 #[.val (.int a), .val (.int b)] [(.int a)]))
    refine own_up ?_ fun t k => XS.goto X0.here hx rfl (pc0 := 6) (pc' := 10) rfl (hb hby own_d2_6) (by decide) (by decide) k
    show own_G p.tables e below s _ _ _ (s₁.setTop (mkF m 10 #[.val (.int a), .val (.int b)] [(.int a)]))
    exact own_retI X0 hx hlk Bd.returns (by simp) rfl (hb hby own_d2_10) ⟨congrArg (fun z => some (Value.int z)) (by simp only [own_maxI, if_neg hc2_2]), N0, e0⟩ (by decide) (by decide)
theorem own_d3_0 : decode prog_22_method_1_code 0 = .ok (.aload_n 0, 1) := by decide +kernel
theorem own_d3_1 : decode prog_22_method_1_code 1 = .ok (.invokespecial 1, 3) := by decide +kernel
theorem own_d3_4 : decode prog_22_method_1_code 4 = .ok (.aload_n 0, 1) := by decide +kernel
theorem own_d3_5 : decode prog_22_method_1_code 5 = .ok (.lload_n 1, 1) := by decide +kernel
theorem own_d3_6 : decode prog_22_method_1_code 6 = .ok (.putfield 7, 3) := by decide +kernel
theorem own_d3_9 : decode prog_22_method_1_code 9 = .ok (.aload_n 0, 1) := by decide +kernel
theorem own_d3_10 : decode prog_22_method_1_code 10 = .ok (.lload_n 3, 1) := by decide +kernel
theorem own_d3_11 : decode prog_22_method_1_code 11 = .ok (.putfield 13, 3) := by decide +kernel
theorem own_d3_14 : decode prog_22_method_1_code 14 = .ok (.return_, 1) := by decide +kernel
theorem own_pn0 : plainName "com/example/eventweir/eventweir/Cascade" = true := by first | (simp [plainName, overriddenIn]; done) | decide +kernel
theorem own_ef_rm3 (m : MethodId) (x0 : Addr) (x1 : Int64) (x2 : Int64) : entryFrame m #[(.ref x0), (.long x1), (.long x2)] 5 = mkF m 0 #[.val (.ref x0), .val (.long x1), .second, .val (.long x2), .second] [] := by first | (simp [entryFrame, mkF, argsToLocals, Value.category]; done) | rfl
def own_Q_rm3 (Z : State) (a : Addr) (q1 : Int64) (q2 : Int64) (u1 : Value) (u2 : Value) (iv : Int64) (mv : Int64) (h0 : Heap) (n0 : Nat) (v : Option Value) (h : Heap) (L : List Loc) : Prop := v = none ∧ Fr n0 L ∧ Keep h0 h [a] ∧ Fld Z h a "com/example/eventweir/eventweir/Cascade" "mostMatches" "J" (.long q2) ∧ Fld Z h a "com/example/eventweir/eventweir/Cascade" "inserted" "J" (.long iv) ∧ Fld Z h a "com/example/eventweir/eventweir/Cascade" "matches" "J" (.long mv)
set_option maxRecDepth 65536 in
set_option maxHeartbeats 40000000 in
theorem rm3 (l : Launch) (Z : State) (a0 : Array Value) (hw : ∀ d ∈ tables_1, d.before a0 Z = true) (ws : List Jvm.Cond) (a : Addr) (q1 : Int64) (q2 : Int64) (u1 : Value) (u2 : Value) (iv : Int64) (mv : Int64) (h0 : Heap) (n0 : Nat) (Z0 : n0 ≤ h0.size) (E_a : Exa Z h0 a "com/example/eventweir/eventweir/Cascade") (Fa_mostInserted : Fld Z h0 a "com/example/eventweir/eventweir/Cascade" "mostInserted" "J" u1) (Fa_mostMatches : Fld Z h0 a "com/example/eventweir/eventweir/Cascade" "mostMatches" "J" u2) (Fa_inserted : Fld Z h0 a "com/example/eventweir/eventweir/Cascade" "inserted" "J" (.long iv)) (Fa_matches : Fld Z h0 a "com/example/eventweir/eventweir/Cascade" "matches" "J" (.long mv)) (g_a : n0 ≤ a) :
    MetFree l (⟨"com/example/eventweir/eventweir/Cascade", "<init>", "(JJ)V"⟩ : MethodName) (head1 (Jvm.Cond.code (⟨"com/example/eventweir/eventweir/Cascade", "<init>", "(JJ)V"⟩ : MethodName) prog_22_method_1_code 5 none :: ws) ({ frames := 1, cells := 0, slots := 0, locals := 12 } : Room)) (fun aa UU => aa = #[(.ref a), (.long q1), (.long q2)] ∧ Z.Warmed39 UU.vm ∧ UU.heap = h0) (fun _ _ _ _ _ => True) (fun _ UU oo UU' => ∃ vv LL, oo = .returned vv ∧ own_Q_rm3 Z a q1 q2 u1 u2 iv mv h0 n0 vv UU'.heap LL ∧ FrameEnd UU oo UU' LL ({ frames := 1, cells := 0, slots := 0, locals := 12 } : Room).cells ({ frames := 1, cells := 0, slots := 0, locals := 12 } : Room).slots) := by
  refine MetFree.of_bodySF (plainFor_of_name own_pn0) hisR ?_
  intro p e s m args below meth c s₁ Bd hml0 hP hK
  obtain ⟨rfl, hZ, hh⟩ := hP
  have hx := Bd.exec
  have hby := Bd.bytes
  have hlk := Bd.notSynchronized
  have hml : c.maxLocals = 5 := hml0
  have hown : s.vm.findClass "com/example/eventweir/eventweir/Cascade" = some m.cls := findClass_of_methodNamed Bd.named
  have hnm := (name_of_methodNamed Bd.named Bd.method).1
  have X0 : Stand p l e ({ frames := 1, cells := 0, slots := 0, locals := 12 } : Room) s m #[(.ref a), (.long q1), (.long q2)] below meth c s₁ [] 0 0 := Stand.of_body Bd
  have e0 : s₁.heap = h0 := by rw [← hh, Bd.state]; rfl
  have N0 := Fr.nil n0
  show own_G p.tables e below s (own_Q_rm3 Z a q1 q2 u1 u2 iv mv h0 n0) ({ frames := 1, cells := 0, slots := 0, locals := 12 } : Room).cells ({ frames := 1, cells := 0, slots := 0, locals := 12 } : Room).slots (s₁.setTop (entryFrame m #[(.ref a), (.long q1), (.long q2)] 5))
  have K0 := Keep.refl h0 [a]
  refine own_up (U' := s₁.setTop (mkF m 0 #[.val (.ref a), .val (.long q1), .second, .val (.long q2), .second] [])) ?_ (fun t k => castTop (own_ef_rm3 m a q1 q2) k)
  refine own_up ?_ fun t k => XS.aloadN X0.here hx rfl (hb hby own_d3_0) rfl rfl k
  show own_G p.tables e below s _ _ _ (s₁.setTop (mkF m 1 #[.val (.ref a), .val (.long q1), .second, .val (.long q2), .second] [(.ref a)]))
  obtain ⟨T3, X3, e3, st3⟩ := initO X0 hx hZ hown (hw _ (List.mem_of_getElem? (i := 15) rfl)) (hw _ (List.mem_of_getElem? (i := 16) rfl)) (hw _ (List.mem_of_getElem? (i := 17) rfl)) e0 (g := (mkF m 1 #[.val (.ref a), .val (.long q1), .second, .val (.long q2), .second] [(.ref a)])) rfl (by rw [hml]; rfl) rfl (hb hby own_d3_1) (by decide) (W := 0) (by show 2 * 0 + _ ≤ _; exact Nat.le_of_eq rfl) (by decide)
  refine own_up ?_ st3
  show own_G p.tables e below s _ _ _ (T3.setTop (mkF m 4 #[.val (.ref a), .val (.long q1), .second, .val (.long q2), .second] []))
  refine own_up ?_ fun t k => XS.aloadN X3.here hx rfl (hb hby own_d3_4) rfl rfl k
  show own_G p.tables e below s _ _ _ (T3.setTop (mkF m 5 #[.val (.ref a), .val (.long q1), .second, .val (.long q2), .second] [(.ref a)]))
  refine own_up ?_ fun t k => XS.lloadN X3.here hx rfl (hb hby own_d3_5) rfl k
  show own_G p.tables e below s _ _ _ (T3.setTop (mkF m 6 #[.val (.ref a), .val (.long q1), .second, .val (.long q2), .second] [(.long q1), (.ref a)]))
  obtain ⟨T4, h4, X4, e4, W4, st4⟩ := putF X3 hx hZ hown (host := "") (Or.inl (hw _ (List.mem_of_getElem? (i := 18) rfl))) Via.refl e3 Fa_mostInserted E_a (Or.inr ⟨(hw _ (List.mem_of_getElem? (i := 19) rfl)), rfl, hnm⟩) (hw _ (List.mem_of_getElem? (i := 10) rfl)) (ty := .long) (by decide) rfl rfl (g := (mkF m 6 #[.val (.ref a), .val (.long q1), .second, .val (.long q2), .second] [(.long q1), (.ref a)])) rfl rfl (hb hby own_d3_6)
  refine own_up ?_ st4
  have E_a_c5 := E_a.wr W4
  have Fa_mostMatches_c5 := Fa_mostMatches.other W4 (Or.inr (slot_ne (Or.inr (hw _ (List.mem_of_getElem? (i := 21) rfl))) (Or.inr (hw _ (List.mem_of_getElem? (i := 19) rfl))) (by decide) (t := .long) (t' := .long) (by decide) (by decide)))
  have Fa_inserted_c5 := Fa_inserted.other W4 (Or.inr (slot_ne (Or.inl (hw _ (List.mem_of_getElem? (i := 49) rfl))) (Or.inr (hw _ (List.mem_of_getElem? (i := 19) rfl))) (by decide) (t := .long) (t' := .long) (by decide) (by decide)))
  have Fa_matches_c5 := Fa_matches.other W4 (Or.inr (slot_ne (Or.inl (hw _ (List.mem_of_getElem? (i := 56) rfl))) (Or.inr (hw _ (List.mem_of_getElem? (i := 19) rfl))) (by decide) (t := .long) (t' := .long) (by decide) (by decide)))
  have F4 := Fa_mostInserted.same W4
  have N4 := Fr.snoc X4 N0 g_a
  have Zs6 : n0 ≤ h4.size := Nat.le_trans Z0 (Keep.of_wr W4).1
  have K7 : Keep h0 h4 [a] := K0.wr W4 (Or.inl (List.mem_of_getElem? (i := 0) rfl))
  show own_G p.tables e below s _ _ _ (T4.setTop (mkF m 9 #[.val (.ref a), .val (.long q1), .second, .val (.long q2), .second] []))
  refine own_up ?_ fun t k => XS.aloadN X4.here hx rfl (hb hby own_d3_9) rfl rfl k
  show own_G p.tables e below s _ _ _ (T4.setTop (mkF m 10 #[.val (.ref a), .val (.long q1), .second, .val (.long q2), .second] [(.ref a)]))
  refine own_up ?_ fun t k => XS.lloadN X4.here hx rfl (hb hby own_d3_10) rfl k
  show own_G p.tables e below s _ _ _ (T4.setTop (mkF m 11 #[.val (.ref a), .val (.long q1), .second, .val (.long q2), .second] [(.long q2), (.ref a)]))
  obtain ⟨T8, h8, X8, e8, W8, st8⟩ := putF X4 hx hZ hown (host := "") (Or.inl (hw _ (List.mem_of_getElem? (i := 20) rfl))) Via.refl e4 Fa_mostMatches_c5 E_a_c5 (Or.inr ⟨(hw _ (List.mem_of_getElem? (i := 21) rfl)), rfl, hnm⟩) (hw _ (List.mem_of_getElem? (i := 10) rfl)) (ty := .long) (by decide) rfl rfl (g := (mkF m 11 #[.val (.ref a), .val (.long q1), .second, .val (.long q2), .second] [(.long q2), (.ref a)])) rfl rfl (hb hby own_d3_11)
  refine own_up ?_ st8
  have E_a_c9 := E_a_c5.wr W8
  have F4_c9 := F4.other W8 (Or.inr (slot_ne (Or.inr (hw _ (List.mem_of_getElem? (i := 19) rfl))) (Or.inr (hw _ (List.mem_of_getElem? (i := 21) rfl))) (by decide) (t := .long) (t' := .long) (by decide) (by decide)))
  have Fa_inserted_c9 := Fa_inserted_c5.other W8 (Or.inr (slot_ne (Or.inl (hw _ (List.mem_of_getElem? (i := 49) rfl))) (Or.inr (hw _ (List.mem_of_getElem? (i := 21) rfl))) (by decide) (t := .long) (t' := .long) (by decide) (by decide)))
  have Fa_matches_c9 := Fa_matches_c5.other W8 (Or.inr (slot_ne (Or.inl (hw _ (List.mem_of_getElem? (i := 56) rfl))) (Or.inr (hw _ (List.mem_of_getElem? (i := 21) rfl))) (by decide) (t := .long) (t' := .long) (by decide) (by decide)))
  have F8 := Fa_mostMatches_c5.same W8
  have N8 := Fr.snoc X8 N4 g_a
  have Zs10 : n0 ≤ h8.size := Nat.le_trans Zs6 (Keep.of_wr W8).1
  have K11 : Keep h0 h8 [a] := K7.wr W8 (Or.inl (List.mem_of_getElem? (i := 0) rfl))
  show own_G p.tables e below s _ _ _ (T8.setTop (mkF m 14 #[.val (.ref a), .val (.long q1), .second, .val (.long q2), .second] []))
  exact own_retV X8 hx hlk Bd.returns (hb hby own_d3_14) (by rw [e8]; exact ⟨rfl, N8, K11, F8, Fa_inserted_c9, Fa_matches_c9⟩) (by decide) (by decide)
theorem own_d6_0 : decode jdk_30_method_1_code 0 = .ok (.aload_n 0, 1) := by decide +kernel
theorem own_d6_1 : decode jdk_30_method_1_code 1 = .ok (.invokespecial 1, 3) := by decide +kernel
theorem own_d6_4 : decode jdk_30_method_1_code 4 = .ok (.return_, 1) := by decide +kernel
theorem own_pn1 : plainName "java/lang/Record" = true := by first | (simp [plainName, overriddenIn]; done) | decide +kernel
theorem own_ef_rmRec (m : MethodId) (x0 : Addr) : entryFrame m #[(.ref x0)] 1 = mkF m 0 #[.val (.ref x0)] [] := by first | (simp [entryFrame, mkF, argsToLocals, Value.category]; done) | rfl
def own_Q_rmRec (Z : State) (a : Addr) (h0 : Heap) (n0 : Nat) (v : Option Value) (h : Heap) (L : List Loc) : Prop := v = none ∧ Fr n0 L ∧ h = h0
set_option maxRecDepth 65536 in
set_option maxHeartbeats 40000000 in
theorem rmRec (l : Launch) (Z : State) (a0 : Array Value) (hw : ∀ d ∈ tables_1, d.before a0 Z = true) (ws : List Jvm.Cond) (a : Addr) (h0 : Heap) (n0 : Nat) (Z0 : n0 ≤ h0.size) :
    MetFree l (⟨"java/lang/Record", "<init>", "()V"⟩ : MethodName) (head1 (Jvm.Cond.code (⟨"java/lang/Record", "<init>", "()V"⟩ : MethodName) jdk_30_method_1_code 1 none :: ws) ({ frames := 1, cells := 0, slots := 0, locals := 12 } : Room)) (fun aa UU => aa = #[(.ref a)] ∧ Z.Warmed39 UU.vm ∧ UU.heap = h0) (fun _ _ _ _ _ => True) (fun _ UU oo UU' => ∃ vv LL, oo = .returned vv ∧ own_Q_rmRec Z a h0 n0 vv UU'.heap LL ∧ FrameEnd UU oo UU' LL ({ frames := 1, cells := 0, slots := 0, locals := 12 } : Room).cells ({ frames := 1, cells := 0, slots := 0, locals := 12 } : Room).slots) := by
  refine MetFree.of_bodySF (plainFor_of_name own_pn1) hisR ?_
  intro p e s m args below meth c s₁ Bd hml0 hP hK
  obtain ⟨rfl, hZ, hh⟩ := hP
  have hx := Bd.exec
  have hby := Bd.bytes
  have hlk := Bd.notSynchronized
  have hml : c.maxLocals = 1 := hml0
  have hown : s.vm.findClass "java/lang/Record" = some m.cls := findClass_of_methodNamed Bd.named
  have hnm := (name_of_methodNamed Bd.named Bd.method).1
  have X0 : Stand p l e ({ frames := 1, cells := 0, slots := 0, locals := 12 } : Room) s m #[(.ref a)] below meth c s₁ [] 0 0 := Stand.of_body Bd
  have e0 : s₁.heap = h0 := by rw [← hh, Bd.state]; rfl
  have N0 := Fr.nil n0
  show own_G p.tables e below s (own_Q_rmRec Z a h0 n0) ({ frames := 1, cells := 0, slots := 0, locals := 12 } : Room).cells ({ frames := 1, cells := 0, slots := 0, locals := 12 } : Room).slots (s₁.setTop (entryFrame m #[(.ref a)] 1))
  refine own_up (U' := s₁.setTop (mkF m 0 #[.val (.ref a)] [])) ?_ (fun t k => castTop (own_ef_rmRec m a) k)
  refine own_up ?_ fun t k => XS.aloadN X0.here hx rfl (hb hby own_d6_0) rfl rfl k
  show own_G p.tables e below s _ _ _ (s₁.setTop (mkF m 1 #[.val (.ref a)] [(.ref a)]))
  obtain ⟨T12, X12, e12, st12⟩ := initO X0 hx hZ hown (hw _ (List.mem_of_getElem? (i := 33) rfl)) (hw _ (List.mem_of_getElem? (i := 16) rfl)) (hw _ (List.mem_of_getElem? (i := 17) rfl)) e0 (g := (mkF m 1 #[.val (.ref a)] [(.ref a)])) rfl (by rw [hml]; rfl) rfl (hb hby own_d6_1) (by decide) (W := 0) (by show 2 * 0 + _ ≤ _; exact Nat.le_of_eq rfl) (by decide)
  refine own_up ?_ st12
  show own_G p.tables e below s _ _ _ (T12.setTop (mkF m 4 #[.val (.ref a)] []))
  exact own_retV X12 hx hlk Bd.returns (hb hby own_d6_4) ⟨rfl, N0, e12⟩ (by decide) (by decide)
theorem own_d5_0 : decode prog_23_method_1_code 0 = .ok (.aload_n 0, 1) := by decide +kernel
theorem own_d5_1 : decode prog_23_method_1_code 1 = .ok (.invokespecial 1, 3) := by decide +kernel
theorem own_d5_4 : decode prog_23_method_1_code 4 = .ok (.aload_n 0, 1) := by decide +kernel
theorem own_d5_5 : decode prog_23_method_1_code 5 = .ok (.lload_n 1, 1) := by decide +kernel
theorem own_d5_6 : decode prog_23_method_1_code 6 = .ok (.putfield 7, 3) := by decide +kernel
theorem own_d5_9 : decode prog_23_method_1_code 9 = .ok (.aload_n 0, 1) := by decide +kernel
theorem own_d5_10 : decode prog_23_method_1_code 10 = .ok (.lload_n 3, 1) := by decide +kernel
theorem own_d5_11 : decode prog_23_method_1_code 11 = .ok (.putfield 13, 3) := by decide +kernel
theorem own_d5_14 : decode prog_23_method_1_code 14 = .ok (.return_, 1) := by decide +kernel
theorem own_pn2 : plainName "com/example/eventweir/eventweir/Cascade$Done" = true := by first | (simp [plainName, overriddenIn]; done) | decide +kernel
theorem own_ef_rm5 (m : MethodId) (x0 : Addr) (x1 : Int64) (x2 : Int64) : entryFrame m #[(.ref x0), (.long x1), (.long x2)] 5 = mkF m 0 #[.val (.ref x0), .val (.long x1), .second, .val (.long x2), .second] [] := by first | (simp [entryFrame, mkF, argsToLocals, Value.category]; done) | rfl
def own_Q_rm5 (Z : State) (a : Addr) (q1 : Int64) (q2 : Int64) (u_inserted : Value) (u_matches : Value) (h0 : Heap) (n0 : Nat) (v : Option Value) (h : Heap) (L : List Loc) : Prop := v = none ∧ Fr n0 L ∧ Keep h0 h [a] ∧ Fld Z h a "com/example/eventweir/eventweir/Cascade$Done" "inserted" "J" (.long q1) ∧ Fld Z h a "com/example/eventweir/eventweir/Cascade$Done" "matches" "J" (.long q2)
set_option maxRecDepth 65536 in
set_option maxHeartbeats 40000000 in
theorem rm5 (l : Launch) (Z : State) (a0 : Array Value) (hw : ∀ d ∈ tables_1, d.before a0 Z = true) (ws : List Jvm.Cond) (a : Addr) (q1 : Int64) (q2 : Int64) (u_inserted : Value) (u_matches : Value) (h0 : Heap) (n0 : Nat) (Z0 : n0 ≤ h0.size) (E_a : Exa Z h0 a "com/example/eventweir/eventweir/Cascade$Done") (F_inserted : Fld Z h0 a "com/example/eventweir/eventweir/Cascade$Done" "inserted" "J" u_inserted) (F_matches : Fld Z h0 a "com/example/eventweir/eventweir/Cascade$Done" "matches" "J" u_matches) (g_a : n0 ≤ a) :
    MetFree l (⟨"com/example/eventweir/eventweir/Cascade$Done", "<init>", "(JJ)V"⟩ : MethodName) (head1 (Jvm.Cond.code (⟨"com/example/eventweir/eventweir/Cascade$Done", "<init>", "(JJ)V"⟩ : MethodName) prog_23_method_1_code 5 none :: ws) ({ frames := 2, cells := 0, slots := 0, locals := 24 } : Room)) (fun aa UU => aa = #[(.ref a), (.long q1), (.long q2)] ∧ Z.Warmed39 UU.vm ∧ UU.heap = h0) (fun _ _ _ _ _ => True) (fun _ UU oo UU' => ∃ vv LL, oo = .returned vv ∧ own_Q_rm5 Z a q1 q2 u_inserted u_matches h0 n0 vv UU'.heap LL ∧ FrameEnd UU oo UU' LL ({ frames := 2, cells := 0, slots := 0, locals := 24 } : Room).cells ({ frames := 2, cells := 0, slots := 0, locals := 24 } : Room).slots) := by
  refine MetFree.of_bodySF (plainFor_of_name own_pn2) hisR ?_
  intro p e s m args below meth c s₁ Bd hml0 hP hK
  obtain ⟨rfl, hZ, hh⟩ := hP
  have hx := Bd.exec
  have hby := Bd.bytes
  have hlk := Bd.notSynchronized
  have hml : c.maxLocals = 5 := hml0
  have hown : s.vm.findClass "com/example/eventweir/eventweir/Cascade$Done" = some m.cls := findClass_of_methodNamed Bd.named
  have hnm := (name_of_methodNamed Bd.named Bd.method).1
  have X0 : Stand p l e ({ frames := 2, cells := 0, slots := 0, locals := 24 } : Room) s m #[(.ref a), (.long q1), (.long q2)] below meth c s₁ [] 0 0 := Stand.of_body Bd
  have e0 : s₁.heap = h0 := by rw [← hh, Bd.state]; rfl
  have N0 := Fr.nil n0
  show own_G p.tables e below s (own_Q_rm5 Z a q1 q2 u_inserted u_matches h0 n0) ({ frames := 2, cells := 0, slots := 0, locals := 24 } : Room).cells ({ frames := 2, cells := 0, slots := 0, locals := 24 } : Room).slots (s₁.setTop (entryFrame m #[(.ref a), (.long q1), (.long q2)] 5))
  have K0 := Keep.refl h0 [a]
  refine own_up (U' := s₁.setTop (mkF m 0 #[.val (.ref a), .val (.long q1), .second, .val (.long q2), .second] [])) ?_ (fun t k => castTop (own_ef_rm5 m a q1 q2) k)
  refine own_up ?_ fun t k => XS.aloadN X0.here hx rfl (hb hby own_d5_0) rfl rfl k
  show own_G p.tables e below s _ _ _ (s₁.setTop (mkF m 1 #[.val (.ref a), .val (.long q1), .second, .val (.long q2), .second] [(.ref a)]))
  obtain ⟨_, _, ⟨T13, L13, k13, n13⟩, -, X13, ⟨Lc13, hQ13, l13, y13, z13⟩, st13⟩ := X0.specialBack hx (y := (⟨"java/lang/Record", "<init>", "()V"⟩ : MethodName)) rfl hown (mvT hZ (hw _ (List.mem_of_getElem? (i := 28) rfl))) (mvT hZ (hw _ (List.mem_of_getElem? (i := 29) rfl))) (mvT hZ (hw _ (List.mem_of_getElem? (i := 32) rfl))) (by decide) (backOf (W := 0) (rmRec l Z a0 hw [] a  h0 n0 Z0 ) hZ (hw _ (List.mem_of_getElem? (i := 32) rfl)) (hw _ (List.mem_of_getElem? (i := 31) rfl)) (by decide) (by decide)) (g := (mkF m 1 #[.val (.ref a), .val (.long q1), .second, .val (.long q2), .second] [(.ref a)])) rfl (by rw [hml]; rfl) (Steps.refl _) (a := a) (argsL := []) (rest := []) (lenOf own_pd0 rfl) rfl (by show 2 * 0 + _ ≤ _; exact Nat.le_of_eq rfl) (hb hby own_d5_1) (fun _ _ => ⟨rfl, e0, (by decide : 0 + 0 ≤ _), (by decide : 0 + 0 ≤ _)⟩)
  dsimp only [Pt.U, Pt.locs, Pt.cells, Pt.slots] at X13 l13 y13 z13 st13 hQ13
  subst l13 y13 z13
  obtain ⟨rfl, Nq13, e13⟩ := hQ13
  have N13 := Fr.app N0 Nq13
  refine own_up ?_ (fun t k => st13.trans k)
  show own_G p.tables e below s _ _ _ (T13.setTop (mkF m 4 #[.val (.ref a), .val (.long q1), .second, .val (.long q2), .second] []))
  refine own_up ?_ fun t k => XS.aloadN X13.here hx rfl (hb hby own_d5_4) rfl rfl k
  show own_G p.tables e below s _ _ _ (T13.setTop (mkF m 5 #[.val (.ref a), .val (.long q1), .second, .val (.long q2), .second] [(.ref a)]))
  refine own_up ?_ fun t k => XS.lloadN X13.here hx rfl (hb hby own_d5_5) rfl k
  show own_G p.tables e below s _ _ _ (T13.setTop (mkF m 6 #[.val (.ref a), .val (.long q1), .second, .val (.long q2), .second] [(.long q1), (.ref a)]))
  obtain ⟨T14, h14, X14, e14, W14, st14⟩ := putF X13 hx hZ hown (host := "") (Or.inl (hw _ (List.mem_of_getElem? (i := 34) rfl))) Via.refl e13 F_inserted E_a (Or.inr ⟨(hw _ (List.mem_of_getElem? (i := 35) rfl)), rfl, hnm⟩) (hw _ (List.mem_of_getElem? (i := 23) rfl)) (ty := .long) (by decide) rfl rfl (g := (mkF m 6 #[.val (.ref a), .val (.long q1), .second, .val (.long q2), .second] [(.long q1), (.ref a)])) rfl rfl (hb hby own_d5_6)
  refine own_up ?_ st14
  have E_a_c15 := E_a.wr W14
  have F_matches_c15 := F_matches.other W14 (Or.inr (slot_ne (Or.inr (hw _ (List.mem_of_getElem? (i := 37) rfl))) (Or.inr (hw _ (List.mem_of_getElem? (i := 35) rfl))) (by decide) (t := .long) (t' := .long) (by decide) (by decide)))
  have F14 := F_inserted.same W14
  have N14 := Fr.snoc X14 N13 g_a
  have Zs16 : n0 ≤ h14.size := Nat.le_trans Z0 (Keep.of_wr W14).1
  have K17 : Keep h0 h14 [a] := K0.wr W14 (Or.inl (List.mem_of_getElem? (i := 0) rfl))
  show own_G p.tables e below s _ _ _ (T14.setTop (mkF m 9 #[.val (.ref a), .val (.long q1), .second, .val (.long q2), .second] []))
  refine own_up ?_ fun t k => XS.aloadN X14.here hx rfl (hb hby own_d5_9) rfl rfl k
  show own_G p.tables e below s _ _ _ (T14.setTop (mkF m 10 #[.val (.ref a), .val (.long q1), .second, .val (.long q2), .second] [(.ref a)]))
  refine own_up ?_ fun t k => XS.lloadN X14.here hx rfl (hb hby own_d5_10) rfl k
  show own_G p.tables e below s _ _ _ (T14.setTop (mkF m 11 #[.val (.ref a), .val (.long q1), .second, .val (.long q2), .second] [(.long q2), (.ref a)]))
  obtain ⟨T18, h18, X18, e18, W18, st18⟩ := putF X14 hx hZ hown (host := "") (Or.inl (hw _ (List.mem_of_getElem? (i := 36) rfl))) Via.refl e14 F_matches_c15 E_a_c15 (Or.inr ⟨(hw _ (List.mem_of_getElem? (i := 37) rfl)), rfl, hnm⟩) (hw _ (List.mem_of_getElem? (i := 23) rfl)) (ty := .long) (by decide) rfl rfl (g := (mkF m 11 #[.val (.ref a), .val (.long q1), .second, .val (.long q2), .second] [(.long q2), (.ref a)])) rfl rfl (hb hby own_d5_11)
  refine own_up ?_ st18
  have E_a_c19 := E_a_c15.wr W18
  have F14_c19 := F14.other W18 (Or.inr (slot_ne (Or.inr (hw _ (List.mem_of_getElem? (i := 35) rfl))) (Or.inr (hw _ (List.mem_of_getElem? (i := 37) rfl))) (by decide) (t := .long) (t' := .long) (by decide) (by decide)))
  have F18 := F_matches_c15.same W18
  have N18 := Fr.snoc X18 N14 g_a
  have Zs20 : n0 ≤ h18.size := Nat.le_trans Zs16 (Keep.of_wr W18).1
  have K21 : Keep h0 h18 [a] := K17.wr W18 (Or.inl (List.mem_of_getElem? (i := 0) rfl))
  show own_G p.tables e below s _ _ _ (T18.setTop (mkF m 14 #[.val (.ref a), .val (.long q1), .second, .val (.long q2), .second] []))
  exact own_retV X18 hx hlk Bd.returns (hb hby own_d5_14) (by rw [e18]; exact ⟨rfl, N18, K21, F14_c19, F18⟩) (by decide) (by decide)
theorem own_d8_0 : decode prog_23_method_5_code 0 = .ok (.aload_n 0, 1) := by decide +kernel
theorem own_d8_1 : decode prog_23_method_5_code 1 = .ok (.getfield 7, 3) := by decide +kernel
theorem own_d8_4 : decode prog_23_method_5_code 4 = .ok (.lreturn, 1) := by decide +kernel
theorem own_ef_rm8 (m : MethodId) (x0 : Addr) : entryFrame m #[(.ref x0)] 1 = mkF m 0 #[.val (.ref x0)] [] := by first | (simp [entryFrame, mkF, argsToLocals, Value.category]; done) | rfl
def own_Q_rm8 (Z : State) (a : Addr) (lv : Int64) (h0 : Heap) (n0 : Nat) (v : Option Value) (h : Heap) (L : List Loc) : Prop := v = some (.long lv) ∧ Fr n0 L ∧ h = h0
set_option maxRecDepth 65536 in
set_option maxHeartbeats 40000000 in
theorem rm8 (l : Launch) (Z : State) (a0 : Array Value) (hw : ∀ d ∈ tables_1, d.before a0 Z = true) (ws : List Jvm.Cond) (a : Addr) (lv : Int64) (h0 : Heap) (n0 : Nat) (Z0 : n0 ≤ h0.size) (Fa_inserted : Fld Z h0 a "com/example/eventweir/eventweir/Cascade$Done" "inserted" "J" (.long lv)) :
    MetFree l (⟨"com/example/eventweir/eventweir/Cascade$Done", "inserted", "()J"⟩ : MethodName) (head1 (Jvm.Cond.code (⟨"com/example/eventweir/eventweir/Cascade$Done", "inserted", "()J"⟩ : MethodName) prog_23_method_5_code 1 (some .long) :: ws) ({ frames := 0, cells := 0, slots := 0, locals := 0 } : Room)) (fun aa UU => aa = #[(.ref a)] ∧ Z.Warmed39 UU.vm ∧ UU.heap = h0) (fun _ _ _ _ _ => True) (fun _ UU oo UU' => ∃ vv LL, oo = .returned vv ∧ own_Q_rm8 Z a lv h0 n0 vv UU'.heap LL ∧ FrameEnd UU oo UU' LL ({ frames := 0, cells := 0, slots := 0, locals := 0 } : Room).cells ({ frames := 0, cells := 0, slots := 0, locals := 0 } : Room).slots) := by
  refine MetFree.of_bodySF (plainFor_of_name own_pn2) hisR ?_
  intro p e s m args below meth c s₁ Bd hml0 hP hK
  obtain ⟨rfl, hZ, hh⟩ := hP
  have hx := Bd.exec
  have hby := Bd.bytes
  have hlk := Bd.notSynchronized
  have hml : c.maxLocals = 1 := hml0
  have hown : s.vm.findClass "com/example/eventweir/eventweir/Cascade$Done" = some m.cls := findClass_of_methodNamed Bd.named
  have hnm := (name_of_methodNamed Bd.named Bd.method).1
  have X0 : Stand p l e ({ frames := 0, cells := 0, slots := 0, locals := 0 } : Room) s m #[(.ref a)] below meth c s₁ [] 0 0 := Stand.of_body Bd
  have e0 : s₁.heap = h0 := by rw [← hh, Bd.state]; rfl
  have N0 := Fr.nil n0
  show own_G p.tables e below s (own_Q_rm8 Z a lv h0 n0) ({ frames := 0, cells := 0, slots := 0, locals := 0 } : Room).cells ({ frames := 0, cells := 0, slots := 0, locals := 0 } : Room).slots (s₁.setTop (entryFrame m #[(.ref a)] 1))
  refine own_up (U' := s₁.setTop (mkF m 0 #[.val (.ref a)] [])) ?_ (fun t k => castTop (own_ef_rm8 m a) k)
  refine own_up ?_ fun t k => XS.aloadN X0.here hx rfl (hb hby own_d8_0) rfl rfl k
  show own_G p.tables e below s _ _ _ (s₁.setTop (mkF m 1 #[.val (.ref a)] [(.ref a)]))
  obtain ⟨T22, X22, e22, st22⟩ := getF X0 hx hZ hown (host := "") (Or.inl (hw _ (List.mem_of_getElem? (i := 34) rfl))) Via.refl e0 Fa_inserted (g := (mkF m 1 #[.val (.ref a)] [(.ref a)])) rfl rfl (hb hby own_d8_1)
  refine own_up ?_ st22
  show own_G p.tables e below s _ _ _ (T22.setTop (mkF m 4 #[.val (.ref a)] [(.long lv)]))
  exact own_retJ X22 hx hlk Bd.returns (hb hby own_d8_4) ⟨rfl, N0, e22⟩ (by decide) (by decide)
theorem own_d9_0 : decode prog_23_method_6_code 0 = .ok (.aload_n 0, 1) := by decide +kernel
theorem own_d9_1 : decode prog_23_method_6_code 1 = .ok (.getfield 13, 3) := by decide +kernel
theorem own_d9_4 : decode prog_23_method_6_code 4 = .ok (.lreturn, 1) := by decide +kernel
theorem own_ef_rm9 (m : MethodId) (x0 : Addr) : entryFrame m #[(.ref x0)] 1 = mkF m 0 #[.val (.ref x0)] [] := by first | (simp [entryFrame, mkF, argsToLocals, Value.category]; done) | rfl
def own_Q_rm9 (Z : State) (a : Addr) (lv : Int64) (h0 : Heap) (n0 : Nat) (v : Option Value) (h : Heap) (L : List Loc) : Prop := v = some (.long lv) ∧ Fr n0 L ∧ h = h0
set_option maxRecDepth 65536 in
set_option maxHeartbeats 40000000 in
theorem rm9 (l : Launch) (Z : State) (a0 : Array Value) (hw : ∀ d ∈ tables_1, d.before a0 Z = true) (ws : List Jvm.Cond) (a : Addr) (lv : Int64) (h0 : Heap) (n0 : Nat) (Z0 : n0 ≤ h0.size) (Fa_matches : Fld Z h0 a "com/example/eventweir/eventweir/Cascade$Done" "matches" "J" (.long lv)) :
    MetFree l (⟨"com/example/eventweir/eventweir/Cascade$Done", "matches", "()J"⟩ : MethodName) (head1 (Jvm.Cond.code (⟨"com/example/eventweir/eventweir/Cascade$Done", "matches", "()J"⟩ : MethodName) prog_23_method_6_code 1 (some .long) :: ws) ({ frames := 0, cells := 0, slots := 0, locals := 0 } : Room)) (fun aa UU => aa = #[(.ref a)] ∧ Z.Warmed39 UU.vm ∧ UU.heap = h0) (fun _ _ _ _ _ => True) (fun _ UU oo UU' => ∃ vv LL, oo = .returned vv ∧ own_Q_rm9 Z a lv h0 n0 vv UU'.heap LL ∧ FrameEnd UU oo UU' LL ({ frames := 0, cells := 0, slots := 0, locals := 0 } : Room).cells ({ frames := 0, cells := 0, slots := 0, locals := 0 } : Room).slots) := by
  refine MetFree.of_bodySF (plainFor_of_name own_pn2) hisR ?_
  intro p e s m args below meth c s₁ Bd hml0 hP hK
  obtain ⟨rfl, hZ, hh⟩ := hP
  have hx := Bd.exec
  have hby := Bd.bytes
  have hlk := Bd.notSynchronized
  have hml : c.maxLocals = 1 := hml0
  have hown : s.vm.findClass "com/example/eventweir/eventweir/Cascade$Done" = some m.cls := findClass_of_methodNamed Bd.named
  have hnm := (name_of_methodNamed Bd.named Bd.method).1
  have X0 : Stand p l e ({ frames := 0, cells := 0, slots := 0, locals := 0 } : Room) s m #[(.ref a)] below meth c s₁ [] 0 0 := Stand.of_body Bd
  have e0 : s₁.heap = h0 := by rw [← hh, Bd.state]; rfl
  have N0 := Fr.nil n0
  show own_G p.tables e below s (own_Q_rm9 Z a lv h0 n0) ({ frames := 0, cells := 0, slots := 0, locals := 0 } : Room).cells ({ frames := 0, cells := 0, slots := 0, locals := 0 } : Room).slots (s₁.setTop (entryFrame m #[(.ref a)] 1))
  refine own_up (U' := s₁.setTop (mkF m 0 #[.val (.ref a)] [])) ?_ (fun t k => castTop (own_ef_rm9 m a) k)
  refine own_up ?_ fun t k => XS.aloadN X0.here hx rfl (hb hby own_d9_0) rfl rfl k
  show own_G p.tables e below s _ _ _ (s₁.setTop (mkF m 1 #[.val (.ref a)] [(.ref a)]))
  obtain ⟨T23, X23, e23, st23⟩ := getF X0 hx hZ hown (host := "") (Or.inl (hw _ (List.mem_of_getElem? (i := 36) rfl))) Via.refl e0 Fa_matches (g := (mkF m 1 #[.val (.ref a)] [(.ref a)])) rfl rfl (hb hby own_d9_1)
  refine own_up ?_ st23
  show own_G p.tables e below s _ _ _ (T23.setTop (mkF m 4 #[.val (.ref a)] [(.long lv)]))
  exact own_retJ X23 hx hlk Bd.returns (hb hby own_d9_4) ⟨rfl, N0, e23⟩ (by decide) (by decide)
theorem own_d7_0 : decode prog_22_method_8_code 0 = .ok (.aload_n 0, 1) := by decide +kernel
theorem own_d7_1 : decode prog_22_method_8_code 1 = .ok (.aload_n 1, 1) := by decide +kernel
theorem own_d7_2 : decode prog_22_method_8_code 2 = .ok (.invokevirtual 27, 3) := by decide +kernel
theorem own_d7_5 : decode prog_22_method_8_code 5 = .ok (.putfield 18, 3) := by decide +kernel
theorem own_d7_8 : decode prog_22_method_8_code 8 = .ok (.aload_n 0, 1) := by decide +kernel
theorem own_d7_9 : decode prog_22_method_8_code 9 = .ok (.aload_n 1, 1) := by decide +kernel
theorem own_d7_10 : decode prog_22_method_8_code 10 = .ok (.invokevirtual 30, 3) := by decide +kernel
theorem own_d7_13 : decode prog_22_method_8_code 13 = .ok (.putfield 21, 3) := by decide +kernel
theorem own_d7_16 : decode prog_22_method_8_code 16 = .ok (.return_, 1) := by decide +kernel
theorem own_ef_rm7 (m : MethodId) (x0 : Addr) (x1 : Addr) : entryFrame m #[(.ref x0), (.ref x1)] 2 = mkF m 0 #[.val (.ref x0), .val (.ref x1)] [] := by first | (simp [entryFrame, mkF, argsToLocals, Value.category]; done) | rfl
def own_Q_rm7 (Z : State) (a : Addr) (d : Addr) (mm : Int64) (iv : Int64) (mv : Int64) (di : Int64) (dm : Int64) (h0 : Heap) (n0 : Nat) (v : Option Value) (h : Heap) (L : List Loc) : Prop := v = none ∧ Fr n0 L ∧ Keep h0 h [a] ∧ Fld Z h a "com/example/eventweir/eventweir/Cascade" "mostMatches" "J" (.long mm) ∧ Fld Z h a "com/example/eventweir/eventweir/Cascade" "inserted" "J" (.long di) ∧ Fld Z h a "com/example/eventweir/eventweir/Cascade" "matches" "J" (.long dm)
set_option maxRecDepth 65536 in
set_option maxHeartbeats 40000000 in
theorem rm7 (l : Launch) (Z : State) (a0 : Array Value) (hw : ∀ d ∈ tables_1, d.before a0 Z = true) (ws : List Jvm.Cond) (a : Addr) (d : Addr) (mm : Int64) (iv : Int64) (mv : Int64) (di : Int64) (dm : Int64) (h0 : Heap) (n0 : Nat) (Z0 : n0 ≤ h0.size) (E_a : Exa Z h0 a "com/example/eventweir/eventweir/Cascade") (Fa_mostMatches : Fld Z h0 a "com/example/eventweir/eventweir/Cascade" "mostMatches" "J" (.long mm)) (Fa_inserted : Fld Z h0 a "com/example/eventweir/eventweir/Cascade" "inserted" "J" (.long iv)) (Fa_matches : Fld Z h0 a "com/example/eventweir/eventweir/Cascade" "matches" "J" (.long mv)) (E_d : Exa Z h0 d "com/example/eventweir/eventweir/Cascade$Done") (Fd_inserted : Fld Z h0 d "com/example/eventweir/eventweir/Cascade$Done" "inserted" "J" (.long di)) (Fd_matches : Fld Z h0 d "com/example/eventweir/eventweir/Cascade$Done" "matches" "J" (.long dm)) (g_a : n0 ≤ a) (hne : a ≠ d) :
    MetFree l (⟨"com/example/eventweir/eventweir/Cascade", "reset", "(Lcom/example/eventweir/eventweir/Cascade$Done;)V"⟩ : MethodName) (head1 (Jvm.Cond.code (⟨"com/example/eventweir/eventweir/Cascade", "reset", "(Lcom/example/eventweir/eventweir/Cascade$Done;)V"⟩ : MethodName) prog_22_method_8_code 2 none :: ws) ({ frames := 1, cells := 0, slots := 0, locals := 13 } : Room)) (fun aa UU => aa = #[(.ref a), (.ref d)] ∧ Z.Warmed39 UU.vm ∧ UU.heap = h0) (fun _ _ _ _ _ => True) (fun _ UU oo UU' => ∃ vv LL, oo = .returned vv ∧ own_Q_rm7 Z a d mm iv mv di dm h0 n0 vv UU'.heap LL ∧ FrameEnd UU oo UU' LL ({ frames := 1, cells := 0, slots := 0, locals := 13 } : Room).cells ({ frames := 1, cells := 0, slots := 0, locals := 13 } : Room).slots) := by
  refine MetFree.of_bodySF (plainFor_of_name own_pn0) hisR ?_
  intro p e s m args below meth c s₁ Bd hml0 hP hK
  obtain ⟨rfl, hZ, hh⟩ := hP
  have hx := Bd.exec
  have hby := Bd.bytes
  have hlk := Bd.notSynchronized
  have hml : c.maxLocals = 2 := hml0
  have hown : s.vm.findClass "com/example/eventweir/eventweir/Cascade" = some m.cls := findClass_of_methodNamed Bd.named
  have hnm := (name_of_methodNamed Bd.named Bd.method).1
  have X0 : Stand p l e ({ frames := 1, cells := 0, slots := 0, locals := 13 } : Room) s m #[(.ref a), (.ref d)] below meth c s₁ [] 0 0 := Stand.of_body Bd
  have e0 : s₁.heap = h0 := by rw [← hh, Bd.state]; rfl
  have N0 := Fr.nil n0
  show own_G p.tables e below s (own_Q_rm7 Z a d mm iv mv di dm h0 n0) ({ frames := 1, cells := 0, slots := 0, locals := 13 } : Room).cells ({ frames := 1, cells := 0, slots := 0, locals := 13 } : Room).slots (s₁.setTop (entryFrame m #[(.ref a), (.ref d)] 2))
  have K0 := Keep.refl h0 [a]
  refine own_up (U' := s₁.setTop (mkF m 0 #[.val (.ref a), .val (.ref d)] [])) ?_ (fun t k => castTop (own_ef_rm7 m a d) k)
  refine own_up ?_ fun t k => XS.aloadN X0.here hx rfl (hb hby own_d7_0) rfl rfl k
  show own_G p.tables e below s _ _ _ (s₁.setTop (mkF m 1 #[.val (.ref a), .val (.ref d)] [(.ref a)]))
  refine own_up ?_ fun t k => XS.aloadN X0.here hx rfl (hb hby own_d7_1) rfl rfl k
  show own_G p.tables e below s _ _ _ (s₁.setTop (mkF m 2 #[.val (.ref a), .val (.ref d)] [(.ref d), (.ref a)]))
  obtain ⟨cq24, kq24, q24a, q24b, q24c⟩ := isOf hZ e0 E_d
  obtain ⟨_, _, ⟨T24, L24, k24, n24⟩, -, X24, ⟨Lc24, hQ24, l24, y24, z24⟩, st24⟩ := X0.virtualBack hx (y := (⟨"com/example/eventweir/eventweir/Cascade$Done", "inserted", "()J"⟩ : MethodName)) (z := (⟨"com/example/eventweir/eventweir/Cascade$Done", "inserted", "()J"⟩ : MethodName)) hown (mvT hZ (hw _ (List.mem_of_getElem? (i := 43) rfl))) (mvT hZ (hw _ (List.mem_of_getElem? (i := 44) rfl))) (notFace_of_selects (args := #[]) (mvT hZ (hw _ (List.mem_of_getElem? (i := 46) rfl)))) (mvT hZ (hw _ (List.mem_of_getElem? (i := 46) rfl))) (mvT hZ (hw _ (List.mem_of_getElem? (i := 45) rfl))) (by decide) (backOf (W := 1) (rm8 l Z a0 hw [] d di h0 n0 Z0 Fd_inserted) hZ (hw _ (List.mem_of_getElem? (i := 47) rfl)) (hw _ (List.mem_of_getElem? (i := 24) rfl)) (by decide) (by decide)) q24a q24c (g := (mkF m 2 #[.val (.ref a), .val (.ref d)] [(.ref d), (.ref a)])) rfl (by rw [hml]; rfl) (Steps.refl _) (argsL := []) (rest := [(.ref a)]) (lenOf own_pd1 rfl) rfl (by show 2 * 0 + _ ≤ _; exact Nat.le_of_eq rfl) (hb hby own_d7_2) (fun _ _ => ⟨rfl, e0, (by decide : 0 + 0 ≤ _), (by decide : 0 + 0 ≤ _)⟩)
  dsimp only [Pt.U, Pt.locs, Pt.cells, Pt.slots] at X24 l24 y24 z24 st24 hQ24
  subst l24 y24 z24
  obtain ⟨rfl, Nq24, e24⟩ := hQ24
  have N24 := Fr.app N0 Nq24
  refine own_up ?_ (fun t k => st24.trans k)
  show own_G p.tables e below s _ _ _ (T24.setTop (mkF m 5 #[.val (.ref a), .val (.ref d)] [(.long di), (.ref a)]))
  obtain ⟨T25, h25, X25, e25, W25, st25⟩ := putF X24 hx hZ hown (host := "") (Or.inl (hw _ (List.mem_of_getElem? (i := 48) rfl))) Via.refl e24 Fa_inserted E_a (Or.inl (hw _ (List.mem_of_getElem? (i := 49) rfl))) (hw _ (List.mem_of_getElem? (i := 10) rfl)) (ty := .long) (by decide) rfl rfl (g := (mkF m 5 #[.val (.ref a), .val (.ref d)] [(.long di), (.ref a)])) rfl rfl (hb hby own_d7_5)
  refine own_up ?_ st25
  have E_a_c26 := E_a.wr W25
  have Fa_mostMatches_c26 := Fa_mostMatches.other W25 (Or.inr (slot_ne (Or.inr (hw _ (List.mem_of_getElem? (i := 21) rfl))) (Or.inl (hw _ (List.mem_of_getElem? (i := 49) rfl))) (by decide) (t := .long) (t' := .long) (by decide) (by decide)))
  have Fa_matches_c26 := Fa_matches.other W25 (Or.inr (slot_ne (Or.inl (hw _ (List.mem_of_getElem? (i := 56) rfl))) (Or.inl (hw _ (List.mem_of_getElem? (i := 49) rfl))) (by decide) (t := .long) (t' := .long) (by decide) (by decide)))
  have E_d_c26 := E_d.wr W25
  have Fd_inserted_c26 := Fd_inserted.other W25 (Or.inl (Ne.symm hne))
  have Fd_matches_c26 := Fd_matches.other W25 (Or.inl (Ne.symm hne))
  have F25 := Fa_inserted.same W25
  have N25 := Fr.snoc X25 N24 g_a
  have Zs27 : n0 ≤ h25.size := Nat.le_trans Z0 (Keep.of_wr W25).1
  have K28 : Keep h0 h25 [a] := K0.wr W25 (Or.inl (List.mem_of_getElem? (i := 0) rfl))
  show own_G p.tables e below s _ _ _ (T25.setTop (mkF m 8 #[.val (.ref a), .val (.ref d)] []))
  refine own_up ?_ fun t k => XS.aloadN X25.here hx rfl (hb hby own_d7_8) rfl rfl k
  show own_G p.tables e below s _ _ _ (T25.setTop (mkF m 9 #[.val (.ref a), .val (.ref d)] [(.ref a)]))
  refine own_up ?_ fun t k => XS.aloadN X25.here hx rfl (hb hby own_d7_9) rfl rfl k
  show own_G p.tables e below s _ _ _ (T25.setTop (mkF m 10 #[.val (.ref a), .val (.ref d)] [(.ref d), (.ref a)]))
  obtain ⟨cq29, kq29, q29a, q29b, q29c⟩ := isOf hZ e25 E_d_c26
  obtain ⟨_, _, ⟨T29, L29, k29, n29⟩, -, X29, ⟨Lc29, hQ29, l29, y29, z29⟩, st29⟩ := X25.virtualBack hx (y := (⟨"com/example/eventweir/eventweir/Cascade$Done", "matches", "()J"⟩ : MethodName)) (z := (⟨"com/example/eventweir/eventweir/Cascade$Done", "matches", "()J"⟩ : MethodName)) hown (mvT hZ (hw _ (List.mem_of_getElem? (i := 50) rfl))) (mvT hZ (hw _ (List.mem_of_getElem? (i := 51) rfl))) (notFace_of_selects (args := #[]) (mvT hZ (hw _ (List.mem_of_getElem? (i := 53) rfl)))) (mvT hZ (hw _ (List.mem_of_getElem? (i := 53) rfl))) (mvT hZ (hw _ (List.mem_of_getElem? (i := 52) rfl))) (by decide) (backOf (W := 1) (rm9 l Z a0 hw [] d dm h25 n0 Zs27 Fd_matches_c26) hZ (hw _ (List.mem_of_getElem? (i := 54) rfl)) (hw _ (List.mem_of_getElem? (i := 24) rfl)) (by decide) (by decide)) q29a q29c (g := (mkF m 10 #[.val (.ref a), .val (.ref d)] [(.ref d), (.ref a)])) rfl (by rw [hml]; rfl) (Steps.refl _) (argsL := []) (rest := [(.ref a)]) (lenOf own_pd1 rfl) rfl (by show 2 * 0 + _ ≤ _; exact Nat.le_of_eq rfl) (hb hby own_d7_10) (fun _ _ => ⟨rfl, e25, (by decide : 0 + 0 ≤ _), (by decide : 0 + 0 ≤ _)⟩)
  dsimp only [Pt.U, Pt.locs, Pt.cells, Pt.slots] at X29 l29 y29 z29 st29 hQ29
  subst l29 y29 z29
  obtain ⟨rfl, Nq29, e29⟩ := hQ29
  have N29 := Fr.app N25 Nq29
  refine own_up ?_ (fun t k => st29.trans k)
  show own_G p.tables e below s _ _ _ (T29.setTop (mkF m 13 #[.val (.ref a), .val (.ref d)] [(.long dm), (.ref a)]))
  obtain ⟨T30, h30, X30, e30, W30, st30⟩ := putF X29 hx hZ hown (host := "") (Or.inl (hw _ (List.mem_of_getElem? (i := 55) rfl))) Via.refl e29 Fa_matches_c26 E_a_c26 (Or.inl (hw _ (List.mem_of_getElem? (i := 56) rfl))) (hw _ (List.mem_of_getElem? (i := 10) rfl)) (ty := .long) (by decide) rfl rfl (g := (mkF m 13 #[.val (.ref a), .val (.ref d)] [(.long dm), (.ref a)])) rfl rfl (hb hby own_d7_13)
  refine own_up ?_ st30
  have E_a_c31 := E_a_c26.wr W30
  have Fa_mostMatches_c31 := Fa_mostMatches_c26.other W30 (Or.inr (slot_ne (Or.inr (hw _ (List.mem_of_getElem? (i := 21) rfl))) (Or.inl (hw _ (List.mem_of_getElem? (i := 56) rfl))) (by decide) (t := .long) (t' := .long) (by decide) (by decide)))
  have F25_c31 := F25.other W30 (Or.inr (slot_ne (Or.inl (hw _ (List.mem_of_getElem? (i := 49) rfl))) (Or.inl (hw _ (List.mem_of_getElem? (i := 56) rfl))) (by decide) (t := .long) (t' := .long) (by decide) (by decide)))
  have E_d_c31 := E_d_c26.wr W30
  have Fd_inserted_c31 := Fd_inserted_c26.other W30 (Or.inl (Ne.symm hne))
  have Fd_matches_c31 := Fd_matches_c26.other W30 (Or.inl (Ne.symm hne))
  have F30 := Fa_matches_c26.same W30
  have N30 := Fr.snoc X30 N29 g_a
  have Zs32 : n0 ≤ h30.size := Nat.le_trans Zs27 (Keep.of_wr W30).1
  have K33 : Keep h0 h30 [a] := K28.wr W30 (Or.inl (List.mem_of_getElem? (i := 0) rfl))
  show own_G p.tables e below s _ _ _ (T30.setTop (mkF m 16 #[.val (.ref a), .val (.ref d)] []))
  exact own_retV X30 hx hlk Bd.returns (hb hby own_d7_16) (by rw [e30]; exact ⟨rfl, N30, K33, Fa_mostMatches_c31, F25_c31, F30⟩) (by decide) (by decide)
theorem own_d10_0 : decode prog_22_method_6_code 0 = .ok (.aload_n 0, 1) := by decide +kernel
theorem own_d10_1 : decode prog_22_method_6_code 1 = .ok (.getfield 21, 3) := by decide +kernel
theorem own_d10_4 : decode prog_22_method_6_code 4 = .ok (.aload_n 0, 1) := by decide +kernel
theorem own_d10_5 : decode prog_22_method_6_code 5 = .ok (.getfield 13, 3) := by decide +kernel
theorem own_d10_8 : decode prog_22_method_6_code 8 = .ok (.iload_n 1, 1) := by decide +kernel
theorem own_d10_9 : decode prog_22_method_6_code 9 = .ok (.i2l, 1) := by decide +kernel
theorem own_d10_10 : decode prog_22_method_6_code 10 = .ok (.lsub, 1) := by decide +kernel
theorem own_d10_11 : decode prog_22_method_6_code 11 = .ok (.lcmp, 1) := by decide +kernel
theorem own_d10_12 : decode prog_22_method_6_code 12 = .ok (.ifCond .le 5, 3) := by decide +kernel
theorem own_d10_15 : decode prog_22_method_6_code 15 = .ok (.iconst 0, 1) := by decide +kernel
theorem own_d10_16 : decode prog_22_method_6_code 16 = .ok (.ireturn, 1) := by decide +kernel
theorem own_d10_17 : decode prog_22_method_6_code 17 = .ok (.aload_n 0, 1) := by decide +kernel
theorem own_d10_18 : decode prog_22_method_6_code 18 = .ok (.dup, 1) := by decide +kernel
theorem own_d10_19 : decode prog_22_method_6_code 19 = .ok (.getfield 21, 3) := by decide +kernel
theorem own_d10_22 : decode prog_22_method_6_code 22 = .ok (.iload_n 1, 1) := by decide +kernel
theorem own_d10_23 : decode prog_22_method_6_code 23 = .ok (.i2l, 1) := by decide +kernel
theorem own_d10_24 : decode prog_22_method_6_code 24 = .ok (.ladd, 1) := by decide +kernel
theorem own_d10_25 : decode prog_22_method_6_code 25 = .ok (.putfield 21, 3) := by decide +kernel
theorem own_d10_28 : decode prog_22_method_6_code 28 = .ok (.iconst 1, 1) := by decide +kernel
theorem own_d10_29 : decode prog_22_method_6_code 29 = .ok (.ireturn, 1) := by decide +kernel
theorem own_ef_rm10 (m : MethodId) (x0 : Addr) (x1 : Int32) : entryFrame m #[(.ref x0), (.int x1)] 2 = mkF m 0 #[.val (.ref x0), .val (.int x1)] [] := by first | (simp [entryFrame, mkF, argsToLocals, Value.category]; done) | rfl
def own_Q_rm10 (Z : State) (a : Addr) (c1 : Int32) (mm : Int64) (iv : Int64) (mv : Int64) (h0 : Heap) (n0 : Nat) (v : Option Value) (h : Heap) (L : List Loc) : Prop := v = some (.int (if (mm - (c1.toInt64)) < mv then (0 : Int32) else (1 : Int32))) ∧ Fr n0 L ∧ Keep h0 h [a] ∧ Fld Z h a "com/example/eventweir/eventweir/Cascade" "mostMatches" "J" (.long mm) ∧ Fld Z h a "com/example/eventweir/eventweir/Cascade" "inserted" "J" (.long iv) ∧ Fld Z h a "com/example/eventweir/eventweir/Cascade" "matches" "J" (.long (if (mm - (c1.toInt64)) < mv then mv else (mv + (c1.toInt64))))
set_option maxRecDepth 65536 in
set_option maxHeartbeats 40000000 in
theorem rm10 (l : Launch) (Z : State) (a0 : Array Value) (hw : ∀ d ∈ tables_1, d.before a0 Z = true) (ws : List Jvm.Cond) (a : Addr) (c1 : Int32) (mm : Int64) (iv : Int64) (mv : Int64) (h0 : Heap) (n0 : Nat) (Z0 : n0 ≤ h0.size) (E_a : Exa Z h0 a "com/example/eventweir/eventweir/Cascade") (Fa_mostMatches : Fld Z h0 a "com/example/eventweir/eventweir/Cascade" "mostMatches" "J" (.long mm)) (Fa_inserted : Fld Z h0 a "com/example/eventweir/eventweir/Cascade" "inserted" "J" (.long iv)) (Fa_matches : Fld Z h0 a "com/example/eventweir/eventweir/Cascade" "matches" "J" (.long mv)) (g_a : n0 ≤ a) :
    MetFree l (⟨"com/example/eventweir/eventweir/Cascade", "handOn", "(I)Z"⟩ : MethodName) (head1 (Jvm.Cond.code (⟨"com/example/eventweir/eventweir/Cascade", "handOn", "(I)Z"⟩ : MethodName) prog_22_method_6_code 2 (some .boolean) :: ws) ({ frames := 0, cells := 0, slots := 0, locals := 0 } : Room)) (fun aa UU => aa = #[(.ref a), (.int c1)] ∧ Z.Warmed39 UU.vm ∧ UU.heap = h0) (fun _ _ _ _ _ => True) (fun _ UU oo UU' => ∃ vv LL, oo = .returned vv ∧ own_Q_rm10 Z a c1 mm iv mv h0 n0 vv UU'.heap LL ∧ FrameEnd UU oo UU' LL ({ frames := 0, cells := 0, slots := 0, locals := 0 } : Room).cells ({ frames := 0, cells := 0, slots := 0, locals := 0 } : Room).slots) := by
  refine MetFree.of_bodySF (plainFor_of_name own_pn0) hisR ?_
  intro p e s m args below meth c s₁ Bd hml0 hP hK
  obtain ⟨rfl, hZ, hh⟩ := hP
  have hx := Bd.exec
  have hby := Bd.bytes
  have hlk := Bd.notSynchronized
  have hml : c.maxLocals = 2 := hml0
  have hown : s.vm.findClass "com/example/eventweir/eventweir/Cascade" = some m.cls := findClass_of_methodNamed Bd.named
  have hnm := (name_of_methodNamed Bd.named Bd.method).1
  have X0 : Stand p l e ({ frames := 0, cells := 0, slots := 0, locals := 0 } : Room) s m #[(.ref a), (.int c1)] below meth c s₁ [] 0 0 := Stand.of_body Bd
  have e0 : s₁.heap = h0 := by rw [← hh, Bd.state]; rfl
  have N0 := Fr.nil n0
  show own_G p.tables e below s (own_Q_rm10 Z a c1 mm iv mv h0 n0) ({ frames := 0, cells := 0, slots := 0, locals := 0 } : Room).cells ({ frames := 0, cells := 0, slots := 0, locals := 0 } : Room).slots (s₁.setTop (entryFrame m #[(.ref a), (.int c1)] 2))
  have K0 := Keep.refl h0 [a]
  refine own_up (U' := s₁.setTop (mkF m 0 #[.val (.ref a), .val (.int c1)] [])) ?_ (fun t k => castTop (own_ef_rm10 m a c1) k)
  refine own_up ?_ fun t k => XS.aloadN X0.here hx rfl (hb hby own_d10_0) rfl rfl k
  show own_G p.tables e below s _ _ _ (s₁.setTop (mkF m 1 #[.val (.ref a), .val (.int c1)] [(.ref a)]))
  obtain ⟨T34, X34, e34, st34⟩ := getF X0 hx hZ hown (host := "") (Or.inl (hw _ (List.mem_of_getElem? (i := 55) rfl))) Via.refl e0 Fa_matches (g := (mkF m 1 #[.val (.ref a), .val (.int c1)] [(.ref a)])) rfl rfl (hb hby own_d10_1)
  refine own_up ?_ st34
  show own_G p.tables e below s _ _ _ (T34.setTop (mkF m 4 #[.val (.ref a), .val (.int c1)] [(.long mv)]))
  refine own_up ?_ fun t k => XS.aloadN X34.here hx rfl (hb hby own_d10_4) rfl rfl k
  show own_G p.tables e below s _ _ _ (T34.setTop (mkF m 5 #[.val (.ref a), .val (.int c1)] [(.ref a), (.long mv)]))
  obtain ⟨T35, X35, e35, st35⟩ := getF X34 hx hZ hown (host := "") (Or.inl (hw _ (List.mem_of_getElem? (i := 20) rfl))) Via.refl e34 Fa_mostMatches (g := (mkF m 5 #[.val (.ref a), .val (.int c1)] [(.ref a), (.long mv)])) rfl rfl (hb hby own_d10_5)
  refine own_up ?_ st35
  show own_G p.tables e below s _ _ _ (T35.setTop (mkF m 8 #[.val (.ref a), .val (.int c1)] [(.long mm), (.long mv)]))
  refine own_up ?_ fun t k => XS.iloadN X35.here hx rfl (hb hby own_d10_8) rfl k
  show own_G p.tables e below s _ _ _ (T35.setTop (mkF m 9 #[.val (.ref a), .val (.int c1)] [(.int c1), (.long mm), (.long mv)]))
  refine own_up ?_ fun t k => XS.i2l X35.here hx rfl (hb hby own_d10_9) rfl k
  show own_G p.tables e below s _ _ _ (T35.setTop (mkF m 10 #[.val (.ref a), .val (.int c1)] [(.long (c1.toInt64)), (.long mm), (.long mv)]))
  refine own_up ?_ fun t k => XS.lsub X35.here hx rfl (hb hby own_d10_10) rfl k
  show own_G p.tables e below s _ _ _ (T35.setTop (mkF m 11 #[.val (.ref a), .val (.int c1)] [(.long (mm - (c1.toInt64))), (.long mv)]))
  refine own_up ?_ fun t k => XS.lcmp X35.here hx rfl (hb hby own_d10_11) rfl k
  show own_G p.tables e below s _ _ _ (T35.setTop (mkF m 12 #[.val (.ref a), .val (.int c1)] [(.int (lcmpW mv (mm - (c1.toInt64))))]))
  by_cases hc12_36 : (mm - (c1.toInt64)) < mv
  · refine own_up ?_ fun t k => XS.ifNo X35.here hx rfl (hb hby own_d10_12) rfl ((if0 _ _).trans (tlt ((lw_gt _ _).mpr hc12_36)).2.2.2) k
    show own_G p.tables e below s _ _ _ (T35.setTop (mkF m 15 #[.val (.ref a), .val (.int c1)] []))
    refine own_up ?_ fun t k => XS.iconst X35.here hx rfl (hb hby own_d10_15) k
    show own_G p.tables e below s _ _ _ (T35.setTop (mkF m 16 #[.val (.ref a), .val (.int c1)] [(.int (0 : Int32))]))
    exact own_retI X35 hx hlk Bd.returns (by simp) rfl (hb hby own_d10_16) (by rw [e35]; exact ⟨by simp only [if_pos hc12_36], N0, K0, Fa_mostMatches, Fa_inserted, by simpa only [if_pos hc12_36] using Fa_matches⟩) (by decide) (by decide)
  · refine own_up ?_ fun t k => XS.ifYes X35.here hx rfl (pc0 := 12) (pc' := 17) rfl (hb hby own_d10_12) rfl ((if0 _ _).trans (flt (fun q => hc12_36 ((lw_gt _ _).mp q))).2.2.2) (by decide) (by decide) k
    show own_G p.tables e below s _ _ _ (T35.setTop (mkF m 17 #[.val (.ref a), .val (.int c1)] []))
    refine own_up ?_ fun t k => XS.aloadN X35.here hx rfl (hb hby own_d10_17) rfl rfl k
    show own_G p.tables e below s _ _ _ (T35.setTop (mkF m 18 #[.val (.ref a), .val (.int c1)] [(.ref a)]))
    refine own_up ?_ fun t k => XS.dup X35.here hx rfl (hb hby own_d10_18) rfl rfl k
    show own_G p.tables e below s _ _ _ (T35.setTop (mkF m 19 #[.val (.ref a), .val (.int c1)] [(.ref a), (.ref a)]))
    obtain ⟨T37, X37, e37, st37⟩ := getF X35 hx hZ hown (host := "") (Or.inl (hw _ (List.mem_of_getElem? (i := 55) rfl))) Via.refl e35 Fa_matches (g := (mkF m 19 #[.val (.ref a), .val (.int c1)] [(.ref a), (.ref a)])) rfl rfl (hb hby own_d10_19)
    refine own_up ?_ st37
    show own_G p.tables e below s _ _ _ (T37.setTop (mkF m 22 #[.val (.ref a), .val (.int c1)] [(.long mv), (.ref a)]))
    refine own_up ?_ fun t k => XS.iloadN X37.here hx rfl (hb hby own_d10_22) rfl k
    show own_G p.tables e below s _ _ _ (T37.setTop (mkF m 23 #[.val (.ref a), .val (.int c1)] [(.int c1), (.long mv), (.ref a)]))
    refine own_up ?_ fun t k => XS.i2l X37.here hx rfl (hb hby own_d10_23) rfl k
    show own_G p.tables e below s _ _ _ (T37.setTop (mkF m 24 #[.val (.ref a), .val (.int c1)] [(.long (c1.toInt64)), (.long mv), (.ref a)]))
    refine own_up ?_ fun t k => XS.ladd X37.here hx rfl (hb hby own_d10_24) rfl k
    show own_G p.tables e below s _ _ _ (T37.setTop (mkF m 25 #[.val (.ref a), .val (.int c1)] [(.long (mv + (c1.toInt64))), (.ref a)]))
    obtain ⟨T38, h38, X38, e38, W38, st38⟩ := putF X37 hx hZ hown (host := "") (Or.inl (hw _ (List.mem_of_getElem? (i := 55) rfl))) Via.refl e37 Fa_matches E_a (Or.inl (hw _ (List.mem_of_getElem? (i := 56) rfl))) (hw _ (List.mem_of_getElem? (i := 10) rfl)) (ty := .long) (by decide) rfl rfl (g := (mkF m 25 #[.val (.ref a), .val (.int c1)] [(.long (mv + (c1.toInt64))), (.ref a)])) rfl rfl (hb hby own_d10_25)
    refine own_up ?_ st38
    have E_a_c39 := E_a.wr W38
    have Fa_mostMatches_c39 := Fa_mostMatches.other W38 (Or.inr (slot_ne (Or.inr (hw _ (List.mem_of_getElem? (i := 21) rfl))) (Or.inl (hw _ (List.mem_of_getElem? (i := 56) rfl))) (by decide) (t := .long) (t' := .long) (by decide) (by decide)))
    have Fa_inserted_c39 := Fa_inserted.other W38 (Or.inr (slot_ne (Or.inl (hw _ (List.mem_of_getElem? (i := 49) rfl))) (Or.inl (hw _ (List.mem_of_getElem? (i := 56) rfl))) (by decide) (t := .long) (t' := .long) (by decide) (by decide)))
    have F38 := Fa_matches.same W38
    have N38 := Fr.snoc X38 N0 g_a
    have Zs40 : n0 ≤ h38.size := Nat.le_trans Z0 (Keep.of_wr W38).1
    have K41 : Keep h0 h38 [a] := K0.wr W38 (Or.inl (List.mem_of_getElem? (i := 0) rfl))
    show own_G p.tables e below s _ _ _ (T38.setTop (mkF m 28 #[.val (.ref a), .val (.int c1)] []))
    refine own_up ?_ fun t k => XS.iconst X38.here hx rfl (hb hby own_d10_28) k
    show own_G p.tables e below s _ _ _ (T38.setTop (mkF m 29 #[.val (.ref a), .val (.int c1)] [(.int (1 : Int32))]))
    exact own_retI X38 hx hlk Bd.returns (by simp) rfl (hb hby own_d10_29) (by rw [e38]; exact ⟨by simp only [if_neg hc12_36], N38, K41, Fa_mostMatches_c39, Fa_inserted_c39, by simpa only [if_neg hc12_36] using F38⟩) (by decide) (by decide)
theorem own_d11_0 : decode prog_22_method_4_code 0 = .ok (.new 16, 3) := by decide +kernel
theorem own_d11_3 : decode prog_22_method_4_code 3 = .ok (.dup, 1) := by decide +kernel
theorem own_d11_4 : decode prog_22_method_4_code 4 = .ok (.aload_n 0, 1) := by decide +kernel
theorem own_d11_5 : decode prog_22_method_4_code 5 = .ok (.getfield 18, 3) := by decide +kernel
theorem own_d11_8 : decode prog_22_method_4_code 8 = .ok (.aload_n 0, 1) := by decide +kernel
theorem own_d11_9 : decode prog_22_method_4_code 9 = .ok (.getfield 21, 3) := by decide +kernel
theorem own_d11_12 : decode prog_22_method_4_code 12 = .ok (.invokespecial 24, 3) := by decide +kernel
theorem own_d11_15 : decode prog_22_method_4_code 15 = .ok (.areturn, 1) := by decide +kernel
theorem own_ef_rm11 (m : MethodId) (x0 : Addr) : entryFrame m #[(.ref x0)] 1 = mkF m 0 #[.val (.ref x0)] [] := by first | (simp [entryFrame, mkF, argsToLocals, Value.category]; done) | rfl
def own_Q_rm11 (Z : State) (a : Addr) (iv : Int64) (mv : Int64) (h0 : Heap) (n0 : Nat) (v : Option Value) (h : Heap) (L : List Loc) : Prop := ∃ b : Addr, v = some (.ref b) ∧ Fr n0 L ∧ Keep h0 h [] ∧ n0 ≤ b ∧ Exa Z h b "com/example/eventweir/eventweir/Cascade$Done" ∧ Fld Z h b "com/example/eventweir/eventweir/Cascade$Done" "inserted" "J" (.long iv) ∧ Fld Z h b "com/example/eventweir/eventweir/Cascade$Done" "matches" "J" (.long mv)
set_option maxRecDepth 65536 in
set_option maxHeartbeats 40000000 in
theorem rm11 (l : Launch) (Z : State) (a0 : Array Value) (hw : ∀ d ∈ tables_1, d.before a0 Z = true) (ws : List Jvm.Cond) (a : Addr) (iv : Int64) (mv : Int64) (h0 : Heap) (n0 : Nat) (Z0 : n0 ≤ h0.size) (Fa_inserted : Fld Z h0 a "com/example/eventweir/eventweir/Cascade" "inserted" "J" (.long iv)) (Fa_matches : Fld Z h0 a "com/example/eventweir/eventweir/Cascade" "matches" "J" (.long mv)) :
    MetFree l (⟨"com/example/eventweir/eventweir/Cascade", "done", "()Lcom/example/eventweir/eventweir/Cascade$Done;"⟩ : MethodName) (head1 (Jvm.Cond.code (⟨"com/example/eventweir/eventweir/Cascade", "done", "()Lcom/example/eventweir/eventweir/Cascade$Done;"⟩ : MethodName) prog_22_method_4_code 1 (some (.object "com/example/eventweir/eventweir/Cascade$Done")) :: ws) ({ frames := 3, cells := 1, slots := 2, locals := 41 } : Room)) (fun aa UU => aa = #[(.ref a)] ∧ Z.Warmed39 UU.vm ∧ UU.heap = h0) (fun _ _ _ _ _ => True) (fun _ UU oo UU' => ∃ vv LL, oo = .returned vv ∧ own_Q_rm11 Z a iv mv h0 n0 vv UU'.heap LL ∧ FrameEnd UU oo UU' LL ({ frames := 3, cells := 1, slots := 2, locals := 41 } : Room).cells ({ frames := 3, cells := 1, slots := 2, locals := 41 } : Room).slots) := by
  refine MetFree.of_bodySF (plainFor_of_name own_pn0) hisR ?_
  intro p e s m args below meth c s₁ Bd hml0 hP hK
  obtain ⟨rfl, hZ, hh⟩ := hP
  have hx := Bd.exec
  have hby := Bd.bytes
  have hlk := Bd.notSynchronized
  have hml : c.maxLocals = 1 := hml0
  have hown : s.vm.findClass "com/example/eventweir/eventweir/Cascade" = some m.cls := findClass_of_methodNamed Bd.named
  have hnm := (name_of_methodNamed Bd.named Bd.method).1
  have X0 : Stand p l e ({ frames := 3, cells := 1, slots := 2, locals := 41 } : Room) s m #[(.ref a)] below meth c s₁ [] 0 0 := Stand.of_body Bd
  have e0 : s₁.heap = h0 := by rw [← hh, Bd.state]; rfl
  have N0 := Fr.nil n0
  show own_G p.tables e below s (own_Q_rm11 Z a iv mv h0 n0) ({ frames := 3, cells := 1, slots := 2, locals := 41 } : Room).cells ({ frames := 3, cells := 1, slots := 2, locals := 41 } : Room).slots (s₁.setTop (entryFrame m #[(.ref a)] 1))
  have K0 := Keep.refl h0 []
  refine own_up (U' := s₁.setTop (mkF m 0 #[.val (.ref a)] [])) ?_ (fun t k => castTop (own_ef_rm11 m a) k)
  obtain ⟨T42, h42, X42, e42, E42, A42, D42, -, st42⟩ := newO X0 hx hZ hown (hw _ (List.mem_of_getElem? (i := 67) rfl)) (hw _ (List.mem_of_getElem? (i := 23) rfl)) (hw _ (List.mem_of_getElem? (i := 24) rfl)) e0 (g := (mkF m 0 #[.val (.ref a)] [])) rfl (hb hby own_d11_0) (by decide) (by decide)
  obtain ⟨b42, g42⟩ : ∃ z, z = h0.size := ⟨_, rfl⟩
  rw [← g42] at A42 D42 st42
  refine own_up ?_ st42
  have ne43 : a ≠ b42 := Nat.ne_of_lt (Nat.lt_of_lt_of_le Fa_inserted.lt (Nat.le_of_eq g42.symm))
  have ge44 : n0 ≤ b42 := Nat.le_trans Z0 (Nat.le_of_eq g42.symm)
  have sz45 : h0.size ≤ b42 := Nat.le_trans K0.1 (Nat.le_of_eq g42.symm)
  have Fa_inserted_c46 := Fa_inserted.ext E42
  have Fa_matches_c46 := Fa_matches.ext E42
  have Zs47 : n0 ≤ h42.size := Nat.le_trans Z0 E42.1
  have K48 : Keep h0 h42 [] := K0.ext E42
  have F_inserted_b42 : Fld Z h42 b42 "com/example/eventweir/eventweir/Cascade$Done" "inserted" "J" (.long (0 : Int64)) := D42 (Or.inr (hw _ (List.mem_of_getElem? (i := 35) rfl))) (ty := .long) (by decide)
  have F_matches_b42 : Fld Z h42 b42 "com/example/eventweir/eventweir/Cascade$Done" "matches" "J" (.long (0 : Int64)) := D42 (Or.inr (hw _ (List.mem_of_getElem? (i := 37) rfl))) (ty := .long) (by decide)
  show own_G p.tables e below s _ _ _ (T42.setTop (mkF m 3 #[.val (.ref a)] [(.ref b42)]))
  refine own_up ?_ fun t k => XS.dup X42.here hx rfl (hb hby own_d11_3) rfl rfl k
  show own_G p.tables e below s _ _ _ (T42.setTop (mkF m 4 #[.val (.ref a)] [(.ref b42), (.ref b42)]))
  refine own_up ?_ fun t k => XS.aloadN X42.here hx rfl (hb hby own_d11_4) rfl rfl k
  show own_G p.tables e below s _ _ _ (T42.setTop (mkF m 5 #[.val (.ref a)] [(.ref a), (.ref b42), (.ref b42)]))
  obtain ⟨T49, X49, e49, st49⟩ := getF X42 hx hZ hown (host := "") (Or.inl (hw _ (List.mem_of_getElem? (i := 48) rfl))) Via.refl e42 Fa_inserted_c46 (g := (mkF m 5 #[.val (.ref a)] [(.ref a), (.ref b42), (.ref b42)])) rfl rfl (hb hby own_d11_5)
  refine own_up ?_ st49
  show own_G p.tables e below s _ _ _ (T49.setTop (mkF m 8 #[.val (.ref a)] [(.long iv), (.ref b42), (.ref b42)]))
  refine own_up ?_ fun t k => XS.aloadN X49.here hx rfl (hb hby own_d11_8) rfl rfl k
  show own_G p.tables e below s _ _ _ (T49.setTop (mkF m 9 #[.val (.ref a)] [(.ref a), (.long iv), (.ref b42), (.ref b42)]))
  obtain ⟨T50, X50, e50, st50⟩ := getF X49 hx hZ hown (host := "") (Or.inl (hw _ (List.mem_of_getElem? (i := 55) rfl))) Via.refl e49 Fa_matches_c46 (g := (mkF m 9 #[.val (.ref a)] [(.ref a), (.long iv), (.ref b42), (.ref b42)])) rfl rfl (hb hby own_d11_9)
  refine own_up ?_ st50
  show own_G p.tables e below s _ _ _ (T50.setTop (mkF m 12 #[.val (.ref a)] [(.long mv), (.long iv), (.ref b42), (.ref b42)]))
  obtain ⟨_, _, ⟨T51, L51, k51, n51⟩, -, X51, ⟨Lc51, hQ51, l51, y51, z51⟩, st51⟩ := X50.specialBack hx (y := (⟨"com/example/eventweir/eventweir/Cascade$Done", "<init>", "(JJ)V"⟩ : MethodName)) rfl hown (mvT hZ (hw _ (List.mem_of_getElem? (i := 68) rfl))) (mvT hZ (hw _ (List.mem_of_getElem? (i := 26) rfl))) (mvT hZ (hw _ (List.mem_of_getElem? (i := 27) rfl))) (by decide) (backOf (W := 1) (rm5 l Z a0 hw [] b42 iv mv (.long (0 : Int64)) (.long (0 : Int64)) h42 n0 Zs47 A42 F_inserted_b42 F_matches_b42 ge44) hZ (hw _ (List.mem_of_getElem? (i := 27) rfl)) (hw _ (List.mem_of_getElem? (i := 24) rfl)) (by decide) (by decide)) (g := (mkF m 12 #[.val (.ref a)] [(.long mv), (.long iv), (.ref b42), (.ref b42)])) rfl (by rw [hml]; rfl) (Steps.refl _) (a := b42) (argsL := [(.long iv), (.long mv)]) (rest := [(.ref b42)]) (lenOf own_pd2 rfl) rfl (by show 2 * 0 + _ ≤ _; exact Nat.le_of_eq rfl) (hb hby own_d11_12) (fun _ _ => ⟨rfl, e50, (by decide : 1 + 0 ≤ _), (by decide : 2 + 0 ≤ _)⟩)
  dsimp only [Pt.U, Pt.locs, Pt.cells, Pt.slots] at X51 l51 y51 z51 st51 hQ51
  subst l51 y51 z51
  obtain ⟨rfl, Nq51, Kq51, Fq51_0, Fq51_1⟩ := hQ51
  have N51 := Fr.app N0 Nq51
  have Fa_inserted_c52 := Fa_inserted_c46.keep Kq51 (ninS ne43 nin0)
  have Fa_matches_c52 := Fa_matches_c46.keep Kq51 (ninS ne43 nin0)
  have A42_c52 := A42.keep Kq51
  have Zs53 : n0 ≤ T51.heap.size := Nat.le_trans Zs47 Kq51.1
  have K54 : Keep h0 T51.heap [] := K48.trans Kq51 (allS (Or.inr sz45) all0)
  refine own_up ?_ (fun t k => st51.trans k)
  show own_G p.tables e below s _ _ _ (T51.setTop (mkF m 15 #[.val (.ref a)] [(.ref b42)]))
  exact own_retA X51 hx hlk Bd.returns rfl rfl (hb hby own_d11_15) ⟨b42, rfl, N51, K54, ge44, A42_c52, Fq51_0, Fq51_1⟩ (by decide) (by decide)
theorem own_d12_0 : decode prog_22_method_3_code 0 = .ok (.aload_n 0, 1) := by decide +kernel
theorem own_d12_1 : decode prog_22_method_3_code 1 = .ok (.getfield 13, 3) := by decide +kernel
theorem own_d12_4 : decode prog_22_method_3_code 4 = .ok (.lreturn, 1) := by decide +kernel
theorem own_ef_rm12 (m : MethodId) (x0 : Addr) : entryFrame m #[(.ref x0)] 1 = mkF m 0 #[.val (.ref x0)] [] := by first | (simp [entryFrame, mkF, argsToLocals, Value.category]; done) | rfl
def own_Q_rm12 (Z : State) (a : Addr) (lv : Int64) (h0 : Heap) (n0 : Nat) (v : Option Value) (h : Heap) (L : List Loc) : Prop := v = some (.long lv) ∧ Fr n0 L ∧ h = h0
set_option maxRecDepth 65536 in
set_option maxHeartbeats 40000000 in
theorem rm12 (l : Launch) (Z : State) (a0 : Array Value) (hw : ∀ d ∈ tables_1, d.before a0 Z = true) (ws : List Jvm.Cond) (a : Addr) (lv : Int64) (h0 : Heap) (n0 : Nat) (Z0 : n0 ≤ h0.size) (Fa_mostMatches : Fld Z h0 a "com/example/eventweir/eventweir/Cascade" "mostMatches" "J" (.long lv)) :
    MetFree l (⟨"com/example/eventweir/eventweir/Cascade", "mostMatches", "()J"⟩ : MethodName) (head1 (Jvm.Cond.code (⟨"com/example/eventweir/eventweir/Cascade", "mostMatches", "()J"⟩ : MethodName) prog_22_method_3_code 1 (some .long) :: ws) ({ frames := 0, cells := 0, slots := 0, locals := 0 } : Room)) (fun aa UU => aa = #[(.ref a)] ∧ Z.Warmed39 UU.vm ∧ UU.heap = h0) (fun _ _ _ _ _ => True) (fun _ UU oo UU' => ∃ vv LL, oo = .returned vv ∧ own_Q_rm12 Z a lv h0 n0 vv UU'.heap LL ∧ FrameEnd UU oo UU' LL ({ frames := 0, cells := 0, slots := 0, locals := 0 } : Room).cells ({ frames := 0, cells := 0, slots := 0, locals := 0 } : Room).slots) := by
  refine MetFree.of_bodySF (plainFor_of_name own_pn0) hisR ?_
  intro p e s m args below meth c s₁ Bd hml0 hP hK
  obtain ⟨rfl, hZ, hh⟩ := hP
  have hx := Bd.exec
  have hby := Bd.bytes
  have hlk := Bd.notSynchronized
  have hml : c.maxLocals = 1 := hml0
  have hown : s.vm.findClass "com/example/eventweir/eventweir/Cascade" = some m.cls := findClass_of_methodNamed Bd.named
  have hnm := (name_of_methodNamed Bd.named Bd.method).1
  have X0 : Stand p l e ({ frames := 0, cells := 0, slots := 0, locals := 0 } : Room) s m #[(.ref a)] below meth c s₁ [] 0 0 := Stand.of_body Bd
  have e0 : s₁.heap = h0 := by rw [← hh, Bd.state]; rfl
  have N0 := Fr.nil n0
  show own_G p.tables e below s (own_Q_rm12 Z a lv h0 n0) ({ frames := 0, cells := 0, slots := 0, locals := 0 } : Room).cells ({ frames := 0, cells := 0, slots := 0, locals := 0 } : Room).slots (s₁.setTop (entryFrame m #[(.ref a)] 1))
  refine own_up (U' := s₁.setTop (mkF m 0 #[.val (.ref a)] [])) ?_ (fun t k => castTop (own_ef_rm12 m a) k)
  refine own_up ?_ fun t k => XS.aloadN X0.here hx rfl (hb hby own_d12_0) rfl rfl k
  show own_G p.tables e below s _ _ _ (s₁.setTop (mkF m 1 #[.val (.ref a)] [(.ref a)]))
  obtain ⟨T55, X55, e55, st55⟩ := getF X0 hx hZ hown (host := "") (Or.inl (hw _ (List.mem_of_getElem? (i := 20) rfl))) Via.refl e0 Fa_mostMatches (g := (mkF m 1 #[.val (.ref a)] [(.ref a)])) rfl rfl (hb hby own_d12_1)
  refine own_up ?_ st55
  show own_G p.tables e below s _ _ _ (T55.setTop (mkF m 4 #[.val (.ref a)] [(.long lv)]))
  exact own_retJ X55 hx hlk Bd.returns (hb hby own_d12_4) ⟨rfl, N0, e55⟩ (by decide) (by decide)
theorem own_pn3 : plainName "com/example/eventweir/eventweir/CascadeHandOnPinLaw" = true := by first | (simp [plainName, overriddenIn]; done) | decide +kernel
theorem own_ef_rm0 (m : MethodId) (x0 : Int64) (x1 : Int64) (x2 : Int64) (x3 : Int64) (x4 : Int32) (x5 : Int32) : entryFrame m #[(.long x0), (.long x1), (.long x2), (.long x3), (.int x4), (.int x5)] maxLocals = mkF m 0 #[.val (.long x0), .second, .val (.long x1), .second, .val (.long x2), .second, .val (.long x3), .second, .val (.int x4), .val (.int x5), .unset, .unset, .unset, .unset, .unset, .unset, .unset, .unset, .unset, .unset, .unset, .unset, .unset] [] := by first | (simp [entryFrame, mkF, argsToLocals, Value.category, maxLocals]; done) | rfl
def own_Q_rm0 (Z : State) (q1 : Int64) (q2 : Int64) (q3 : Int64) (q4 : Int64) (p5 : Int32) (p6 : Int32) (h0 : Heap) (n0 : Nat) (v : Option Value) (h : Heap) (L : List Loc) : Prop := v = some (.int (1 : Int32)) ∧ Fr n0 L
set_option maxRecDepth 65536 in
set_option maxHeartbeats 40000000 in
theorem rm0 (l : Launch) (Z : State) (a0 : Array Value) (hw : ∀ d ∈ tables_1, d.before a0 Z = true) (ws : List Jvm.Cond) (q1 : Int64) (q2 : Int64) (q3 : Int64) (q4 : Int64) (p5 : Int32) (p6 : Int32) (h0 : Heap) (n0 : Nat) (Z0 : n0 ≤ h0.size) :
    MetFree l x (head1 (Jvm.Cond.code x code maxLocals ret :: ws) room_1) (fun aa UU => aa = #[(.long q1), (.long q2), (.long q3), (.long q4), (.int p5), (.int p6)] ∧ Z.Warmed39 UU.vm ∧ UU.heap = h0) (fun _ _ _ _ _ => True) (fun _ UU oo UU' => ∃ vv LL, oo = .returned vv ∧ own_Q_rm0 Z q1 q2 q3 q4 p5 p6 h0 n0 vv UU'.heap LL ∧ FrameEnd UU oo UU' LL room_1.cells room_1.slots) := by
  refine MetFree.of_bodySF (plainFor_of_name own_pn3) hisR ?_
  intro p e s m args below meth c s₁ Bd hml0 hP hK
  obtain ⟨rfl, hZ, hh⟩ := hP
  have hx := Bd.exec
  have hby := Bd.bytes
  have hlk := Bd.notSynchronized
  have hml : c.maxLocals = 23 := hml0
  have hown : s.vm.findClass "com/example/eventweir/eventweir/CascadeHandOnPinLaw" = some m.cls := findClass_of_methodNamed Bd.named
  have hnm := (name_of_methodNamed Bd.named Bd.method).1
  have X0 : Stand p l e room_1 s m #[(.long q1), (.long q2), (.long q3), (.long q4), (.int p5), (.int p6)] below meth c s₁ [] 0 0 := Stand.of_body Bd
  have e0 : s₁.heap = h0 := by rw [← hh, Bd.state]; rfl
  have N0 := Fr.nil n0
  show own_G p.tables e below s (own_Q_rm0 Z q1 q2 q3 q4 p5 p6 h0 n0) room_1.cells room_1.slots (s₁.setTop (entryFrame m #[(.long q1), (.long q2), (.long q3), (.long q4), (.int p5), (.int p6)] maxLocals))
  refine own_up (U' := s₁.setTop (mkF m 0 #[.val (.long q1), .second, .val (.long q2), .second, .val (.long q3), .second, .val (.long q4), .second, .val (.int p5), .val (.int p6), .unset, .unset, .unset, .unset, .unset, .unset, .unset, .unset, .unset, .unset, .unset, .unset, .unset] [])) ?_ (fun t k => castTop (own_ef_rm0 m q1 q2 q3 q4 p5 p6) k)
  refine own_up ?_ fun t k => XS.lconst X0.here hx rfl (hb hby at_0) k
  show own_G p.tables e below s _ _ _ (s₁.setTop (mkF m 1 #[.val (.long q1), .second, .val (.long q2), .second, .val (.long q3), .second, .val (.long q4), .second, .val (.int p5), .val (.int p6), .unset, .unset, .unset, .unset, .unset, .unset, .unset, .unset, .unset, .unset, .unset, .unset, .unset] [(.long (1 : Int64))]))
  refine own_up ?_ fun t k => XS.lloadN X0.here hx rfl (hb hby at_1) rfl k
  show own_G p.tables e below s _ _ _ (s₁.setTop (mkF m 2 #[.val (.long q1), .second, .val (.long q2), .second, .val (.long q3), .second, .val (.long q4), .second, .val (.int p5), .val (.int p6), .unset, .unset, .unset, .unset, .unset, .unset, .unset, .unset, .unset, .unset, .unset, .unset, .unset] [(.long q2), (.long (1 : Int64))]))
  refine own_up ?_ fun t k => X0.ldc2Long hx hown (mvT hZ (hw _ (List.mem_of_getElem? (i := 0) rfl))) (g := (mkF m 2 #[.val (.long q1), .second, .val (.long q2), .second, .val (.long q3), .second, .val (.long q4), .second, .val (.int p5), .val (.int p6), .unset, .unset, .unset, .unset, .unset, .unset, .unset, .unset, .unset, .unset, .unset, .unset, .unset] [(.long q2), (.long (1 : Int64))])) rfl (hb hby at_2) _ k
  show own_G p.tables e below s _ _ _ (s₁.setTop (mkF m 5 #[.val (.long q1), .second, .val (.long q2), .second, .val (.long q3), .second, .val (.long q4), .second, .val (.int p5), .val (.int p6), .unset, .unset, .unset, .unset, .unset, .unset, .unset, .unset, .unset, .unset, .unset, .unset, .unset] [(.long (9223372036854775807 : Int64)), (.long q2), (.long (1 : Int64))]))
  refine own_up ?_ fun t k => XS.land X0.here hx rfl (hb hby at_5) rfl k
  show own_G p.tables e below s _ _ _ (s₁.setTop (mkF m 6 #[.val (.long q1), .second, .val (.long q2), .second, .val (.long q3), .second, .val (.long q4), .second, .val (.int p5), .val (.int p6), .unset, .unset, .unset, .unset, .unset, .unset, .unset, .unset, .unset, .unset, .unset, .unset, .unset] [(.long (q2 &&& (9223372036854775807 : Int64))), (.long (1 : Int64))]))
  obtain ⟨_, _, ⟨T56, L56, k56, n56⟩, -, X56, ⟨Lc56, hQ56, l56, y56, z56⟩, st56⟩ := Jvm.LawKit.callS X0 hx (y := (⟨"java/lang/Math", "max", "(JJ)J"⟩ : MethodName)) hown (mvT hZ (hw _ (List.mem_of_getElem? (i := 1) rfl))) (mvT hZ (hw _ (List.mem_of_getElem? (i := 2) rfl))) (mvT hZ (hw _ (List.mem_of_getElem? (i := 3) rfl))) (mvT hZ (hw _ (List.mem_of_getElem? (i := 4) rfl))) (by decide) (backOf (W := 0) (rm1 l Z a0 hw [] (1 : Int64) (q2 &&& (9223372036854775807 : Int64))  h0 n0 Z0 ) hZ (hw _ (List.mem_of_getElem? (i := 4) rfl)) (hw _ (List.mem_of_getElem? (i := 3) rfl)) (by decide) (by decide)) (g := (mkF m 6 #[.val (.long q1), .second, .val (.long q2), .second, .val (.long q3), .second, .val (.long q4), .second, .val (.int p5), .val (.int p6), .unset, .unset, .unset, .unset, .unset, .unset, .unset, .unset, .unset, .unset, .unset, .unset, .unset] [(.long (q2 &&& (9223372036854775807 : Int64))), (.long (1 : Int64))])) rfl (by rw [hml]; rfl) (argsL := [(.long (1 : Int64)), (.long (q2 &&& (9223372036854775807 : Int64)))]) (rest := []) (lenOf own_pd3 rfl) rfl (by show 2 * 0 + _ ≤ _; exact Nat.le_of_eq rfl) (hb hby at_6) (fun _ _ => ⟨rfl, e0, (by decide : 0 + 0 ≤ _), (by decide : 0 + 0 ≤ _)⟩)
  dsimp only [Pt.U, Pt.locs, Pt.cells, Pt.slots] at X56 l56 y56 z56 st56 hQ56
  subst l56 y56 z56
  obtain ⟨rfl, Nq56, e56⟩ := hQ56
  have N56 := Fr.app N0 Nq56
  refine own_up ?_ (st56)
  show own_G p.tables e below s _ _ _ (T56.setTop (mkF m 9 #[.val (.long q1), .second, .val (.long q2), .second, .val (.long q3), .second, .val (.long q4), .second, .val (.int p5), .val (.int p6), .unset, .unset, .unset, .unset, .unset, .unset, .unset, .unset, .unset, .unset, .unset, .unset, .unset] [(.long (own_max (1 : Int64) (q2 &&& (9223372036854775807 : Int64))))]))
  refine own_up ?_ fun t k => XS.lstore X56.here hx rfl (hb hby at_9) rfl (l' := #[.val (.long q1), .second, .val (.long q2), .second, .val (.long q3), .second, .val (.long q4), .second, .val (.int p5), .val (.int p6), .val (.long (own_max (1 : Int64) (q2 &&& (9223372036854775807 : Int64)))), .second, .unset, .unset, .unset, .unset, .unset, .unset, .unset, .unset, .unset, .unset, .unset]) rfl k
  show own_G p.tables e below s _ _ _ (T56.setTop (mkF m 11 #[.val (.long q1), .second, .val (.long q2), .second, .val (.long q3), .second, .val (.long q4), .second, .val (.int p5), .val (.int p6), .val (.long (own_max (1 : Int64) (q2 &&& (9223372036854775807 : Int64)))), .second, .unset, .unset, .unset, .unset, .unset, .unset, .unset, .unset, .unset, .unset, .unset] []))
  obtain ⟨mo, h_mo⟩ : ∃ z, z = (own_max (1 : Int64) (q2 &&& (9223372036854775807 : Int64))) := ⟨_, rfl⟩
  rw [← h_mo]
  show own_G p.tables e below s _ _ _ (T56.setTop (mkF m 11 #[.val (.long q1), .second, .val (.long q2), .second, .val (.long q3), .second, .val (.long q4), .second, .val (.int p5), .val (.int p6), .val (.long mo), .second, .unset, .unset, .unset, .unset, .unset, .unset, .unset, .unset, .unset, .unset, .unset] []))
  refine own_up ?_ fun t k => XS.lload X56.here hx rfl (hb hby at_11) rfl k
  show own_G p.tables e below s _ _ _ (T56.setTop (mkF m 13 #[.val (.long q1), .second, .val (.long q2), .second, .val (.long q3), .second, .val (.long q4), .second, .val (.int p5), .val (.int p6), .val (.long mo), .second, .unset, .unset, .unset, .unset, .unset, .unset, .unset, .unset, .unset, .unset, .unset] [(.long q3)]))
  refine own_up ?_ fun t k => X56.ldc2Long hx hown (mvT hZ (hw _ (List.mem_of_getElem? (i := 0) rfl))) (g := (mkF m 13 #[.val (.long q1), .second, .val (.long q2), .second, .val (.long q3), .second, .val (.long q4), .second, .val (.int p5), .val (.int p6), .val (.long mo), .second, .unset, .unset, .unset, .unset, .unset, .unset, .unset, .unset, .unset, .unset, .unset] [(.long q3)])) rfl (hb hby at_13) _ k
  show own_G p.tables e below s _ _ _ (T56.setTop (mkF m 16 #[.val (.long q1), .second, .val (.long q2), .second, .val (.long q3), .second, .val (.long q4), .second, .val (.int p5), .val (.int p6), .val (.long mo), .second, .unset, .unset, .unset, .unset, .unset, .unset, .unset, .unset, .unset, .unset, .unset] [(.long (9223372036854775807 : Int64)), (.long q3)]))
  refine own_up ?_ fun t k => XS.land X56.here hx rfl (hb hby at_16) rfl k
  show own_G p.tables e below s _ _ _ (T56.setTop (mkF m 17 #[.val (.long q1), .second, .val (.long q2), .second, .val (.long q3), .second, .val (.long q4), .second, .val (.int p5), .val (.int p6), .val (.long mo), .second, .unset, .unset, .unset, .unset, .unset, .unset, .unset, .unset, .unset, .unset, .unset] [(.long (q3 &&& (9223372036854775807 : Int64)))]))
  refine own_up ?_ fun t k => XS.lload X56.here hx rfl (hb hby at_17) rfl k
  show own_G p.tables e below s _ _ _ (T56.setTop (mkF m 19 #[.val (.long q1), .second, .val (.long q2), .second, .val (.long q3), .second, .val (.long q4), .second, .val (.int p5), .val (.int p6), .val (.long mo), .second, .unset, .unset, .unset, .unset, .unset, .unset, .unset, .unset, .unset, .unset, .unset] [(.long mo), (.long (q3 &&& (9223372036854775807 : Int64)))]))
  refine own_up ?_ fun t k => XS.lrem X56.here hx rfl (hb hby at_19) rfl (own_nz h_mo) k
  show own_G p.tables e below s _ _ _ (T56.setTop (mkF m 20 #[.val (.long q1), .second, .val (.long q2), .second, .val (.long q3), .second, .val (.long q4), .second, .val (.int p5), .val (.int p6), .val (.long mo), .second, .unset, .unset, .unset, .unset, .unset, .unset, .unset, .unset, .unset, .unset, .unset] [(.long ((q3 &&& (9223372036854775807 : Int64)) - ((q3 &&& (9223372036854775807 : Int64)) / mo) * mo))]))
  refine own_up ?_ fun t k => XS.lstore X56.here hx rfl (hb hby at_20) rfl (l' := #[.val (.long q1), .second, .val (.long q2), .second, .val (.long q3), .second, .val (.long q4), .second, .val (.int p5), .val (.int p6), .val (.long mo), .second, .val (.long ((q3 &&& (9223372036854775807 : Int64)) - ((q3 &&& (9223372036854775807 : Int64)) / mo) * mo)), .second, .unset, .unset, .unset, .unset, .unset, .unset, .unset, .unset, .unset]) rfl k
  show own_G p.tables e below s _ _ _ (T56.setTop (mkF m 22 #[.val (.long q1), .second, .val (.long q2), .second, .val (.long q3), .second, .val (.long q4), .second, .val (.int p5), .val (.int p6), .val (.long mo), .second, .val (.long ((q3 &&& (9223372036854775807 : Int64)) - ((q3 &&& (9223372036854775807 : Int64)) / mo) * mo)), .second, .unset, .unset, .unset, .unset, .unset, .unset, .unset, .unset, .unset] []))
  obtain ⟨r0, h_r0⟩ : ∃ z, z = ((q3 &&& (9223372036854775807 : Int64)) - ((q3 &&& (9223372036854775807 : Int64)) / mo) * mo) := ⟨_, rfl⟩
  rw [← h_r0]
  show own_G p.tables e below s _ _ _ (T56.setTop (mkF m 22 #[.val (.long q1), .second, .val (.long q2), .second, .val (.long q3), .second, .val (.long q4), .second, .val (.int p5), .val (.int p6), .val (.long mo), .second, .val (.long r0), .second, .unset, .unset, .unset, .unset, .unset, .unset, .unset, .unset, .unset] []))
  refine own_up ?_ fun t k => XS.iload X56.here hx rfl (hb hby at_22) rfl k
  show own_G p.tables e below s _ _ _ (T56.setTop (mkF m 24 #[.val (.long q1), .second, .val (.long q2), .second, .val (.long q3), .second, .val (.long q4), .second, .val (.int p5), .val (.int p6), .val (.long mo), .second, .val (.long r0), .second, .unset, .unset, .unset, .unset, .unset, .unset, .unset, .unset, .unset] [(.int p6)]))
  refine own_up ?_ fun t k => XS.iconst X56.here hx rfl (hb hby at_24) k
  show own_G p.tables e below s _ _ _ (T56.setTop (mkF m 25 #[.val (.long q1), .second, .val (.long q2), .second, .val (.long q3), .second, .val (.long q4), .second, .val (.int p5), .val (.int p6), .val (.long mo), .second, .val (.long r0), .second, .unset, .unset, .unset, .unset, .unset, .unset, .unset, .unset, .unset] [(.int (1 : Int32)), (.int p6)]))
  refine own_up ?_ fun t k => XS.iand X56.here hx rfl (hb hby at_25) rfl k
  show own_G p.tables e below s _ _ _ (T56.setTop (mkF m 26 #[.val (.long q1), .second, .val (.long q2), .second, .val (.long q3), .second, .val (.long q4), .second, .val (.int p5), .val (.int p6), .val (.long mo), .second, .val (.long r0), .second, .unset, .unset, .unset, .unset, .unset, .unset, .unset, .unset, .unset] [(.int (p6 &&& (1 : Int32)))]))
  have dm58 : ∀ t, Steps p.tables e below (T56.setTop (mkF m 36 #[.val (.long q1), .second, .val (.long q2), .second, .val (.long q3), .second, .val (.long q4), .second, .val (.int p5), .val (.int p6), .val (.long mo), .second, .val (.long (if (p6 &&& (1 : Int32)) = (0 : Int32) then r0 else (mo - r0))), .second, .unset, .unset, .unset, .unset, .unset, .unset, .unset, .unset, .unset] [])) t → Steps p.tables e below (T56.setTop (mkF m 26 #[.val (.long q1), .second, .val (.long q2), .second, .val (.long q3), .second, .val (.long q4), .second, .val (.int p5), .val (.int p6), .val (.long mo), .second, .val (.long r0), .second, .unset, .unset, .unset, .unset, .unset, .unset, .unset, .unset, .unset] [(.int (p6 &&& (1 : Int32)))])) t := by
    intro t k
    by_cases hc26_57 : (p6 &&& (1 : Int32)) = (0 : Int32)
    · refine XS.ifYes X56.here hx rfl (pc0 := 26) (pc' := 36) rfl (hb hby at_26) rfl ((if0 _ _).trans (teq hc26_57).1) (by decide) (by decide) ?_
      show Steps p.tables e below (T56.setTop (mkF m 36 #[.val (.long q1), .second, .val (.long q2), .second, .val (.long q3), .second, .val (.long q4), .second, .val (.int p5), .val (.int p6), .val (.long mo), .second, .val (.long r0), .second, .unset, .unset, .unset, .unset, .unset, .unset, .unset, .unset, .unset] [])) t
      simp only [if_pos hc26_57] at k
      exact k
    · refine XS.ifNo X56.here hx rfl (hb hby at_26) rfl ((if0 _ _).trans (feq hc26_57).1) ?_
      show Steps p.tables e below (T56.setTop (mkF m 29 #[.val (.long q1), .second, .val (.long q2), .second, .val (.long q3), .second, .val (.long q4), .second, .val (.int p5), .val (.int p6), .val (.long mo), .second, .val (.long r0), .second, .unset, .unset, .unset, .unset, .unset, .unset, .unset, .unset, .unset] [])) t
      refine XS.lload X56.here hx rfl (hb hby at_29) rfl ?_
      show Steps p.tables e below (T56.setTop (mkF m 31 #[.val (.long q1), .second, .val (.long q2), .second, .val (.long q3), .second, .val (.long q4), .second, .val (.int p5), .val (.int p6), .val (.long mo), .second, .val (.long r0), .second, .unset, .unset, .unset, .unset, .unset, .unset, .unset, .unset, .unset] [(.long mo)])) t
      refine XS.lload X56.here hx rfl (hb hby at_31) rfl ?_
      show Steps p.tables e below (T56.setTop (mkF m 33 #[.val (.long q1), .second, .val (.long q2), .second, .val (.long q3), .second, .val (.long q4), .second, .val (.int p5), .val (.int p6), .val (.long mo), .second, .val (.long r0), .second, .unset, .unset, .unset, .unset, .unset, .unset, .unset, .unset, .unset] [(.long r0), (.long mo)])) t
      refine XS.lsub X56.here hx rfl (hb hby at_33) rfl ?_
      show Steps p.tables e below (T56.setTop (mkF m 34 #[.val (.long q1), .second, .val (.long q2), .second, .val (.long q3), .second, .val (.long q4), .second, .val (.int p5), .val (.int p6), .val (.long mo), .second, .val (.long r0), .second, .unset, .unset, .unset, .unset, .unset, .unset, .unset, .unset, .unset] [(.long (mo - r0))])) t
      refine XS.lstore X56.here hx rfl (hb hby at_34) rfl (l' := #[.val (.long q1), .second, .val (.long q2), .second, .val (.long q3), .second, .val (.long q4), .second, .val (.int p5), .val (.int p6), .val (.long mo), .second, .val (.long (mo - r0)), .second, .unset, .unset, .unset, .unset, .unset, .unset, .unset, .unset, .unset]) rfl ?_
      show Steps p.tables e below (T56.setTop (mkF m 36 #[.val (.long q1), .second, .val (.long q2), .second, .val (.long q3), .second, .val (.long q4), .second, .val (.int p5), .val (.int p6), .val (.long mo), .second, .val (.long (mo - r0)), .second, .unset, .unset, .unset, .unset, .unset, .unset, .unset, .unset, .unset] [])) t
      simp only [if_neg hc26_57] at k
      exact k
  refine own_up ?_ dm58
  show own_G p.tables e below s _ _ _ (T56.setTop (mkF m 36 #[.val (.long q1), .second, .val (.long q2), .second, .val (.long q3), .second, .val (.long q4), .second, .val (.int p5), .val (.int p6), .val (.long mo), .second, .val (.long (if (p6 &&& (1 : Int32)) = (0 : Int32) then r0 else (mo - r0))), .second, .unset, .unset, .unset, .unset, .unset, .unset, .unset, .unset, .unset] []))
  obtain ⟨m1, h_m1⟩ : ∃ z, z = (if (p6 &&& (1 : Int32)) = (0 : Int32) then r0 else (mo - r0)) := ⟨_, rfl⟩
  rw [← h_m1]
  show own_G p.tables e below s _ _ _ (T56.setTop (mkF m 36 #[.val (.long q1), .second, .val (.long q2), .second, .val (.long q3), .second, .val (.long q4), .second, .val (.int p5), .val (.int p6), .val (.long mo), .second, .val (.long m1), .second, .unset, .unset, .unset, .unset, .unset, .unset, .unset, .unset, .unset] []))
  refine own_up ?_ fun t k => XS.lload X56.here hx rfl (hb hby at_36) rfl k
  show own_G p.tables e below s _ _ _ (T56.setTop (mkF m 38 #[.val (.long q1), .second, .val (.long q2), .second, .val (.long q3), .second, .val (.long q4), .second, .val (.int p5), .val (.int p6), .val (.long mo), .second, .val (.long m1), .second, .unset, .unset, .unset, .unset, .unset, .unset, .unset, .unset, .unset] [(.long q4)]))
  refine own_up ?_ fun t k => XS.lstore X56.here hx rfl (hb hby at_38) rfl (l' := #[.val (.long q1), .second, .val (.long q2), .second, .val (.long q3), .second, .val (.long q4), .second, .val (.int p5), .val (.int p6), .val (.long mo), .second, .val (.long m1), .second, .val (.long q4), .second, .unset, .unset, .unset, .unset, .unset, .unset, .unset]) rfl k
  show own_G p.tables e below s _ _ _ (T56.setTop (mkF m 40 #[.val (.long q1), .second, .val (.long q2), .second, .val (.long q3), .second, .val (.long q4), .second, .val (.int p5), .val (.int p6), .val (.long mo), .second, .val (.long m1), .second, .val (.long q4), .second, .unset, .unset, .unset, .unset, .unset, .unset, .unset] []))
  refine own_up ?_ fun t k => XS.iconst X56.here hx rfl (hb hby at_40) k
  show own_G p.tables e below s _ _ _ (T56.setTop (mkF m 41 #[.val (.long q1), .second, .val (.long q2), .second, .val (.long q3), .second, .val (.long q4), .second, .val (.int p5), .val (.int p6), .val (.long mo), .second, .val (.long m1), .second, .val (.long q4), .second, .unset, .unset, .unset, .unset, .unset, .unset, .unset] [(.int (1 : Int32))]))
  refine own_up ?_ fun t k => XS.iload X56.here hx rfl (hb hby at_41) rfl k
  show own_G p.tables e below s _ _ _ (T56.setTop (mkF m 43 #[.val (.long q1), .second, .val (.long q2), .second, .val (.long q3), .second, .val (.long q4), .second, .val (.int p5), .val (.int p6), .val (.long mo), .second, .val (.long m1), .second, .val (.long q4), .second, .unset, .unset, .unset, .unset, .unset, .unset, .unset] [(.int p5), (.int (1 : Int32))]))
  refine own_up ?_ fun t k => X56.ldcInt hx hown (mvT hZ (hw _ (List.mem_of_getElem? (i := 5) rfl))) (g := (mkF m 43 #[.val (.long q1), .second, .val (.long q2), .second, .val (.long q3), .second, .val (.long q4), .second, .val (.int p5), .val (.int p6), .val (.long mo), .second, .val (.long m1), .second, .val (.long q4), .second, .unset, .unset, .unset, .unset, .unset, .unset, .unset] [(.int p5), (.int (1 : Int32))])) rfl (hb hby at_43) _ k
  show own_G p.tables e below s _ _ _ (T56.setTop (mkF m 45 #[.val (.long q1), .second, .val (.long q2), .second, .val (.long q3), .second, .val (.long q4), .second, .val (.int p5), .val (.int p6), .val (.long mo), .second, .val (.long m1), .second, .val (.long q4), .second, .unset, .unset, .unset, .unset, .unset, .unset, .unset] [(.int (2147483647 : Int32)), (.int p5), (.int (1 : Int32))]))
  refine own_up ?_ fun t k => XS.iand X56.here hx rfl (hb hby at_45) rfl k
  show own_G p.tables e below s _ _ _ (T56.setTop (mkF m 46 #[.val (.long q1), .second, .val (.long q2), .second, .val (.long q3), .second, .val (.long q4), .second, .val (.int p5), .val (.int p6), .val (.long mo), .second, .val (.long m1), .second, .val (.long q4), .second, .unset, .unset, .unset, .unset, .unset, .unset, .unset] [(.int (p5 &&& (2147483647 : Int32))), (.int (1 : Int32))]))
  obtain ⟨_, _, ⟨T59, L59, k59, n59⟩, -, X59, ⟨Lc59, hQ59, l59, y59, z59⟩, st59⟩ := Jvm.LawKit.callS X56 hx (y := (⟨"java/lang/Math", "max", "(II)I"⟩ : MethodName)) hown (mvT hZ (hw _ (List.mem_of_getElem? (i := 6) rfl))) (mvT hZ (hw _ (List.mem_of_getElem? (i := 7) rfl))) (mvT hZ (hw _ (List.mem_of_getElem? (i := 3) rfl))) (mvT hZ (hw _ (List.mem_of_getElem? (i := 8) rfl))) (by decide) (backOf (W := 0) (rm2 l Z a0 hw [] (1 : Int32) (p5 &&& (2147483647 : Int32))  h0 n0 Z0 ) hZ (hw _ (List.mem_of_getElem? (i := 8) rfl)) (hw _ (List.mem_of_getElem? (i := 3) rfl)) (by decide) (by decide)) (g := (mkF m 46 #[.val (.long q1), .second, .val (.long q2), .second, .val (.long q3), .second, .val (.long q4), .second, .val (.int p5), .val (.int p6), .val (.long mo), .second, .val (.long m1), .second, .val (.long q4), .second, .unset, .unset, .unset, .unset, .unset, .unset, .unset] [(.int (p5 &&& (2147483647 : Int32))), (.int (1 : Int32))])) rfl (by rw [hml]; rfl) (argsL := [(.int (1 : Int32)), (.int (p5 &&& (2147483647 : Int32)))]) (rest := []) (lenOf own_pd4 rfl) rfl (by show 2 * 0 + _ ≤ _; exact Nat.le_of_eq rfl) (hb hby at_46) (fun _ _ => ⟨rfl, e56, (by decide : 0 + 0 ≤ _), (by decide : 0 + 0 ≤ _)⟩)
  dsimp only [Pt.U, Pt.locs, Pt.cells, Pt.slots] at X59 l59 y59 z59 st59 hQ59
  subst l59 y59 z59
  obtain ⟨rfl, Nq59, e59⟩ := hQ59
  have N59 := Fr.app N56 Nq59
  refine own_up ?_ (st59)
  show own_G p.tables e below s _ _ _ (T59.setTop (mkF m 49 #[.val (.long q1), .second, .val (.long q2), .second, .val (.long q3), .second, .val (.long q4), .second, .val (.int p5), .val (.int p6), .val (.long mo), .second, .val (.long m1), .second, .val (.long q4), .second, .unset, .unset, .unset, .unset, .unset, .unset, .unset] [(.int (own_maxI (1 : Int32) (p5 &&& (2147483647 : Int32))))]))
  refine own_up ?_ fun t k => XS.istore X59.here hx rfl (hb hby at_49) rfl (l' := #[.val (.long q1), .second, .val (.long q2), .second, .val (.long q3), .second, .val (.long q4), .second, .val (.int p5), .val (.int p6), .val (.long mo), .second, .val (.long m1), .second, .val (.long q4), .second, .val (.int (own_maxI (1 : Int32) (p5 &&& (2147483647 : Int32)))), .unset, .unset, .unset, .unset, .unset, .unset]) rfl k
  show own_G p.tables e below s _ _ _ (T59.setTop (mkF m 51 #[.val (.long q1), .second, .val (.long q2), .second, .val (.long q3), .second, .val (.long q4), .second, .val (.int p5), .val (.int p6), .val (.long mo), .second, .val (.long m1), .second, .val (.long q4), .second, .val (.int (own_maxI (1 : Int32) (p5 &&& (2147483647 : Int32)))), .unset, .unset, .unset, .unset, .unset, .unset] []))
  obtain ⟨cn, h_cn⟩ : ∃ z, z = (own_maxI (1 : Int32) (p5 &&& (2147483647 : Int32))) := ⟨_, rfl⟩
  rw [← h_cn]
  show own_G p.tables e below s _ _ _ (T59.setTop (mkF m 51 #[.val (.long q1), .second, .val (.long q2), .second, .val (.long q3), .second, .val (.long q4), .second, .val (.int p5), .val (.int p6), .val (.long mo), .second, .val (.long m1), .second, .val (.long q4), .second, .val (.int cn), .unset, .unset, .unset, .unset, .unset, .unset] []))
  obtain ⟨T60, h60, X60, e60, E60, A60, D60, -, st60⟩ := newO X59 hx hZ hown (hw _ (List.mem_of_getElem? (i := 9) rfl)) (hw _ (List.mem_of_getElem? (i := 10) rfl)) (hw _ (List.mem_of_getElem? (i := 11) rfl)) e59 (g := (mkF m 51 #[.val (.long q1), .second, .val (.long q2), .second, .val (.long q3), .second, .val (.long q4), .second, .val (.int p5), .val (.int p6), .val (.long mo), .second, .val (.long m1), .second, .val (.long q4), .second, .val (.int cn), .unset, .unset, .unset, .unset, .unset, .unset] [])) rfl (hb hby at_51) (by decide) (by decide)
  obtain ⟨b60, g60⟩ : ∃ z, z = h0.size := ⟨_, rfl⟩
  rw [← g60] at A60 D60 st60
  refine own_up ?_ st60
  have ge61 : n0 ≤ b60 := Nat.le_trans Z0 (Nat.le_of_eq g60.symm)
  have Zs63 : n0 ≤ h60.size := Nat.le_trans Z0 E60.1
  have F_mostInserted_b60 : Fld Z h60 b60 "com/example/eventweir/eventweir/Cascade" "mostInserted" "J" (.long (0 : Int64)) := D60 (Or.inr (hw _ (List.mem_of_getElem? (i := 19) rfl))) (ty := .long) (by decide)
  have F_mostMatches_b60 : Fld Z h60 b60 "com/example/eventweir/eventweir/Cascade" "mostMatches" "J" (.long (0 : Int64)) := D60 (Or.inr (hw _ (List.mem_of_getElem? (i := 21) rfl))) (ty := .long) (by decide)
  have F_inserted_b60 : Fld Z h60 b60 "com/example/eventweir/eventweir/Cascade" "inserted" "J" (.long (0 : Int64)) := D60 (Or.inl (hw _ (List.mem_of_getElem? (i := 49) rfl))) (ty := .long) (by decide)
  have F_matches_b60 : Fld Z h60 b60 "com/example/eventweir/eventweir/Cascade" "matches" "J" (.long (0 : Int64)) := D60 (Or.inl (hw _ (List.mem_of_getElem? (i := 56) rfl))) (ty := .long) (by decide)
  show own_G p.tables e below s _ _ _ (T60.setTop (mkF m 54 #[.val (.long q1), .second, .val (.long q2), .second, .val (.long q3), .second, .val (.long q4), .second, .val (.int p5), .val (.int p6), .val (.long mo), .second, .val (.long m1), .second, .val (.long q4), .second, .val (.int cn), .unset, .unset, .unset, .unset, .unset, .unset] [(.ref b60)]))
  refine own_up ?_ fun t k => XS.dup X60.here hx rfl (hb hby at_54) rfl rfl k
  show own_G p.tables e below s _ _ _ (T60.setTop (mkF m 55 #[.val (.long q1), .second, .val (.long q2), .second, .val (.long q3), .second, .val (.long q4), .second, .val (.int p5), .val (.int p6), .val (.long mo), .second, .val (.long m1), .second, .val (.long q4), .second, .val (.int cn), .unset, .unset, .unset, .unset, .unset, .unset] [(.ref b60), (.ref b60)]))
  refine own_up ?_ fun t k => XS.lloadN X60.here hx rfl (hb hby at_55) rfl k
  show own_G p.tables e below s _ _ _ (T60.setTop (mkF m 56 #[.val (.long q1), .second, .val (.long q2), .second, .val (.long q3), .second, .val (.long q4), .second, .val (.int p5), .val (.int p6), .val (.long mo), .second, .val (.long m1), .second, .val (.long q4), .second, .val (.int cn), .unset, .unset, .unset, .unset, .unset, .unset] [(.long q1), (.ref b60), (.ref b60)]))
  refine own_up ?_ fun t k => XS.lload X60.here hx rfl (hb hby at_56) rfl k
  show own_G p.tables e below s _ _ _ (T60.setTop (mkF m 58 #[.val (.long q1), .second, .val (.long q2), .second, .val (.long q3), .second, .val (.long q4), .second, .val (.int p5), .val (.int p6), .val (.long mo), .second, .val (.long m1), .second, .val (.long q4), .second, .val (.int cn), .unset, .unset, .unset, .unset, .unset, .unset] [(.long mo), (.long q1), (.ref b60), (.ref b60)]))
  obtain ⟨_, _, ⟨T64, L64, k64, n64⟩, -, X64, ⟨Lc64, hQ64, l64, y64, z64⟩, st64⟩ := X60.specialBack hx (y := (⟨"com/example/eventweir/eventweir/Cascade", "<init>", "(JJ)V"⟩ : MethodName)) rfl hown (mvT hZ (hw _ (List.mem_of_getElem? (i := 12) rfl))) (mvT hZ (hw _ (List.mem_of_getElem? (i := 13) rfl))) (mvT hZ (hw _ (List.mem_of_getElem? (i := 14) rfl))) (by decide) (backOf (W := 1) (rm3 l Z a0 hw [] b60 q1 mo (.long (0 : Int64)) (.long (0 : Int64)) (0 : Int64) (0 : Int64) h60 n0 Zs63 A60 F_mostInserted_b60 F_mostMatches_b60 F_inserted_b60 F_matches_b60 ge61) hZ (hw _ (List.mem_of_getElem? (i := 14) rfl)) (hw _ (List.mem_of_getElem? (i := 11) rfl)) (by decide) (by decide)) (g := (mkF m 58 #[.val (.long q1), .second, .val (.long q2), .second, .val (.long q3), .second, .val (.long q4), .second, .val (.int p5), .val (.int p6), .val (.long mo), .second, .val (.long m1), .second, .val (.long q4), .second, .val (.int cn), .unset, .unset, .unset, .unset, .unset, .unset] [(.long mo), (.long q1), (.ref b60), (.ref b60)])) rfl (by rw [hml]; rfl) (Steps.refl _) (a := b60) (argsL := [(.long q1), (.long mo)]) (rest := [(.ref b60)]) (lenOf own_pd2 rfl) rfl (by show 2 * 0 + _ ≤ _; exact Nat.le_of_eq rfl) (hb hby at_58) (fun _ _ => ⟨rfl, e60, (by decide : 1 + 0 ≤ _), (by decide : 4 + 0 ≤ _)⟩)
  dsimp only [Pt.U, Pt.locs, Pt.cells, Pt.slots] at X64 l64 y64 z64 st64 hQ64
  subst l64 y64 z64
  obtain ⟨rfl, Nq64, Kq64, Fq64_0, Fq64_1, Fq64_2⟩ := hQ64
  have N64 := Fr.app N59 Nq64
  have A60_c65 := A60.keep Kq64
  have Zs66 : n0 ≤ T64.heap.size := Nat.le_trans Zs63 Kq64.1
  refine own_up ?_ (fun t k => st64.trans k)
  show own_G p.tables e below s _ _ _ (T64.setTop (mkF m 61 #[.val (.long q1), .second, .val (.long q2), .second, .val (.long q3), .second, .val (.long q4), .second, .val (.int p5), .val (.int p6), .val (.long mo), .second, .val (.long m1), .second, .val (.long q4), .second, .val (.int cn), .unset, .unset, .unset, .unset, .unset, .unset] [(.ref b60)]))
  refine own_up ?_ fun t k => XS.astore X64.here hx rfl (hb hby at_61) rfl rfl (l' := #[.val (.long q1), .second, .val (.long q2), .second, .val (.long q3), .second, .val (.long q4), .second, .val (.int p5), .val (.int p6), .val (.long mo), .second, .val (.long m1), .second, .val (.long q4), .second, .val (.int cn), .val (.ref b60), .unset, .unset, .unset, .unset, .unset]) rfl k
  show own_G p.tables e below s _ _ _ (T64.setTop (mkF m 63 #[.val (.long q1), .second, .val (.long q2), .second, .val (.long q3), .second, .val (.long q4), .second, .val (.int p5), .val (.int p6), .val (.long mo), .second, .val (.long m1), .second, .val (.long q4), .second, .val (.int cn), .val (.ref b60), .unset, .unset, .unset, .unset, .unset] []))
  refine own_up ?_ fun t k => XS.aload X64.here hx rfl (hb hby at_63) rfl rfl k
  show own_G p.tables e below s _ _ _ (T64.setTop (mkF m 65 #[.val (.long q1), .second, .val (.long q2), .second, .val (.long q3), .second, .val (.long q4), .second, .val (.int p5), .val (.int p6), .val (.long mo), .second, .val (.long m1), .second, .val (.long q4), .second, .val (.int cn), .val (.ref b60), .unset, .unset, .unset, .unset, .unset] [(.ref b60)]))
  obtain ⟨T67, h67, X67, e67, E67, A67, D67, -, st67⟩ := newO X64 hx hZ hown (hw _ (List.mem_of_getElem? (i := 22) rfl)) (hw _ (List.mem_of_getElem? (i := 23) rfl)) (hw _ (List.mem_of_getElem? (i := 24) rfl)) rfl (g := (mkF m 65 #[.val (.long q1), .second, .val (.long q2), .second, .val (.long q3), .second, .val (.long q4), .second, .val (.int p5), .val (.int p6), .val (.long mo), .second, .val (.long m1), .second, .val (.long q4), .second, .val (.int cn), .val (.ref b60), .unset, .unset, .unset, .unset, .unset] [(.ref b60)])) rfl (hb hby at_65) (by decide) (by decide)
  obtain ⟨b67, g67⟩ : ∃ z, z = T64.heap.size := ⟨_, rfl⟩
  rw [← g67] at A67 D67 st67
  refine own_up ?_ st67
  have ne68 : b60 ≠ b67 := Nat.ne_of_lt (Nat.lt_of_lt_of_le A60_c65.lt (Nat.le_of_eq g67.symm))
  have ge69 : n0 ≤ b67 := Nat.le_trans Zs66 (Nat.le_of_eq g67.symm)
  have A60_c70 := A60_c65.ext E67
  have Fq64_0_c70 := Fq64_0.ext E67
  have Fq64_1_c70 := Fq64_1.ext E67
  have Fq64_2_c70 := Fq64_2.ext E67
  have Zs71 : n0 ≤ h67.size := Nat.le_trans Zs66 E67.1
  have F_inserted_b67 : Fld Z h67 b67 "com/example/eventweir/eventweir/Cascade$Done" "inserted" "J" (.long (0 : Int64)) := D67 (Or.inr (hw _ (List.mem_of_getElem? (i := 35) rfl))) (ty := .long) (by decide)
  have F_matches_b67 : Fld Z h67 b67 "com/example/eventweir/eventweir/Cascade$Done" "matches" "J" (.long (0 : Int64)) := D67 (Or.inr (hw _ (List.mem_of_getElem? (i := 37) rfl))) (ty := .long) (by decide)
  show own_G p.tables e below s _ _ _ (T67.setTop (mkF m 68 #[.val (.long q1), .second, .val (.long q2), .second, .val (.long q3), .second, .val (.long q4), .second, .val (.int p5), .val (.int p6), .val (.long mo), .second, .val (.long m1), .second, .val (.long q4), .second, .val (.int cn), .val (.ref b60), .unset, .unset, .unset, .unset, .unset] [(.ref b67), (.ref b60)]))
  refine own_up ?_ fun t k => XS.dup X67.here hx rfl (hb hby at_68) rfl rfl k
  show own_G p.tables e below s _ _ _ (T67.setTop (mkF m 69 #[.val (.long q1), .second, .val (.long q2), .second, .val (.long q3), .second, .val (.long q4), .second, .val (.int p5), .val (.int p6), .val (.long mo), .second, .val (.long m1), .second, .val (.long q4), .second, .val (.int cn), .val (.ref b60), .unset, .unset, .unset, .unset, .unset] [(.ref b67), (.ref b67), (.ref b60)]))
  refine own_up ?_ fun t k => XS.lload X67.here hx rfl (hb hby at_69) rfl k
  show own_G p.tables e below s _ _ _ (T67.setTop (mkF m 71 #[.val (.long q1), .second, .val (.long q2), .second, .val (.long q3), .second, .val (.long q4), .second, .val (.int p5), .val (.int p6), .val (.long mo), .second, .val (.long m1), .second, .val (.long q4), .second, .val (.int cn), .val (.ref b60), .unset, .unset, .unset, .unset, .unset] [(.long q4), (.ref b67), (.ref b67), (.ref b60)]))
  refine own_up ?_ fun t k => XS.lload X67.here hx rfl (hb hby at_71) rfl k
  show own_G p.tables e below s _ _ _ (T67.setTop (mkF m 73 #[.val (.long q1), .second, .val (.long q2), .second, .val (.long q3), .second, .val (.long q4), .second, .val (.int p5), .val (.int p6), .val (.long mo), .second, .val (.long m1), .second, .val (.long q4), .second, .val (.int cn), .val (.ref b60), .unset, .unset, .unset, .unset, .unset] [(.long m1), (.long q4), (.ref b67), (.ref b67), (.ref b60)]))
  obtain ⟨_, _, ⟨T72, L72, k72, n72⟩, -, X72, ⟨Lc72, hQ72, l72, y72, z72⟩, st72⟩ := X67.specialBack hx (y := (⟨"com/example/eventweir/eventweir/Cascade$Done", "<init>", "(JJ)V"⟩ : MethodName)) rfl hown (mvT hZ (hw _ (List.mem_of_getElem? (i := 25) rfl))) (mvT hZ (hw _ (List.mem_of_getElem? (i := 26) rfl))) (mvT hZ (hw _ (List.mem_of_getElem? (i := 27) rfl))) (by decide) (backOf (W := 2) (rm5 l Z a0 hw [] b67 q4 m1 (.long (0 : Int64)) (.long (0 : Int64)) h67 n0 Zs71 A67 F_inserted_b67 F_matches_b67 ge69) hZ (hw _ (List.mem_of_getElem? (i := 27) rfl)) (hw _ (List.mem_of_getElem? (i := 24) rfl)) (by decide) (by decide)) (g := (mkF m 73 #[.val (.long q1), .second, .val (.long q2), .second, .val (.long q3), .second, .val (.long q4), .second, .val (.int p5), .val (.int p6), .val (.long mo), .second, .val (.long m1), .second, .val (.long q4), .second, .val (.int cn), .val (.ref b60), .unset, .unset, .unset, .unset, .unset] [(.long m1), (.long q4), (.ref b67), (.ref b67), (.ref b60)])) rfl (by rw [hml]; rfl) (Steps.refl _) (a := b67) (argsL := [(.long q4), (.long m1)]) (rest := [(.ref b67), (.ref b60)]) (lenOf own_pd2 rfl) rfl (by show 2 * 0 + _ ≤ _; exact Nat.le_of_eq rfl) (hb hby at_73) (fun _ _ => ⟨rfl, e67, (by decide : 2 + 0 ≤ _), (by decide : 6 + 0 ≤ _)⟩)
  dsimp only [Pt.U, Pt.locs, Pt.cells, Pt.slots] at X72 l72 y72 z72 st72 hQ72
  subst l72 y72 z72
  obtain ⟨rfl, Nq72, Kq72, Fq72_0, Fq72_1⟩ := hQ72
  have N72 := Fr.app N64 Nq72
  have A60_c73 := A60_c70.keep Kq72
  have Fq64_0_c73 := Fq64_0_c70.keep Kq72 (ninS ne68 nin0)
  have Fq64_1_c73 := Fq64_1_c70.keep Kq72 (ninS ne68 nin0)
  have Fq64_2_c73 := Fq64_2_c70.keep Kq72 (ninS ne68 nin0)
  have A67_c73 := A67.keep Kq72
  have Zs74 : n0 ≤ T72.heap.size := Nat.le_trans Zs71 Kq72.1
  refine own_up ?_ (fun t k => st72.trans k)
  show own_G p.tables e below s _ _ _ (T72.setTop (mkF m 76 #[.val (.long q1), .second, .val (.long q2), .second, .val (.long q3), .second, .val (.long q4), .second, .val (.int p5), .val (.int p6), .val (.long mo), .second, .val (.long m1), .second, .val (.long q4), .second, .val (.int cn), .val (.ref b60), .unset, .unset, .unset, .unset, .unset] [(.ref b67), (.ref b60)]))
  obtain ⟨cq75, kq75, q75a, q75b, q75c⟩ := isOf hZ rfl A60_c73
  obtain ⟨_, _, ⟨T75, L75, k75, n75⟩, -, X75, ⟨Lc75, hQ75, l75, y75, z75⟩, st75⟩ := X72.virtualBack hx (y := (⟨"com/example/eventweir/eventweir/Cascade", "reset", "(Lcom/example/eventweir/eventweir/Cascade$Done;)V"⟩ : MethodName)) (z := (⟨"com/example/eventweir/eventweir/Cascade", "reset", "(Lcom/example/eventweir/eventweir/Cascade$Done;)V"⟩ : MethodName)) hown (mvT hZ (hw _ (List.mem_of_getElem? (i := 38) rfl))) (mvT hZ (hw _ (List.mem_of_getElem? (i := 39) rfl))) (notFace_of_selects (args := #[]) (mvT hZ (hw _ (List.mem_of_getElem? (i := 41) rfl)))) (mvT hZ (hw _ (List.mem_of_getElem? (i := 41) rfl))) (mvT hZ (hw _ (List.mem_of_getElem? (i := 40) rfl))) (by decide) (backOf (W := 0) (rm7 l Z a0 hw [] b60 b67 mo (0 : Int64) (0 : Int64) q4 m1 T72.heap n0 Zs74 A60_c73 Fq64_0_c73 Fq64_1_c73 Fq64_2_c73 A67_c73 Fq72_0 Fq72_1 ge61 ne68) hZ (hw _ (List.mem_of_getElem? (i := 42) rfl)) (hw _ (List.mem_of_getElem? (i := 11) rfl)) (by decide) (by decide)) q75a q75c (g := (mkF m 76 #[.val (.long q1), .second, .val (.long q2), .second, .val (.long q3), .second, .val (.long q4), .second, .val (.int p5), .val (.int p6), .val (.long mo), .second, .val (.long m1), .second, .val (.long q4), .second, .val (.int cn), .val (.ref b60), .unset, .unset, .unset, .unset, .unset] [(.ref b67), (.ref b60)])) rfl (by rw [hml]; rfl) (Steps.refl _) (argsL := [(.ref b67)]) (rest := []) (lenOf own_pd5 rfl) rfl (by show 2 * 0 + _ ≤ _; exact Nat.le_of_eq rfl) (hb hby at_76) (fun _ _ => ⟨rfl, rfl, (by decide : 2 + 0 ≤ _), (by decide : 6 + 0 ≤ _)⟩)
  dsimp only [Pt.U, Pt.locs, Pt.cells, Pt.slots] at X75 l75 y75 z75 st75 hQ75
  subst l75 y75 z75
  obtain ⟨rfl, Nq75, Kq75, Fq75_0, Fq75_1, Fq75_2⟩ := hQ75
  have N75 := Fr.app N72 Nq75
  have A60_c76 := A60_c73.keep Kq75
  have A67_c76 := A67_c73.keep Kq75
  have Fq72_0_c76 := Fq72_0.keep Kq75 (ninS (Ne.symm ne68) nin0)
  have Fq72_1_c76 := Fq72_1.keep Kq75 (ninS (Ne.symm ne68) nin0)
  have Zs77 : n0 ≤ T75.heap.size := Nat.le_trans Zs74 Kq75.1
  refine own_up ?_ (fun t k => st75.trans k)
  show own_G p.tables e below s _ _ _ (T75.setTop (mkF m 79 #[.val (.long q1), .second, .val (.long q2), .second, .val (.long q3), .second, .val (.long q4), .second, .val (.int p5), .val (.int p6), .val (.long mo), .second, .val (.long m1), .second, .val (.long q4), .second, .val (.int cn), .val (.ref b60), .unset, .unset, .unset, .unset, .unset] []))
  refine own_up ?_ fun t k => XS.aload X75.here hx rfl (hb hby at_79) rfl rfl k
  show own_G p.tables e below s _ _ _ (T75.setTop (mkF m 81 #[.val (.long q1), .second, .val (.long q2), .second, .val (.long q3), .second, .val (.long q4), .second, .val (.int p5), .val (.int p6), .val (.long mo), .second, .val (.long m1), .second, .val (.long q4), .second, .val (.int cn), .val (.ref b60), .unset, .unset, .unset, .unset, .unset] [(.ref b60)]))
  refine own_up ?_ fun t k => XS.iload X75.here hx rfl (hb hby at_81) rfl k
  show own_G p.tables e below s _ _ _ (T75.setTop (mkF m 83 #[.val (.long q1), .second, .val (.long q2), .second, .val (.long q3), .second, .val (.long q4), .second, .val (.int p5), .val (.int p6), .val (.long mo), .second, .val (.long m1), .second, .val (.long q4), .second, .val (.int cn), .val (.ref b60), .unset, .unset, .unset, .unset, .unset] [(.int cn), (.ref b60)]))
  obtain ⟨cq78, kq78, q78a, q78b, q78c⟩ := isOf hZ rfl A60_c76
  obtain ⟨_, _, ⟨T78, L78, k78, n78⟩, -, X78, ⟨Lc78, hQ78, l78, y78, z78⟩, st78⟩ := X75.virtualBack hx (y := (⟨"com/example/eventweir/eventweir/Cascade", "handOn", "(I)Z"⟩ : MethodName)) (z := (⟨"com/example/eventweir/eventweir/Cascade", "handOn", "(I)Z"⟩ : MethodName)) hown (mvT hZ (hw _ (List.mem_of_getElem? (i := 57) rfl))) (mvT hZ (hw _ (List.mem_of_getElem? (i := 58) rfl))) (notFace_of_selects (args := #[]) (mvT hZ (hw _ (List.mem_of_getElem? (i := 60) rfl)))) (mvT hZ (hw _ (List.mem_of_getElem? (i := 60) rfl))) (mvT hZ (hw _ (List.mem_of_getElem? (i := 59) rfl))) (by decide) (backOf (W := 0) (rm10 l Z a0 hw [] b60 cn mo q4 m1 T75.heap n0 Zs77 A60_c76 Fq75_0 Fq75_1 Fq75_2 ge61) hZ (hw _ (List.mem_of_getElem? (i := 61) rfl)) (hw _ (List.mem_of_getElem? (i := 11) rfl)) (by decide) (by decide)) q78a q78c (g := (mkF m 83 #[.val (.long q1), .second, .val (.long q2), .second, .val (.long q3), .second, .val (.long q4), .second, .val (.int p5), .val (.int p6), .val (.long mo), .second, .val (.long m1), .second, .val (.long q4), .second, .val (.int cn), .val (.ref b60), .unset, .unset, .unset, .unset, .unset] [(.int cn), (.ref b60)])) rfl (by rw [hml]; rfl) (Steps.refl _) (argsL := [(.int cn)]) (rest := []) (lenOf own_pd6 rfl) rfl (by show 2 * 0 + _ ≤ _; exact Nat.le_of_eq rfl) (hb hby at_83) (fun _ _ => ⟨rfl, rfl, (by decide : 2 + 0 ≤ _), (by decide : 6 + 0 ≤ _)⟩)
  dsimp only [Pt.U, Pt.locs, Pt.cells, Pt.slots] at X78 l78 y78 z78 st78 hQ78
  subst l78 y78 z78
  obtain ⟨rfl, Nq78, Kq78, Fq78_0, Fq78_1, Fq78_2⟩ := hQ78
  have N78 := Fr.app N75 Nq78
  have A60_c79 := A60_c76.keep Kq78
  have A67_c79 := A67_c76.keep Kq78
  have Fq72_0_c79 := Fq72_0_c76.keep Kq78 (ninS (Ne.symm ne68) nin0)
  have Fq72_1_c79 := Fq72_1_c76.keep Kq78 (ninS (Ne.symm ne68) nin0)
  have Zs80 : n0 ≤ T78.heap.size := Nat.le_trans Zs77 Kq78.1
  refine own_up ?_ (fun t k => st78.trans k)
  show own_G p.tables e below s _ _ _ (T78.setTop (mkF m 86 #[.val (.long q1), .second, .val (.long q2), .second, .val (.long q3), .second, .val (.long q4), .second, .val (.int p5), .val (.int p6), .val (.long mo), .second, .val (.long m1), .second, .val (.long q4), .second, .val (.int cn), .val (.ref b60), .unset, .unset, .unset, .unset, .unset] [(.int (if (mo - (cn.toInt64)) < m1 then (0 : Int32) else (1 : Int32)))]))
  refine own_up ?_ fun t k => XS.istore X78.here hx rfl (hb hby at_86) rfl (l' := #[.val (.long q1), .second, .val (.long q2), .second, .val (.long q3), .second, .val (.long q4), .second, .val (.int p5), .val (.int p6), .val (.long mo), .second, .val (.long m1), .second, .val (.long q4), .second, .val (.int cn), .val (.ref b60), .val (.int (if (mo - (cn.toInt64)) < m1 then (0 : Int32) else (1 : Int32))), .unset, .unset, .unset, .unset]) rfl k
  show own_G p.tables e below s _ _ _ (T78.setTop (mkF m 88 #[.val (.long q1), .second, .val (.long q2), .second, .val (.long q3), .second, .val (.long q4), .second, .val (.int p5), .val (.int p6), .val (.long mo), .second, .val (.long m1), .second, .val (.long q4), .second, .val (.int cn), .val (.ref b60), .val (.int (if (mo - (cn.toInt64)) < m1 then (0 : Int32) else (1 : Int32))), .unset, .unset, .unset, .unset] []))
  refine own_up ?_ fun t k => XS.aload X78.here hx rfl (hb hby at_88) rfl rfl k
  show own_G p.tables e below s _ _ _ (T78.setTop (mkF m 90 #[.val (.long q1), .second, .val (.long q2), .second, .val (.long q3), .second, .val (.long q4), .second, .val (.int p5), .val (.int p6), .val (.long mo), .second, .val (.long m1), .second, .val (.long q4), .second, .val (.int cn), .val (.ref b60), .val (.int (if (mo - (cn.toInt64)) < m1 then (0 : Int32) else (1 : Int32))), .unset, .unset, .unset, .unset] [(.ref b60)]))
  obtain ⟨cq81, kq81, q81a, q81b, q81c⟩ := isOf hZ rfl A60_c79
  obtain ⟨_, _, ⟨T81, L81, k81, n81⟩, -, X81, ⟨Lc81, hQ81, l81, y81, z81⟩, st81⟩ := X78.virtualBack hx (y := (⟨"com/example/eventweir/eventweir/Cascade", "done", "()Lcom/example/eventweir/eventweir/Cascade$Done;"⟩ : MethodName)) (z := (⟨"com/example/eventweir/eventweir/Cascade", "done", "()Lcom/example/eventweir/eventweir/Cascade$Done;"⟩ : MethodName)) hown (mvT hZ (hw _ (List.mem_of_getElem? (i := 62) rfl))) (mvT hZ (hw _ (List.mem_of_getElem? (i := 63) rfl))) (notFace_of_selects (args := #[]) (mvT hZ (hw _ (List.mem_of_getElem? (i := 65) rfl)))) (mvT hZ (hw _ (List.mem_of_getElem? (i := 65) rfl))) (mvT hZ (hw _ (List.mem_of_getElem? (i := 64) rfl))) (by decide) (backOf (W := 0) (rm11 l Z a0 hw [] b60 q4 (if (mo - (cn.toInt64)) < m1 then m1 else (m1 + (cn.toInt64))) T78.heap n0 Zs80 Fq78_1 Fq78_2) hZ (hw _ (List.mem_of_getElem? (i := 66) rfl)) (hw _ (List.mem_of_getElem? (i := 11) rfl)) (by decide) (by decide)) q81a q81c (g := (mkF m 90 #[.val (.long q1), .second, .val (.long q2), .second, .val (.long q3), .second, .val (.long q4), .second, .val (.int p5), .val (.int p6), .val (.long mo), .second, .val (.long m1), .second, .val (.long q4), .second, .val (.int cn), .val (.ref b60), .val (.int (if (mo - (cn.toInt64)) < m1 then (0 : Int32) else (1 : Int32))), .unset, .unset, .unset, .unset] [(.ref b60)])) rfl (by rw [hml]; rfl) (Steps.refl _) (argsL := []) (rest := []) (lenOf own_pd7 rfl) rfl (by show 2 * 0 + _ ≤ _; exact Nat.le_of_eq rfl) (hb hby at_90) (fun _ _ => ⟨rfl, rfl, (by decide : 2 + 1 ≤ _), (by decide : 6 + 2 ≤ _)⟩)
  dsimp only [Pt.U, Pt.locs, Pt.cells, Pt.slots] at X81 l81 y81 z81 st81 hQ81
  subst l81 y81 z81
  obtain ⟨bd81, rfl, Nq81, Kq81, gb81, Eb81, Fi81, Fm81⟩ := hQ81
  have N81 := Fr.app N78 Nq81
  have A60_c82 := A60_c79.keep Kq81
  have A67_c82 := A67_c79.keep Kq81
  have Fq72_0_c82 := Fq72_0_c79.keep Kq81 nin0
  have Fq72_1_c82 := Fq72_1_c79.keep Kq81 nin0
  have Fq78_0_c82 := Fq78_0.keep Kq81 nin0
  have Fq78_1_c82 := Fq78_1.keep Kq81 nin0
  have Fq78_2_c82 := Fq78_2.keep Kq81 nin0
  have Zs83 : n0 ≤ T81.heap.size := Nat.le_trans Zs80 Kq81.1
  refine own_up ?_ (fun t k => st81.trans k)
  show own_G p.tables e below s _ _ _ (T81.setTop (mkF m 93 #[.val (.long q1), .second, .val (.long q2), .second, .val (.long q3), .second, .val (.long q4), .second, .val (.int p5), .val (.int p6), .val (.long mo), .second, .val (.long m1), .second, .val (.long q4), .second, .val (.int cn), .val (.ref b60), .val (.int (if (mo - (cn.toInt64)) < m1 then (0 : Int32) else (1 : Int32))), .unset, .unset, .unset, .unset] [(.ref bd81)]))
  refine own_up ?_ fun t k => XS.astore X81.here hx rfl (hb hby at_93) rfl rfl (l' := #[.val (.long q1), .second, .val (.long q2), .second, .val (.long q3), .second, .val (.long q4), .second, .val (.int p5), .val (.int p6), .val (.long mo), .second, .val (.long m1), .second, .val (.long q4), .second, .val (.int cn), .val (.ref b60), .val (.int (if (mo - (cn.toInt64)) < m1 then (0 : Int32) else (1 : Int32))), .val (.ref bd81), .unset, .unset, .unset]) rfl k
  show own_G p.tables e below s _ _ _ (T81.setTop (mkF m 95 #[.val (.long q1), .second, .val (.long q2), .second, .val (.long q3), .second, .val (.long q4), .second, .val (.int p5), .val (.int p6), .val (.long mo), .second, .val (.long m1), .second, .val (.long q4), .second, .val (.int cn), .val (.ref b60), .val (.int (if (mo - (cn.toInt64)) < m1 then (0 : Int32) else (1 : Int32))), .val (.ref bd81), .unset, .unset, .unset] []))
  refine own_up ?_ fun t k => XS.lload X81.here hx rfl (hb hby at_95) rfl k
  show own_G p.tables e below s _ _ _ (T81.setTop (mkF m 97 #[.val (.long q1), .second, .val (.long q2), .second, .val (.long q3), .second, .val (.long q4), .second, .val (.int p5), .val (.int p6), .val (.long mo), .second, .val (.long m1), .second, .val (.long q4), .second, .val (.int cn), .val (.ref b60), .val (.int (if (mo - (cn.toInt64)) < m1 then (0 : Int32) else (1 : Int32))), .val (.ref bd81), .unset, .unset, .unset] [(.long mo)]))
  refine own_up ?_ fun t k => XS.lload X81.here hx rfl (hb hby at_97) rfl k
  show own_G p.tables e below s _ _ _ (T81.setTop (mkF m 99 #[.val (.long q1), .second, .val (.long q2), .second, .val (.long q3), .second, .val (.long q4), .second, .val (.int p5), .val (.int p6), .val (.long mo), .second, .val (.long m1), .second, .val (.long q4), .second, .val (.int cn), .val (.ref b60), .val (.int (if (mo - (cn.toInt64)) < m1 then (0 : Int32) else (1 : Int32))), .val (.ref bd81), .unset, .unset, .unset] [(.long m1), (.long mo)]))
  refine own_up ?_ fun t k => XS.lsub X81.here hx rfl (hb hby at_99) rfl k
  show own_G p.tables e below s _ _ _ (T81.setTop (mkF m 100 #[.val (.long q1), .second, .val (.long q2), .second, .val (.long q3), .second, .val (.long q4), .second, .val (.int p5), .val (.int p6), .val (.long mo), .second, .val (.long m1), .second, .val (.long q4), .second, .val (.int cn), .val (.ref b60), .val (.int (if (mo - (cn.toInt64)) < m1 then (0 : Int32) else (1 : Int32))), .val (.ref bd81), .unset, .unset, .unset] [(.long (mo - m1))]))
  refine own_up ?_ fun t k => XS.iload X81.here hx rfl (hb hby at_100) rfl k
  show own_G p.tables e below s _ _ _ (T81.setTop (mkF m 102 #[.val (.long q1), .second, .val (.long q2), .second, .val (.long q3), .second, .val (.long q4), .second, .val (.int p5), .val (.int p6), .val (.long mo), .second, .val (.long m1), .second, .val (.long q4), .second, .val (.int cn), .val (.ref b60), .val (.int (if (mo - (cn.toInt64)) < m1 then (0 : Int32) else (1 : Int32))), .val (.ref bd81), .unset, .unset, .unset] [(.int cn), (.long (mo - m1))]))
  refine own_up ?_ fun t k => XS.i2l X81.here hx rfl (hb hby at_102) rfl k
  show own_G p.tables e below s _ _ _ (T81.setTop (mkF m 103 #[.val (.long q1), .second, .val (.long q2), .second, .val (.long q3), .second, .val (.long q4), .second, .val (.int p5), .val (.int p6), .val (.long mo), .second, .val (.long m1), .second, .val (.long q4), .second, .val (.int cn), .val (.ref b60), .val (.int (if (mo - (cn.toInt64)) < m1 then (0 : Int32) else (1 : Int32))), .val (.ref bd81), .unset, .unset, .unset] [(.long (cn.toInt64)), (.long (mo - m1))]))
  refine own_up ?_ fun t k => XS.lcmp X81.here hx rfl (hb hby at_103) rfl k
  show own_G p.tables e below s _ _ _ (T81.setTop (mkF m 104 #[.val (.long q1), .second, .val (.long q2), .second, .val (.long q3), .second, .val (.long q4), .second, .val (.int p5), .val (.int p6), .val (.long mo), .second, .val (.long m1), .second, .val (.long q4), .second, .val (.int cn), .val (.ref b60), .val (.int (if (mo - (cn.toInt64)) < m1 then (0 : Int32) else (1 : Int32))), .val (.ref bd81), .unset, .unset, .unset] [(.int (lcmpW (mo - m1) (cn.toInt64)))]))
  by_cases hc104_84 : (mo - m1) < (cn.toInt64)
  · refine own_up ?_ fun t k => XS.ifYes X81.here hx rfl (pc0 := 104) (pc' := 111) rfl (hb hby at_104) rfl ((if0 _ _).trans (tlt ((lw_lt _ _).mpr hc104_84)).1) (by decide) (by decide) k
    show own_G p.tables e below s _ _ _ (T81.setTop (mkF m 111 #[.val (.long q1), .second, .val (.long q2), .second, .val (.long q3), .second, .val (.long q4), .second, .val (.int p5), .val (.int p6), .val (.long mo), .second, .val (.long m1), .second, .val (.long q4), .second, .val (.int cn), .val (.ref b60), .val (.int (if (mo - (cn.toInt64)) < m1 then (0 : Int32) else (1 : Int32))), .val (.ref bd81), .unset, .unset, .unset] []))
    refine own_up ?_ fun t k => XS.iconst X81.here hx rfl (hb hby at_111) k
    show own_G p.tables e below s _ _ _ (T81.setTop (mkF m 112 #[.val (.long q1), .second, .val (.long q2), .second, .val (.long q3), .second, .val (.long q4), .second, .val (.int p5), .val (.int p6), .val (.long mo), .second, .val (.long m1), .second, .val (.long q4), .second, .val (.int cn), .val (.ref b60), .val (.int (if (mo - (cn.toInt64)) < m1 then (0 : Int32) else (1 : Int32))), .val (.ref bd81), .unset, .unset, .unset] [(.int (0 : Int32))]))
    refine own_up ?_ fun t k => XS.istore X81.here hx rfl (hb hby at_112) rfl (l' := #[.val (.long q1), .second, .val (.long q2), .second, .val (.long q3), .second, .val (.long q4), .second, .val (.int p5), .val (.int p6), .val (.long mo), .second, .val (.long m1), .second, .val (.long q4), .second, .val (.int cn), .val (.ref b60), .val (.int (if (mo - (cn.toInt64)) < m1 then (0 : Int32) else (1 : Int32))), .val (.ref bd81), .val (.int (0 : Int32)), .unset, .unset]) rfl k
    show own_G p.tables e below s _ _ _ (T81.setTop (mkF m 114 #[.val (.long q1), .second, .val (.long q2), .second, .val (.long q3), .second, .val (.long q4), .second, .val (.int p5), .val (.int p6), .val (.long mo), .second, .val (.long m1), .second, .val (.long q4), .second, .val (.int cn), .val (.ref b60), .val (.int (if (mo - (cn.toInt64)) < m1 then (0 : Int32) else (1 : Int32))), .val (.ref bd81), .val (.int (0 : Int32)), .unset, .unset] []))
    refine own_up ?_ fun t k => XS.lload X81.here hx rfl (hb hby at_114) rfl k
    show own_G p.tables e below s _ _ _ (T81.setTop (mkF m 116 #[.val (.long q1), .second, .val (.long q2), .second, .val (.long q3), .second, .val (.long q4), .second, .val (.int p5), .val (.int p6), .val (.long mo), .second, .val (.long m1), .second, .val (.long q4), .second, .val (.int cn), .val (.ref b60), .val (.int (if (mo - (cn.toInt64)) < m1 then (0 : Int32) else (1 : Int32))), .val (.ref bd81), .val (.int (0 : Int32)), .unset, .unset] [(.long m1)]))
    refine own_up ?_ fun t k => XS.lstore X81.here hx rfl (hb hby at_116) rfl (l' := #[.val (.long q1), .second, .val (.long q2), .second, .val (.long q3), .second, .val (.long q4), .second, .val (.int p5), .val (.int p6), .val (.long mo), .second, .val (.long m1), .second, .val (.long q4), .second, .val (.int cn), .val (.ref b60), .val (.int (if (mo - (cn.toInt64)) < m1 then (0 : Int32) else (1 : Int32))), .val (.ref bd81), .val (.int (0 : Int32)), .val (.long m1), .second]) rfl k
    show own_G p.tables e below s _ _ _ (T81.setTop (mkF m 118 #[.val (.long q1), .second, .val (.long q2), .second, .val (.long q3), .second, .val (.long q4), .second, .val (.int p5), .val (.int p6), .val (.long mo), .second, .val (.long m1), .second, .val (.long q4), .second, .val (.int cn), .val (.ref b60), .val (.int (if (mo - (cn.toInt64)) < m1 then (0 : Int32) else (1 : Int32))), .val (.ref bd81), .val (.int (0 : Int32)), .val (.long m1), .second] []))
    refine own_up ?_ fun t k => XS.iload X81.here hx rfl (hb hby at_118) rfl k
    show own_G p.tables e below s _ _ _ (T81.setTop (mkF m 120 #[.val (.long q1), .second, .val (.long q2), .second, .val (.long q3), .second, .val (.long q4), .second, .val (.int p5), .val (.int p6), .val (.long mo), .second, .val (.long m1), .second, .val (.long q4), .second, .val (.int cn), .val (.ref b60), .val (.int (if (mo - (cn.toInt64)) < m1 then (0 : Int32) else (1 : Int32))), .val (.ref bd81), .val (.int (0 : Int32)), .val (.long m1), .second] [(.int (0 : Int32))]))
    refine own_up ?_ fun t k => XS.ifYes X81.here hx rfl (pc0 := 120) (pc' := 131) rfl (hb hby at_120) rfl ((if0 _ _).trans (teq (by decide : ((0 : Int32) = (0 : Int32)))).1) (by decide) (by decide) k
    show own_G p.tables e below s _ _ _ (T81.setTop (mkF m 131 #[.val (.long q1), .second, .val (.long q2), .second, .val (.long q3), .second, .val (.long q4), .second, .val (.int p5), .val (.int p6), .val (.long mo), .second, .val (.long m1), .second, .val (.long q4), .second, .val (.int cn), .val (.ref b60), .val (.int (if (mo - (cn.toInt64)) < m1 then (0 : Int32) else (1 : Int32))), .val (.ref bd81), .val (.int (0 : Int32)), .val (.long m1), .second] []))
    refine own_up ?_ fun t k => XS.iload X81.here hx rfl (hb hby at_131) rfl k
    show own_G p.tables e below s _ _ _ (T81.setTop (mkF m 133 #[.val (.long q1), .second, .val (.long q2), .second, .val (.long q3), .second, .val (.long q4), .second, .val (.int p5), .val (.int p6), .val (.long mo), .second, .val (.long m1), .second, .val (.long q4), .second, .val (.int cn), .val (.ref b60), .val (.int (if (mo - (cn.toInt64)) < m1 then (0 : Int32) else (1 : Int32))), .val (.ref bd81), .val (.int (0 : Int32)), .val (.long m1), .second] [(.int (if (mo - (cn.toInt64)) < m1 then (0 : Int32) else (1 : Int32)))]))
    refine own_up ?_ fun t k => XS.iload X81.here hx rfl (hb hby at_133) rfl k
    show own_G p.tables e below s _ _ _ (T81.setTop (mkF m 135 #[.val (.long q1), .second, .val (.long q2), .second, .val (.long q3), .second, .val (.long q4), .second, .val (.int p5), .val (.int p6), .val (.long mo), .second, .val (.long m1), .second, .val (.long q4), .second, .val (.int cn), .val (.ref b60), .val (.int (if (mo - (cn.toInt64)) < m1 then (0 : Int32) else (1 : Int32))), .val (.ref bd81), .val (.int (0 : Int32)), .val (.long m1), .second] [(.int (0 : Int32)), (.int (if (mo - (cn.toInt64)) < m1 then (0 : Int32) else (1 : Int32)))]))
    refine own_up ?_ fun t k => XS.icmpNo X81.here hx rfl (hb hby at_135) rfl (teq (if_pos (own_lt (own_m1 h_mo h_r0 h_m1) h_cn hc104_84) : ((if (mo - (cn.toInt64)) < m1 then (0 : Int32) else (1 : Int32)) = (0 : Int32)))).2 k
    show own_G p.tables e below s _ _ _ (T81.setTop (mkF m 138 #[.val (.long q1), .second, .val (.long q2), .second, .val (.long q3), .second, .val (.long q4), .second, .val (.int p5), .val (.int p6), .val (.long mo), .second, .val (.long m1), .second, .val (.long q4), .second, .val (.int cn), .val (.ref b60), .val (.int (if (mo - (cn.toInt64)) < m1 then (0 : Int32) else (1 : Int32))), .val (.ref bd81), .val (.int (0 : Int32)), .val (.long m1), .second] []))
    refine own_up ?_ fun t k => XS.aload X81.here hx rfl (hb hby at_138) rfl rfl k
    show own_G p.tables e below s _ _ _ (T81.setTop (mkF m 140 #[.val (.long q1), .second, .val (.long q2), .second, .val (.long q3), .second, .val (.long q4), .second, .val (.int p5), .val (.int p6), .val (.long mo), .second, .val (.long m1), .second, .val (.long q4), .second, .val (.int cn), .val (.ref b60), .val (.int (if (mo - (cn.toInt64)) < m1 then (0 : Int32) else (1 : Int32))), .val (.ref bd81), .val (.int (0 : Int32)), .val (.long m1), .second] [(.ref bd81)]))
    obtain ⟨cq85, kq85, q85a, q85b, q85c⟩ := isOf hZ rfl Eb81
    obtain ⟨_, _, ⟨T85, L85, k85, n85⟩, -, X85, ⟨Lc85, hQ85, l85, y85, z85⟩, st85⟩ := X81.virtualBack hx (y := (⟨"com/example/eventweir/eventweir/Cascade$Done", "matches", "()J"⟩ : MethodName)) (z := (⟨"com/example/eventweir/eventweir/Cascade$Done", "matches", "()J"⟩ : MethodName)) hown (mvT hZ (hw _ (List.mem_of_getElem? (i := 69) rfl))) (mvT hZ (hw _ (List.mem_of_getElem? (i := 51) rfl))) (notFace_of_selects (args := #[]) (mvT hZ (hw _ (List.mem_of_getElem? (i := 53) rfl)))) (mvT hZ (hw _ (List.mem_of_getElem? (i := 53) rfl))) (mvT hZ (hw _ (List.mem_of_getElem? (i := 52) rfl))) (by decide) (backOf (W := 0) (rm9 l Z a0 hw [] bd81 (if (mo - (cn.toInt64)) < m1 then m1 else (m1 + (cn.toInt64))) T81.heap n0 Zs83 Fm81) hZ (hw _ (List.mem_of_getElem? (i := 54) rfl)) (hw _ (List.mem_of_getElem? (i := 24) rfl)) (by decide) (by decide)) q85a q85c (g := (mkF m 140 #[.val (.long q1), .second, .val (.long q2), .second, .val (.long q3), .second, .val (.long q4), .second, .val (.int p5), .val (.int p6), .val (.long mo), .second, .val (.long m1), .second, .val (.long q4), .second, .val (.int cn), .val (.ref b60), .val (.int (if (mo - (cn.toInt64)) < m1 then (0 : Int32) else (1 : Int32))), .val (.ref bd81), .val (.int (0 : Int32)), .val (.long m1), .second] [(.ref bd81)])) rfl (by rw [hml]; rfl) (Steps.refl _) (argsL := []) (rest := []) (lenOf own_pd1 rfl) rfl (by show 2 * 0 + _ ≤ _; exact Nat.le_of_eq rfl) (hb hby at_140) (fun _ _ => ⟨rfl, rfl, (by decide : 3 + 0 ≤ _), (by decide : 8 + 0 ≤ _)⟩)
    dsimp only [Pt.U, Pt.locs, Pt.cells, Pt.slots] at X85 l85 y85 z85 st85 hQ85
    subst l85 y85 z85
    obtain ⟨rfl, Nq85, e85⟩ := hQ85
    have N85 := Fr.app N81 Nq85
    refine own_up ?_ (fun t k => st85.trans k)
    show own_G p.tables e below s _ _ _ (T85.setTop (mkF m 143 #[.val (.long q1), .second, .val (.long q2), .second, .val (.long q3), .second, .val (.long q4), .second, .val (.int p5), .val (.int p6), .val (.long mo), .second, .val (.long m1), .second, .val (.long q4), .second, .val (.int cn), .val (.ref b60), .val (.int (if (mo - (cn.toInt64)) < m1 then (0 : Int32) else (1 : Int32))), .val (.ref bd81), .val (.int (0 : Int32)), .val (.long m1), .second] [(.long (if (mo - (cn.toInt64)) < m1 then m1 else (m1 + (cn.toInt64))))]))
    refine own_up ?_ fun t k => XS.lload X85.here hx rfl (hb hby at_143) rfl k
    show own_G p.tables e below s _ _ _ (T85.setTop (mkF m 145 #[.val (.long q1), .second, .val (.long q2), .second, .val (.long q3), .second, .val (.long q4), .second, .val (.int p5), .val (.int p6), .val (.long mo), .second, .val (.long m1), .second, .val (.long q4), .second, .val (.int cn), .val (.ref b60), .val (.int (if (mo - (cn.toInt64)) < m1 then (0 : Int32) else (1 : Int32))), .val (.ref bd81), .val (.int (0 : Int32)), .val (.long m1), .second] [(.long m1), (.long (if (mo - (cn.toInt64)) < m1 then m1 else (m1 + (cn.toInt64))))]))
    refine own_up ?_ fun t k => XS.lcmp X85.here hx rfl (hb hby at_145) rfl k
    show own_G p.tables e below s _ _ _ (T85.setTop (mkF m 146 #[.val (.long q1), .second, .val (.long q2), .second, .val (.long q3), .second, .val (.long q4), .second, .val (.int p5), .val (.int p6), .val (.long mo), .second, .val (.long m1), .second, .val (.long q4), .second, .val (.int cn), .val (.ref b60), .val (.int (if (mo - (cn.toInt64)) < m1 then (0 : Int32) else (1 : Int32))), .val (.ref bd81), .val (.int (0 : Int32)), .val (.long m1), .second] [(.int (lcmpW (if (mo - (cn.toInt64)) < m1 then m1 else (m1 + (cn.toInt64))) m1))]))
    refine own_up ?_ fun t k => XS.ifNo X85.here hx rfl (hb hby at_146) rfl ((if0 _ _).trans (teq ((lw_eq _ _).mpr (if_pos (own_lt (own_m1 h_mo h_r0 h_m1) h_cn hc104_84) : ((if (mo - (cn.toInt64)) < m1 then m1 else (m1 + (cn.toInt64))) = m1)))).2) k
    show own_G p.tables e below s _ _ _ (T85.setTop (mkF m 149 #[.val (.long q1), .second, .val (.long q2), .second, .val (.long q3), .second, .val (.long q4), .second, .val (.int p5), .val (.int p6), .val (.long mo), .second, .val (.long m1), .second, .val (.long q4), .second, .val (.int cn), .val (.ref b60), .val (.int (if (mo - (cn.toInt64)) < m1 then (0 : Int32) else (1 : Int32))), .val (.ref bd81), .val (.int (0 : Int32)), .val (.long m1), .second] []))
    refine own_up ?_ fun t k => XS.aload X85.here hx rfl (hb hby at_149) rfl rfl k
    show own_G p.tables e below s _ _ _ (T85.setTop (mkF m 151 #[.val (.long q1), .second, .val (.long q2), .second, .val (.long q3), .second, .val (.long q4), .second, .val (.int p5), .val (.int p6), .val (.long mo), .second, .val (.long m1), .second, .val (.long q4), .second, .val (.int cn), .val (.ref b60), .val (.int (if (mo - (cn.toInt64)) < m1 then (0 : Int32) else (1 : Int32))), .val (.ref bd81), .val (.int (0 : Int32)), .val (.long m1), .second] [(.ref bd81)]))
    obtain ⟨cq86, kq86, q86a, q86b, q86c⟩ := isOf hZ e85 Eb81
    obtain ⟨_, _, ⟨T86, L86, k86, n86⟩, -, X86, ⟨Lc86, hQ86, l86, y86, z86⟩, st86⟩ := X85.virtualBack hx (y := (⟨"com/example/eventweir/eventweir/Cascade$Done", "inserted", "()J"⟩ : MethodName)) (z := (⟨"com/example/eventweir/eventweir/Cascade$Done", "inserted", "()J"⟩ : MethodName)) hown (mvT hZ (hw _ (List.mem_of_getElem? (i := 70) rfl))) (mvT hZ (hw _ (List.mem_of_getElem? (i := 44) rfl))) (notFace_of_selects (args := #[]) (mvT hZ (hw _ (List.mem_of_getElem? (i := 46) rfl)))) (mvT hZ (hw _ (List.mem_of_getElem? (i := 46) rfl))) (mvT hZ (hw _ (List.mem_of_getElem? (i := 45) rfl))) (by decide) (backOf (W := 0) (rm8 l Z a0 hw [] bd81 q4 T81.heap n0 Zs83 Fi81) hZ (hw _ (List.mem_of_getElem? (i := 47) rfl)) (hw _ (List.mem_of_getElem? (i := 24) rfl)) (by decide) (by decide)) q86a q86c (g := (mkF m 151 #[.val (.long q1), .second, .val (.long q2), .second, .val (.long q3), .second, .val (.long q4), .second, .val (.int p5), .val (.int p6), .val (.long mo), .second, .val (.long m1), .second, .val (.long q4), .second, .val (.int cn), .val (.ref b60), .val (.int (if (mo - (cn.toInt64)) < m1 then (0 : Int32) else (1 : Int32))), .val (.ref bd81), .val (.int (0 : Int32)), .val (.long m1), .second] [(.ref bd81)])) rfl (by rw [hml]; rfl) (Steps.refl _) (argsL := []) (rest := []) (lenOf own_pd1 rfl) rfl (by show 2 * 0 + _ ≤ _; exact Nat.le_of_eq rfl) (hb hby at_151) (fun _ _ => ⟨rfl, e85, (by decide : 3 + 0 ≤ _), (by decide : 8 + 0 ≤ _)⟩)
    dsimp only [Pt.U, Pt.locs, Pt.cells, Pt.slots] at X86 l86 y86 z86 st86 hQ86
    subst l86 y86 z86
    obtain ⟨rfl, Nq86, e86⟩ := hQ86
    have N86 := Fr.app N85 Nq86
    refine own_up ?_ (fun t k => st86.trans k)
    show own_G p.tables e below s _ _ _ (T86.setTop (mkF m 154 #[.val (.long q1), .second, .val (.long q2), .second, .val (.long q3), .second, .val (.long q4), .second, .val (.int p5), .val (.int p6), .val (.long mo), .second, .val (.long m1), .second, .val (.long q4), .second, .val (.int cn), .val (.ref b60), .val (.int (if (mo - (cn.toInt64)) < m1 then (0 : Int32) else (1 : Int32))), .val (.ref bd81), .val (.int (0 : Int32)), .val (.long m1), .second] [(.long q4)]))
    refine own_up ?_ fun t k => XS.lload X86.here hx rfl (hb hby at_154) rfl k
    show own_G p.tables e below s _ _ _ (T86.setTop (mkF m 156 #[.val (.long q1), .second, .val (.long q2), .second, .val (.long q3), .second, .val (.long q4), .second, .val (.int p5), .val (.int p6), .val (.long mo), .second, .val (.long m1), .second, .val (.long q4), .second, .val (.int cn), .val (.ref b60), .val (.int (if (mo - (cn.toInt64)) < m1 then (0 : Int32) else (1 : Int32))), .val (.ref bd81), .val (.int (0 : Int32)), .val (.long m1), .second] [(.long q4), (.long q4)]))
    refine own_up ?_ fun t k => XS.lcmp X86.here hx rfl (hb hby at_156) rfl k
    show own_G p.tables e below s _ _ _ (T86.setTop (mkF m 157 #[.val (.long q1), .second, .val (.long q2), .second, .val (.long q3), .second, .val (.long q4), .second, .val (.int p5), .val (.int p6), .val (.long mo), .second, .val (.long m1), .second, .val (.long q4), .second, .val (.int cn), .val (.ref b60), .val (.int (if (mo - (cn.toInt64)) < m1 then (0 : Int32) else (1 : Int32))), .val (.ref bd81), .val (.int (0 : Int32)), .val (.long m1), .second] [(.int (lcmpW q4 q4))]))
    refine own_up ?_ fun t k => XS.ifNo X86.here hx rfl (hb hby at_157) rfl ((if0 _ _).trans (teq ((lw_eq _ _).mpr (rfl : (q4 = q4)))).2) k
    show own_G p.tables e below s _ _ _ (T86.setTop (mkF m 160 #[.val (.long q1), .second, .val (.long q2), .second, .val (.long q3), .second, .val (.long q4), .second, .val (.int p5), .val (.int p6), .val (.long mo), .second, .val (.long m1), .second, .val (.long q4), .second, .val (.int cn), .val (.ref b60), .val (.int (if (mo - (cn.toInt64)) < m1 then (0 : Int32) else (1 : Int32))), .val (.ref bd81), .val (.int (0 : Int32)), .val (.long m1), .second] []))
    refine own_up ?_ fun t k => XS.aload X86.here hx rfl (hb hby at_160) rfl rfl k
    show own_G p.tables e below s _ _ _ (T86.setTop (mkF m 162 #[.val (.long q1), .second, .val (.long q2), .second, .val (.long q3), .second, .val (.long q4), .second, .val (.int p5), .val (.int p6), .val (.long mo), .second, .val (.long m1), .second, .val (.long q4), .second, .val (.int cn), .val (.ref b60), .val (.int (if (mo - (cn.toInt64)) < m1 then (0 : Int32) else (1 : Int32))), .val (.ref bd81), .val (.int (0 : Int32)), .val (.long m1), .second] [(.ref b60)]))
    obtain ⟨cq87, kq87, q87a, q87b, q87c⟩ := isOf hZ e86 A60_c82
    obtain ⟨_, _, ⟨T87, L87, k87, n87⟩, -, X87, ⟨Lc87, hQ87, l87, y87, z87⟩, st87⟩ := X86.virtualBack hx (y := (⟨"com/example/eventweir/eventweir/Cascade", "mostMatches", "()J"⟩ : MethodName)) (z := (⟨"com/example/eventweir/eventweir/Cascade", "mostMatches", "()J"⟩ : MethodName)) hown (mvT hZ (hw _ (List.mem_of_getElem? (i := 71) rfl))) (mvT hZ (hw _ (List.mem_of_getElem? (i := 72) rfl))) (notFace_of_selects (args := #[]) (mvT hZ (hw _ (List.mem_of_getElem? (i := 74) rfl)))) (mvT hZ (hw _ (List.mem_of_getElem? (i := 74) rfl))) (mvT hZ (hw _ (List.mem_of_getElem? (i := 73) rfl))) (by decide) (backOf (W := 0) (rm12 l Z a0 hw [] b60 mo T81.heap n0 Zs83 Fq78_0_c82) hZ (hw _ (List.mem_of_getElem? (i := 75) rfl)) (hw _ (List.mem_of_getElem? (i := 11) rfl)) (by decide) (by decide)) q87a q87c (g := (mkF m 162 #[.val (.long q1), .second, .val (.long q2), .second, .val (.long q3), .second, .val (.long q4), .second, .val (.int p5), .val (.int p6), .val (.long mo), .second, .val (.long m1), .second, .val (.long q4), .second, .val (.int cn), .val (.ref b60), .val (.int (if (mo - (cn.toInt64)) < m1 then (0 : Int32) else (1 : Int32))), .val (.ref bd81), .val (.int (0 : Int32)), .val (.long m1), .second] [(.ref b60)])) rfl (by rw [hml]; rfl) (Steps.refl _) (argsL := []) (rest := []) (lenOf own_pd1 rfl) rfl (by show 2 * 0 + _ ≤ _; exact Nat.le_of_eq rfl) (hb hby at_162) (fun _ _ => ⟨rfl, e86, (by decide : 3 + 0 ≤ _), (by decide : 8 + 0 ≤ _)⟩)
    dsimp only [Pt.U, Pt.locs, Pt.cells, Pt.slots] at X87 l87 y87 z87 st87 hQ87
    subst l87 y87 z87
    obtain ⟨rfl, Nq87, e87⟩ := hQ87
    have N87 := Fr.app N86 Nq87
    refine own_up ?_ (fun t k => st87.trans k)
    show own_G p.tables e below s _ _ _ (T87.setTop (mkF m 165 #[.val (.long q1), .second, .val (.long q2), .second, .val (.long q3), .second, .val (.long q4), .second, .val (.int p5), .val (.int p6), .val (.long mo), .second, .val (.long m1), .second, .val (.long q4), .second, .val (.int cn), .val (.ref b60), .val (.int (if (mo - (cn.toInt64)) < m1 then (0 : Int32) else (1 : Int32))), .val (.ref bd81), .val (.int (0 : Int32)), .val (.long m1), .second] [(.long mo)]))
    refine own_up ?_ fun t k => XS.lload X87.here hx rfl (hb hby at_165) rfl k
    show own_G p.tables e below s _ _ _ (T87.setTop (mkF m 167 #[.val (.long q1), .second, .val (.long q2), .second, .val (.long q3), .second, .val (.long q4), .second, .val (.int p5), .val (.int p6), .val (.long mo), .second, .val (.long m1), .second, .val (.long q4), .second, .val (.int cn), .val (.ref b60), .val (.int (if (mo - (cn.toInt64)) < m1 then (0 : Int32) else (1 : Int32))), .val (.ref bd81), .val (.int (0 : Int32)), .val (.long m1), .second] [(.long mo), (.long mo)]))
    refine own_up ?_ fun t k => XS.lcmp X87.here hx rfl (hb hby at_167) rfl k
    show own_G p.tables e below s _ _ _ (T87.setTop (mkF m 168 #[.val (.long q1), .second, .val (.long q2), .second, .val (.long q3), .second, .val (.long q4), .second, .val (.int p5), .val (.int p6), .val (.long mo), .second, .val (.long m1), .second, .val (.long q4), .second, .val (.int cn), .val (.ref b60), .val (.int (if (mo - (cn.toInt64)) < m1 then (0 : Int32) else (1 : Int32))), .val (.ref bd81), .val (.int (0 : Int32)), .val (.long m1), .second] [(.int (lcmpW mo mo))]))
    refine own_up ?_ fun t k => XS.ifNo X87.here hx rfl (hb hby at_168) rfl ((if0 _ _).trans (teq ((lw_eq _ _).mpr (rfl : (mo = mo)))).2) k
    show own_G p.tables e below s _ _ _ (T87.setTop (mkF m 171 #[.val (.long q1), .second, .val (.long q2), .second, .val (.long q3), .second, .val (.long q4), .second, .val (.int p5), .val (.int p6), .val (.long mo), .second, .val (.long m1), .second, .val (.long q4), .second, .val (.int cn), .val (.ref b60), .val (.int (if (mo - (cn.toInt64)) < m1 then (0 : Int32) else (1 : Int32))), .val (.ref bd81), .val (.int (0 : Int32)), .val (.long m1), .second] []))
    refine own_up ?_ fun t k => XS.iconst X87.here hx rfl (hb hby at_171) k
    show own_G p.tables e below s _ _ _ (T87.setTop (mkF m 172 #[.val (.long q1), .second, .val (.long q2), .second, .val (.long q3), .second, .val (.long q4), .second, .val (.int p5), .val (.int p6), .val (.long mo), .second, .val (.long m1), .second, .val (.long q4), .second, .val (.int cn), .val (.ref b60), .val (.int (if (mo - (cn.toInt64)) < m1 then (0 : Int32) else (1 : Int32))), .val (.ref bd81), .val (.int (0 : Int32)), .val (.long m1), .second] [(.int (1 : Int32))]))
    refine own_up ?_ fun t k => XS.goto X87.here hx rfl (pc0 := 172) (pc' := 176) rfl (hb hby at_172) (by decide) (by decide) k
    show own_G p.tables e below s _ _ _ (T87.setTop (mkF m 176 #[.val (.long q1), .second, .val (.long q2), .second, .val (.long q3), .second, .val (.long q4), .second, .val (.int p5), .val (.int p6), .val (.long mo), .second, .val (.long m1), .second, .val (.long q4), .second, .val (.int cn), .val (.ref b60), .val (.int (if (mo - (cn.toInt64)) < m1 then (0 : Int32) else (1 : Int32))), .val (.ref bd81), .val (.int (0 : Int32)), .val (.long m1), .second] [(.int (1 : Int32))]))
    exact own_retI X87 hx hlk Bd.returns (by simp) rfl (hb hby at_176) ⟨rfl, N87⟩ (by decide) (by decide)
  · refine own_up ?_ fun t k => XS.ifNo X81.here hx rfl (hb hby at_104) rfl ((if0 _ _).trans (flt (fun q => hc104_84 ((lw_lt _ _).mp q))).1) k
    show own_G p.tables e below s _ _ _ (T81.setTop (mkF m 107 #[.val (.long q1), .second, .val (.long q2), .second, .val (.long q3), .second, .val (.long q4), .second, .val (.int p5), .val (.int p6), .val (.long mo), .second, .val (.long m1), .second, .val (.long q4), .second, .val (.int cn), .val (.ref b60), .val (.int (if (mo - (cn.toInt64)) < m1 then (0 : Int32) else (1 : Int32))), .val (.ref bd81), .unset, .unset, .unset] []))
    refine own_up ?_ fun t k => XS.iconst X81.here hx rfl (hb hby at_107) k
    show own_G p.tables e below s _ _ _ (T81.setTop (mkF m 108 #[.val (.long q1), .second, .val (.long q2), .second, .val (.long q3), .second, .val (.long q4), .second, .val (.int p5), .val (.int p6), .val (.long mo), .second, .val (.long m1), .second, .val (.long q4), .second, .val (.int cn), .val (.ref b60), .val (.int (if (mo - (cn.toInt64)) < m1 then (0 : Int32) else (1 : Int32))), .val (.ref bd81), .unset, .unset, .unset] [(.int (1 : Int32))]))
    refine own_up ?_ fun t k => XS.goto X81.here hx rfl (pc0 := 108) (pc' := 112) rfl (hb hby at_108) (by decide) (by decide) k
    show own_G p.tables e below s _ _ _ (T81.setTop (mkF m 112 #[.val (.long q1), .second, .val (.long q2), .second, .val (.long q3), .second, .val (.long q4), .second, .val (.int p5), .val (.int p6), .val (.long mo), .second, .val (.long m1), .second, .val (.long q4), .second, .val (.int cn), .val (.ref b60), .val (.int (if (mo - (cn.toInt64)) < m1 then (0 : Int32) else (1 : Int32))), .val (.ref bd81), .unset, .unset, .unset] [(.int (1 : Int32))]))
    refine own_up ?_ fun t k => XS.istore X81.here hx rfl (hb hby at_112) rfl (l' := #[.val (.long q1), .second, .val (.long q2), .second, .val (.long q3), .second, .val (.long q4), .second, .val (.int p5), .val (.int p6), .val (.long mo), .second, .val (.long m1), .second, .val (.long q4), .second, .val (.int cn), .val (.ref b60), .val (.int (if (mo - (cn.toInt64)) < m1 then (0 : Int32) else (1 : Int32))), .val (.ref bd81), .val (.int (1 : Int32)), .unset, .unset]) rfl k
    show own_G p.tables e below s _ _ _ (T81.setTop (mkF m 114 #[.val (.long q1), .second, .val (.long q2), .second, .val (.long q3), .second, .val (.long q4), .second, .val (.int p5), .val (.int p6), .val (.long mo), .second, .val (.long m1), .second, .val (.long q4), .second, .val (.int cn), .val (.ref b60), .val (.int (if (mo - (cn.toInt64)) < m1 then (0 : Int32) else (1 : Int32))), .val (.ref bd81), .val (.int (1 : Int32)), .unset, .unset] []))
    refine own_up ?_ fun t k => XS.lload X81.here hx rfl (hb hby at_114) rfl k
    show own_G p.tables e below s _ _ _ (T81.setTop (mkF m 116 #[.val (.long q1), .second, .val (.long q2), .second, .val (.long q3), .second, .val (.long q4), .second, .val (.int p5), .val (.int p6), .val (.long mo), .second, .val (.long m1), .second, .val (.long q4), .second, .val (.int cn), .val (.ref b60), .val (.int (if (mo - (cn.toInt64)) < m1 then (0 : Int32) else (1 : Int32))), .val (.ref bd81), .val (.int (1 : Int32)), .unset, .unset] [(.long m1)]))
    refine own_up ?_ fun t k => XS.lstore X81.here hx rfl (hb hby at_116) rfl (l' := #[.val (.long q1), .second, .val (.long q2), .second, .val (.long q3), .second, .val (.long q4), .second, .val (.int p5), .val (.int p6), .val (.long mo), .second, .val (.long m1), .second, .val (.long q4), .second, .val (.int cn), .val (.ref b60), .val (.int (if (mo - (cn.toInt64)) < m1 then (0 : Int32) else (1 : Int32))), .val (.ref bd81), .val (.int (1 : Int32)), .val (.long m1), .second]) rfl k
    show own_G p.tables e below s _ _ _ (T81.setTop (mkF m 118 #[.val (.long q1), .second, .val (.long q2), .second, .val (.long q3), .second, .val (.long q4), .second, .val (.int p5), .val (.int p6), .val (.long mo), .second, .val (.long m1), .second, .val (.long q4), .second, .val (.int cn), .val (.ref b60), .val (.int (if (mo - (cn.toInt64)) < m1 then (0 : Int32) else (1 : Int32))), .val (.ref bd81), .val (.int (1 : Int32)), .val (.long m1), .second] []))
    refine own_up ?_ fun t k => XS.iload X81.here hx rfl (hb hby at_118) rfl k
    show own_G p.tables e below s _ _ _ (T81.setTop (mkF m 120 #[.val (.long q1), .second, .val (.long q2), .second, .val (.long q3), .second, .val (.long q4), .second, .val (.int p5), .val (.int p6), .val (.long mo), .second, .val (.long m1), .second, .val (.long q4), .second, .val (.int cn), .val (.ref b60), .val (.int (if (mo - (cn.toInt64)) < m1 then (0 : Int32) else (1 : Int32))), .val (.ref bd81), .val (.int (1 : Int32)), .val (.long m1), .second] [(.int (1 : Int32))]))
    refine own_up ?_ fun t k => XS.ifNo X81.here hx rfl (hb hby at_120) rfl ((if0 _ _).trans (feq (by decide : ¬ ((1 : Int32) = (0 : Int32)))).1) k
    show own_G p.tables e below s _ _ _ (T81.setTop (mkF m 123 #[.val (.long q1), .second, .val (.long q2), .second, .val (.long q3), .second, .val (.long q4), .second, .val (.int p5), .val (.int p6), .val (.long mo), .second, .val (.long m1), .second, .val (.long q4), .second, .val (.int cn), .val (.ref b60), .val (.int (if (mo - (cn.toInt64)) < m1 then (0 : Int32) else (1 : Int32))), .val (.ref bd81), .val (.int (1 : Int32)), .val (.long m1), .second] []))
    refine own_up ?_ fun t k => XS.lload X81.here hx rfl (hb hby at_123) rfl k
    show own_G p.tables e below s _ _ _ (T81.setTop (mkF m 125 #[.val (.long q1), .second, .val (.long q2), .second, .val (.long q3), .second, .val (.long q4), .second, .val (.int p5), .val (.int p6), .val (.long mo), .second, .val (.long m1), .second, .val (.long q4), .second, .val (.int cn), .val (.ref b60), .val (.int (if (mo - (cn.toInt64)) < m1 then (0 : Int32) else (1 : Int32))), .val (.ref bd81), .val (.int (1 : Int32)), .val (.long m1), .second] [(.long m1)]))
    refine own_up ?_ fun t k => XS.iload X81.here hx rfl (hb hby at_125) rfl k
    show own_G p.tables e below s _ _ _ (T81.setTop (mkF m 127 #[.val (.long q1), .second, .val (.long q2), .second, .val (.long q3), .second, .val (.long q4), .second, .val (.int p5), .val (.int p6), .val (.long mo), .second, .val (.long m1), .second, .val (.long q4), .second, .val (.int cn), .val (.ref b60), .val (.int (if (mo - (cn.toInt64)) < m1 then (0 : Int32) else (1 : Int32))), .val (.ref bd81), .val (.int (1 : Int32)), .val (.long m1), .second] [(.int cn), (.long m1)]))
    refine own_up ?_ fun t k => XS.i2l X81.here hx rfl (hb hby at_127) rfl k
    show own_G p.tables e below s _ _ _ (T81.setTop (mkF m 128 #[.val (.long q1), .second, .val (.long q2), .second, .val (.long q3), .second, .val (.long q4), .second, .val (.int p5), .val (.int p6), .val (.long mo), .second, .val (.long m1), .second, .val (.long q4), .second, .val (.int cn), .val (.ref b60), .val (.int (if (mo - (cn.toInt64)) < m1 then (0 : Int32) else (1 : Int32))), .val (.ref bd81), .val (.int (1 : Int32)), .val (.long m1), .second] [(.long (cn.toInt64)), (.long m1)]))
    refine own_up ?_ fun t k => XS.ladd X81.here hx rfl (hb hby at_128) rfl k
    show own_G p.tables e below s _ _ _ (T81.setTop (mkF m 129 #[.val (.long q1), .second, .val (.long q2), .second, .val (.long q3), .second, .val (.long q4), .second, .val (.int p5), .val (.int p6), .val (.long mo), .second, .val (.long m1), .second, .val (.long q4), .second, .val (.int cn), .val (.ref b60), .val (.int (if (mo - (cn.toInt64)) < m1 then (0 : Int32) else (1 : Int32))), .val (.ref bd81), .val (.int (1 : Int32)), .val (.long m1), .second] [(.long (m1 + (cn.toInt64)))]))
    refine own_up ?_ fun t k => XS.lstore X81.here hx rfl (hb hby at_129) rfl (l' := #[.val (.long q1), .second, .val (.long q2), .second, .val (.long q3), .second, .val (.long q4), .second, .val (.int p5), .val (.int p6), .val (.long mo), .second, .val (.long m1), .second, .val (.long q4), .second, .val (.int cn), .val (.ref b60), .val (.int (if (mo - (cn.toInt64)) < m1 then (0 : Int32) else (1 : Int32))), .val (.ref bd81), .val (.int (1 : Int32)), .val (.long (m1 + (cn.toInt64))), .second]) rfl k
    show own_G p.tables e below s _ _ _ (T81.setTop (mkF m 131 #[.val (.long q1), .second, .val (.long q2), .second, .val (.long q3), .second, .val (.long q4), .second, .val (.int p5), .val (.int p6), .val (.long mo), .second, .val (.long m1), .second, .val (.long q4), .second, .val (.int cn), .val (.ref b60), .val (.int (if (mo - (cn.toInt64)) < m1 then (0 : Int32) else (1 : Int32))), .val (.ref bd81), .val (.int (1 : Int32)), .val (.long (m1 + (cn.toInt64))), .second] []))
    refine own_up ?_ fun t k => XS.iload X81.here hx rfl (hb hby at_131) rfl k
    show own_G p.tables e below s _ _ _ (T81.setTop (mkF m 133 #[.val (.long q1), .second, .val (.long q2), .second, .val (.long q3), .second, .val (.long q4), .second, .val (.int p5), .val (.int p6), .val (.long mo), .second, .val (.long m1), .second, .val (.long q4), .second, .val (.int cn), .val (.ref b60), .val (.int (if (mo - (cn.toInt64)) < m1 then (0 : Int32) else (1 : Int32))), .val (.ref bd81), .val (.int (1 : Int32)), .val (.long (m1 + (cn.toInt64))), .second] [(.int (if (mo - (cn.toInt64)) < m1 then (0 : Int32) else (1 : Int32)))]))
    refine own_up ?_ fun t k => XS.iload X81.here hx rfl (hb hby at_133) rfl k
    show own_G p.tables e below s _ _ _ (T81.setTop (mkF m 135 #[.val (.long q1), .second, .val (.long q2), .second, .val (.long q3), .second, .val (.long q4), .second, .val (.int p5), .val (.int p6), .val (.long mo), .second, .val (.long m1), .second, .val (.long q4), .second, .val (.int cn), .val (.ref b60), .val (.int (if (mo - (cn.toInt64)) < m1 then (0 : Int32) else (1 : Int32))), .val (.ref bd81), .val (.int (1 : Int32)), .val (.long (m1 + (cn.toInt64))), .second] [(.int (1 : Int32)), (.int (if (mo - (cn.toInt64)) < m1 then (0 : Int32) else (1 : Int32)))]))
    refine own_up ?_ fun t k => XS.icmpNo X81.here hx rfl (hb hby at_135) rfl (teq (if_neg (own_nlt (own_m1 h_mo h_r0 h_m1) h_cn hc104_84) : ((if (mo - (cn.toInt64)) < m1 then (0 : Int32) else (1 : Int32)) = (1 : Int32)))).2 k
    show own_G p.tables e below s _ _ _ (T81.setTop (mkF m 138 #[.val (.long q1), .second, .val (.long q2), .second, .val (.long q3), .second, .val (.long q4), .second, .val (.int p5), .val (.int p6), .val (.long mo), .second, .val (.long m1), .second, .val (.long q4), .second, .val (.int cn), .val (.ref b60), .val (.int (if (mo - (cn.toInt64)) < m1 then (0 : Int32) else (1 : Int32))), .val (.ref bd81), .val (.int (1 : Int32)), .val (.long (m1 + (cn.toInt64))), .second] []))
    refine own_up ?_ fun t k => XS.aload X81.here hx rfl (hb hby at_138) rfl rfl k
    show own_G p.tables e below s _ _ _ (T81.setTop (mkF m 140 #[.val (.long q1), .second, .val (.long q2), .second, .val (.long q3), .second, .val (.long q4), .second, .val (.int p5), .val (.int p6), .val (.long mo), .second, .val (.long m1), .second, .val (.long q4), .second, .val (.int cn), .val (.ref b60), .val (.int (if (mo - (cn.toInt64)) < m1 then (0 : Int32) else (1 : Int32))), .val (.ref bd81), .val (.int (1 : Int32)), .val (.long (m1 + (cn.toInt64))), .second] [(.ref bd81)]))
    obtain ⟨cq88, kq88, q88a, q88b, q88c⟩ := isOf hZ rfl Eb81
    obtain ⟨_, _, ⟨T88, L88, k88, n88⟩, -, X88, ⟨Lc88, hQ88, l88, y88, z88⟩, st88⟩ := X81.virtualBack hx (y := (⟨"com/example/eventweir/eventweir/Cascade$Done", "matches", "()J"⟩ : MethodName)) (z := (⟨"com/example/eventweir/eventweir/Cascade$Done", "matches", "()J"⟩ : MethodName)) hown (mvT hZ (hw _ (List.mem_of_getElem? (i := 69) rfl))) (mvT hZ (hw _ (List.mem_of_getElem? (i := 51) rfl))) (notFace_of_selects (args := #[]) (mvT hZ (hw _ (List.mem_of_getElem? (i := 53) rfl)))) (mvT hZ (hw _ (List.mem_of_getElem? (i := 53) rfl))) (mvT hZ (hw _ (List.mem_of_getElem? (i := 52) rfl))) (by decide) (backOf (W := 0) (rm9 l Z a0 hw [] bd81 (if (mo - (cn.toInt64)) < m1 then m1 else (m1 + (cn.toInt64))) T81.heap n0 Zs83 Fm81) hZ (hw _ (List.mem_of_getElem? (i := 54) rfl)) (hw _ (List.mem_of_getElem? (i := 24) rfl)) (by decide) (by decide)) q88a q88c (g := (mkF m 140 #[.val (.long q1), .second, .val (.long q2), .second, .val (.long q3), .second, .val (.long q4), .second, .val (.int p5), .val (.int p6), .val (.long mo), .second, .val (.long m1), .second, .val (.long q4), .second, .val (.int cn), .val (.ref b60), .val (.int (if (mo - (cn.toInt64)) < m1 then (0 : Int32) else (1 : Int32))), .val (.ref bd81), .val (.int (1 : Int32)), .val (.long (m1 + (cn.toInt64))), .second] [(.ref bd81)])) rfl (by rw [hml]; rfl) (Steps.refl _) (argsL := []) (rest := []) (lenOf own_pd1 rfl) rfl (by show 2 * 0 + _ ≤ _; exact Nat.le_of_eq rfl) (hb hby at_140) (fun _ _ => ⟨rfl, rfl, (by decide : 3 + 0 ≤ _), (by decide : 8 + 0 ≤ _)⟩)
    dsimp only [Pt.U, Pt.locs, Pt.cells, Pt.slots] at X88 l88 y88 z88 st88 hQ88
    subst l88 y88 z88
    obtain ⟨rfl, Nq88, e88⟩ := hQ88
    have N88 := Fr.app N81 Nq88
    refine own_up ?_ (fun t k => st88.trans k)
    show own_G p.tables e below s _ _ _ (T88.setTop (mkF m 143 #[.val (.long q1), .second, .val (.long q2), .second, .val (.long q3), .second, .val (.long q4), .second, .val (.int p5), .val (.int p6), .val (.long mo), .second, .val (.long m1), .second, .val (.long q4), .second, .val (.int cn), .val (.ref b60), .val (.int (if (mo - (cn.toInt64)) < m1 then (0 : Int32) else (1 : Int32))), .val (.ref bd81), .val (.int (1 : Int32)), .val (.long (m1 + (cn.toInt64))), .second] [(.long (if (mo - (cn.toInt64)) < m1 then m1 else (m1 + (cn.toInt64))))]))
    refine own_up ?_ fun t k => XS.lload X88.here hx rfl (hb hby at_143) rfl k
    show own_G p.tables e below s _ _ _ (T88.setTop (mkF m 145 #[.val (.long q1), .second, .val (.long q2), .second, .val (.long q3), .second, .val (.long q4), .second, .val (.int p5), .val (.int p6), .val (.long mo), .second, .val (.long m1), .second, .val (.long q4), .second, .val (.int cn), .val (.ref b60), .val (.int (if (mo - (cn.toInt64)) < m1 then (0 : Int32) else (1 : Int32))), .val (.ref bd81), .val (.int (1 : Int32)), .val (.long (m1 + (cn.toInt64))), .second] [(.long (m1 + (cn.toInt64))), (.long (if (mo - (cn.toInt64)) < m1 then m1 else (m1 + (cn.toInt64))))]))
    refine own_up ?_ fun t k => XS.lcmp X88.here hx rfl (hb hby at_145) rfl k
    show own_G p.tables e below s _ _ _ (T88.setTop (mkF m 146 #[.val (.long q1), .second, .val (.long q2), .second, .val (.long q3), .second, .val (.long q4), .second, .val (.int p5), .val (.int p6), .val (.long mo), .second, .val (.long m1), .second, .val (.long q4), .second, .val (.int cn), .val (.ref b60), .val (.int (if (mo - (cn.toInt64)) < m1 then (0 : Int32) else (1 : Int32))), .val (.ref bd81), .val (.int (1 : Int32)), .val (.long (m1 + (cn.toInt64))), .second] [(.int (lcmpW (if (mo - (cn.toInt64)) < m1 then m1 else (m1 + (cn.toInt64))) (m1 + (cn.toInt64))))]))
    refine own_up ?_ fun t k => XS.ifNo X88.here hx rfl (hb hby at_146) rfl ((if0 _ _).trans (teq ((lw_eq _ _).mpr (if_neg (own_nlt (own_m1 h_mo h_r0 h_m1) h_cn hc104_84) : ((if (mo - (cn.toInt64)) < m1 then m1 else (m1 + (cn.toInt64))) = (m1 + (cn.toInt64)))))).2) k
    show own_G p.tables e below s _ _ _ (T88.setTop (mkF m 149 #[.val (.long q1), .second, .val (.long q2), .second, .val (.long q3), .second, .val (.long q4), .second, .val (.int p5), .val (.int p6), .val (.long mo), .second, .val (.long m1), .second, .val (.long q4), .second, .val (.int cn), .val (.ref b60), .val (.int (if (mo - (cn.toInt64)) < m1 then (0 : Int32) else (1 : Int32))), .val (.ref bd81), .val (.int (1 : Int32)), .val (.long (m1 + (cn.toInt64))), .second] []))
    refine own_up ?_ fun t k => XS.aload X88.here hx rfl (hb hby at_149) rfl rfl k
    show own_G p.tables e below s _ _ _ (T88.setTop (mkF m 151 #[.val (.long q1), .second, .val (.long q2), .second, .val (.long q3), .second, .val (.long q4), .second, .val (.int p5), .val (.int p6), .val (.long mo), .second, .val (.long m1), .second, .val (.long q4), .second, .val (.int cn), .val (.ref b60), .val (.int (if (mo - (cn.toInt64)) < m1 then (0 : Int32) else (1 : Int32))), .val (.ref bd81), .val (.int (1 : Int32)), .val (.long (m1 + (cn.toInt64))), .second] [(.ref bd81)]))
    obtain ⟨cq89, kq89, q89a, q89b, q89c⟩ := isOf hZ e88 Eb81
    obtain ⟨_, _, ⟨T89, L89, k89, n89⟩, -, X89, ⟨Lc89, hQ89, l89, y89, z89⟩, st89⟩ := X88.virtualBack hx (y := (⟨"com/example/eventweir/eventweir/Cascade$Done", "inserted", "()J"⟩ : MethodName)) (z := (⟨"com/example/eventweir/eventweir/Cascade$Done", "inserted", "()J"⟩ : MethodName)) hown (mvT hZ (hw _ (List.mem_of_getElem? (i := 70) rfl))) (mvT hZ (hw _ (List.mem_of_getElem? (i := 44) rfl))) (notFace_of_selects (args := #[]) (mvT hZ (hw _ (List.mem_of_getElem? (i := 46) rfl)))) (mvT hZ (hw _ (List.mem_of_getElem? (i := 46) rfl))) (mvT hZ (hw _ (List.mem_of_getElem? (i := 45) rfl))) (by decide) (backOf (W := 0) (rm8 l Z a0 hw [] bd81 q4 T81.heap n0 Zs83 Fi81) hZ (hw _ (List.mem_of_getElem? (i := 47) rfl)) (hw _ (List.mem_of_getElem? (i := 24) rfl)) (by decide) (by decide)) q89a q89c (g := (mkF m 151 #[.val (.long q1), .second, .val (.long q2), .second, .val (.long q3), .second, .val (.long q4), .second, .val (.int p5), .val (.int p6), .val (.long mo), .second, .val (.long m1), .second, .val (.long q4), .second, .val (.int cn), .val (.ref b60), .val (.int (if (mo - (cn.toInt64)) < m1 then (0 : Int32) else (1 : Int32))), .val (.ref bd81), .val (.int (1 : Int32)), .val (.long (m1 + (cn.toInt64))), .second] [(.ref bd81)])) rfl (by rw [hml]; rfl) (Steps.refl _) (argsL := []) (rest := []) (lenOf own_pd1 rfl) rfl (by show 2 * 0 + _ ≤ _; exact Nat.le_of_eq rfl) (hb hby at_151) (fun _ _ => ⟨rfl, e88, (by decide : 3 + 0 ≤ _), (by decide : 8 + 0 ≤ _)⟩)
    dsimp only [Pt.U, Pt.locs, Pt.cells, Pt.slots] at X89 l89 y89 z89 st89 hQ89
    subst l89 y89 z89
    obtain ⟨rfl, Nq89, e89⟩ := hQ89
    have N89 := Fr.app N88 Nq89
    refine own_up ?_ (fun t k => st89.trans k)
    show own_G p.tables e below s _ _ _ (T89.setTop (mkF m 154 #[.val (.long q1), .second, .val (.long q2), .second, .val (.long q3), .second, .val (.long q4), .second, .val (.int p5), .val (.int p6), .val (.long mo), .second, .val (.long m1), .second, .val (.long q4), .second, .val (.int cn), .val (.ref b60), .val (.int (if (mo - (cn.toInt64)) < m1 then (0 : Int32) else (1 : Int32))), .val (.ref bd81), .val (.int (1 : Int32)), .val (.long (m1 + (cn.toInt64))), .second] [(.long q4)]))
    refine own_up ?_ fun t k => XS.lload X89.here hx rfl (hb hby at_154) rfl k
    show own_G p.tables e below s _ _ _ (T89.setTop (mkF m 156 #[.val (.long q1), .second, .val (.long q2), .second, .val (.long q3), .second, .val (.long q4), .second, .val (.int p5), .val (.int p6), .val (.long mo), .second, .val (.long m1), .second, .val (.long q4), .second, .val (.int cn), .val (.ref b60), .val (.int (if (mo - (cn.toInt64)) < m1 then (0 : Int32) else (1 : Int32))), .val (.ref bd81), .val (.int (1 : Int32)), .val (.long (m1 + (cn.toInt64))), .second] [(.long q4), (.long q4)]))
    refine own_up ?_ fun t k => XS.lcmp X89.here hx rfl (hb hby at_156) rfl k
    show own_G p.tables e below s _ _ _ (T89.setTop (mkF m 157 #[.val (.long q1), .second, .val (.long q2), .second, .val (.long q3), .second, .val (.long q4), .second, .val (.int p5), .val (.int p6), .val (.long mo), .second, .val (.long m1), .second, .val (.long q4), .second, .val (.int cn), .val (.ref b60), .val (.int (if (mo - (cn.toInt64)) < m1 then (0 : Int32) else (1 : Int32))), .val (.ref bd81), .val (.int (1 : Int32)), .val (.long (m1 + (cn.toInt64))), .second] [(.int (lcmpW q4 q4))]))
    refine own_up ?_ fun t k => XS.ifNo X89.here hx rfl (hb hby at_157) rfl ((if0 _ _).trans (teq ((lw_eq _ _).mpr (rfl : (q4 = q4)))).2) k
    show own_G p.tables e below s _ _ _ (T89.setTop (mkF m 160 #[.val (.long q1), .second, .val (.long q2), .second, .val (.long q3), .second, .val (.long q4), .second, .val (.int p5), .val (.int p6), .val (.long mo), .second, .val (.long m1), .second, .val (.long q4), .second, .val (.int cn), .val (.ref b60), .val (.int (if (mo - (cn.toInt64)) < m1 then (0 : Int32) else (1 : Int32))), .val (.ref bd81), .val (.int (1 : Int32)), .val (.long (m1 + (cn.toInt64))), .second] []))
    refine own_up ?_ fun t k => XS.aload X89.here hx rfl (hb hby at_160) rfl rfl k
    show own_G p.tables e below s _ _ _ (T89.setTop (mkF m 162 #[.val (.long q1), .second, .val (.long q2), .second, .val (.long q3), .second, .val (.long q4), .second, .val (.int p5), .val (.int p6), .val (.long mo), .second, .val (.long m1), .second, .val (.long q4), .second, .val (.int cn), .val (.ref b60), .val (.int (if (mo - (cn.toInt64)) < m1 then (0 : Int32) else (1 : Int32))), .val (.ref bd81), .val (.int (1 : Int32)), .val (.long (m1 + (cn.toInt64))), .second] [(.ref b60)]))
    obtain ⟨cq90, kq90, q90a, q90b, q90c⟩ := isOf hZ e89 A60_c82
    obtain ⟨_, _, ⟨T90, L90, k90, n90⟩, -, X90, ⟨Lc90, hQ90, l90, y90, z90⟩, st90⟩ := X89.virtualBack hx (y := (⟨"com/example/eventweir/eventweir/Cascade", "mostMatches", "()J"⟩ : MethodName)) (z := (⟨"com/example/eventweir/eventweir/Cascade", "mostMatches", "()J"⟩ : MethodName)) hown (mvT hZ (hw _ (List.mem_of_getElem? (i := 71) rfl))) (mvT hZ (hw _ (List.mem_of_getElem? (i := 72) rfl))) (notFace_of_selects (args := #[]) (mvT hZ (hw _ (List.mem_of_getElem? (i := 74) rfl)))) (mvT hZ (hw _ (List.mem_of_getElem? (i := 74) rfl))) (mvT hZ (hw _ (List.mem_of_getElem? (i := 73) rfl))) (by decide) (backOf (W := 0) (rm12 l Z a0 hw [] b60 mo T81.heap n0 Zs83 Fq78_0_c82) hZ (hw _ (List.mem_of_getElem? (i := 75) rfl)) (hw _ (List.mem_of_getElem? (i := 11) rfl)) (by decide) (by decide)) q90a q90c (g := (mkF m 162 #[.val (.long q1), .second, .val (.long q2), .second, .val (.long q3), .second, .val (.long q4), .second, .val (.int p5), .val (.int p6), .val (.long mo), .second, .val (.long m1), .second, .val (.long q4), .second, .val (.int cn), .val (.ref b60), .val (.int (if (mo - (cn.toInt64)) < m1 then (0 : Int32) else (1 : Int32))), .val (.ref bd81), .val (.int (1 : Int32)), .val (.long (m1 + (cn.toInt64))), .second] [(.ref b60)])) rfl (by rw [hml]; rfl) (Steps.refl _) (argsL := []) (rest := []) (lenOf own_pd1 rfl) rfl (by show 2 * 0 + _ ≤ _; exact Nat.le_of_eq rfl) (hb hby at_162) (fun _ _ => ⟨rfl, e89, (by decide : 3 + 0 ≤ _), (by decide : 8 + 0 ≤ _)⟩)
    dsimp only [Pt.U, Pt.locs, Pt.cells, Pt.slots] at X90 l90 y90 z90 st90 hQ90
    subst l90 y90 z90
    obtain ⟨rfl, Nq90, e90⟩ := hQ90
    have N90 := Fr.app N89 Nq90
    refine own_up ?_ (fun t k => st90.trans k)
    show own_G p.tables e below s _ _ _ (T90.setTop (mkF m 165 #[.val (.long q1), .second, .val (.long q2), .second, .val (.long q3), .second, .val (.long q4), .second, .val (.int p5), .val (.int p6), .val (.long mo), .second, .val (.long m1), .second, .val (.long q4), .second, .val (.int cn), .val (.ref b60), .val (.int (if (mo - (cn.toInt64)) < m1 then (0 : Int32) else (1 : Int32))), .val (.ref bd81), .val (.int (1 : Int32)), .val (.long (m1 + (cn.toInt64))), .second] [(.long mo)]))
    refine own_up ?_ fun t k => XS.lload X90.here hx rfl (hb hby at_165) rfl k
    show own_G p.tables e below s _ _ _ (T90.setTop (mkF m 167 #[.val (.long q1), .second, .val (.long q2), .second, .val (.long q3), .second, .val (.long q4), .second, .val (.int p5), .val (.int p6), .val (.long mo), .second, .val (.long m1), .second, .val (.long q4), .second, .val (.int cn), .val (.ref b60), .val (.int (if (mo - (cn.toInt64)) < m1 then (0 : Int32) else (1 : Int32))), .val (.ref bd81), .val (.int (1 : Int32)), .val (.long (m1 + (cn.toInt64))), .second] [(.long mo), (.long mo)]))
    refine own_up ?_ fun t k => XS.lcmp X90.here hx rfl (hb hby at_167) rfl k
    show own_G p.tables e below s _ _ _ (T90.setTop (mkF m 168 #[.val (.long q1), .second, .val (.long q2), .second, .val (.long q3), .second, .val (.long q4), .second, .val (.int p5), .val (.int p6), .val (.long mo), .second, .val (.long m1), .second, .val (.long q4), .second, .val (.int cn), .val (.ref b60), .val (.int (if (mo - (cn.toInt64)) < m1 then (0 : Int32) else (1 : Int32))), .val (.ref bd81), .val (.int (1 : Int32)), .val (.long (m1 + (cn.toInt64))), .second] [(.int (lcmpW mo mo))]))
    refine own_up ?_ fun t k => XS.ifNo X90.here hx rfl (hb hby at_168) rfl ((if0 _ _).trans (teq ((lw_eq _ _).mpr (rfl : (mo = mo)))).2) k
    show own_G p.tables e below s _ _ _ (T90.setTop (mkF m 171 #[.val (.long q1), .second, .val (.long q2), .second, .val (.long q3), .second, .val (.long q4), .second, .val (.int p5), .val (.int p6), .val (.long mo), .second, .val (.long m1), .second, .val (.long q4), .second, .val (.int cn), .val (.ref b60), .val (.int (if (mo - (cn.toInt64)) < m1 then (0 : Int32) else (1 : Int32))), .val (.ref bd81), .val (.int (1 : Int32)), .val (.long (m1 + (cn.toInt64))), .second] []))
    refine own_up ?_ fun t k => XS.iconst X90.here hx rfl (hb hby at_171) k
    show own_G p.tables e below s _ _ _ (T90.setTop (mkF m 172 #[.val (.long q1), .second, .val (.long q2), .second, .val (.long q3), .second, .val (.long q4), .second, .val (.int p5), .val (.int p6), .val (.long mo), .second, .val (.long m1), .second, .val (.long q4), .second, .val (.int cn), .val (.ref b60), .val (.int (if (mo - (cn.toInt64)) < m1 then (0 : Int32) else (1 : Int32))), .val (.ref bd81), .val (.int (1 : Int32)), .val (.long (m1 + (cn.toInt64))), .second] [(.int (1 : Int32))]))
    refine own_up ?_ fun t k => XS.goto X90.here hx rfl (pc0 := 172) (pc' := 176) rfl (hb hby at_172) (by decide) (by decide) k
    show own_G p.tables e below s _ _ _ (T90.setTop (mkF m 176 #[.val (.long q1), .second, .val (.long q2), .second, .val (.long q3), .second, .val (.long q4), .second, .val (.int p5), .val (.int p6), .val (.long mo), .second, .val (.long m1), .second, .val (.long q4), .second, .val (.int cn), .val (.ref b60), .val (.int (if (mo - (cn.toInt64)) < m1 then (0 : Int32) else (1 : Int32))), .val (.ref bd81), .val (.int (1 : Int32)), .val (.long (m1 + (cn.toInt64))), .second] [(.int (1 : Int32))]))
    exact own_retI X90 hx hlk Bd.returns (by simp) rfl (hb hby at_176) ⟨rfl, N90⟩ (by decide) (by decide)
set_option maxRecDepth 65536 in
set_option maxHeartbeats 40000000 in
theorem comes_1 {Post : Tables → Env → Array Value → State → Outcome → State → Prop} (hpost : ∀ tb e args s v u, (limb_1_1.after args s (.returned v) u = true ∧ limb_1_2.after args s (.returned v) u = true ∧ True) → FrameEnd s (.returned v) u (Jvm.fieldLocs frame_1_writes args s ++ Jvm.arrayLocs frame_1_arrays args s ++ Jvm.staticLocs frame_1_statics s) 16 128 → Post tb e args s (.returned v) u) :
    ArmFor flags0 classFile x code maxLocals ret World_1 tables_1 room_1 Calls_1 rest_1 Pre_1 Post := by
  intro l hfl _ _ p e ha hc hk s m args below hf hA hF happ hP
  obtain ⟨hcalls, hrest, hpre⟩ := hP
  obtain ⟨-, -, -, hnamed, -, -, -, hat⟩ := (Spec.applies_iff hf).mp happ
  obtain ⟨hg, hn⟩ := and_e (Cond.before_iff.mp (show (Jvm.Cond.and given_1 narrow_1).before args s = true from hpre))
  obtain ⟨gc, g0⟩ := and_e hg
  obtain ⟨gv0, g1⟩ := and_e g0
  obtain ⟨gv1, g2⟩ := and_e g1
  obtain ⟨gv2, g3⟩ := and_e g2
  obtain ⟨gv3, g4⟩ := and_e g3
  obtain ⟨gv4, g5⟩ := and_e g4
  obtain ⟨w0, w1, w2, w3, w4, w5, rfl⟩ : ∃ w0 w1 w2 w3 w4 w5 : Value, args = #[w0, w1, w2, w3, w4, w5] := by
    have hs : args.size = 6 := by simpa [Cond.value, given_1] using gc
    obtain ⟨L⟩ := args
    match L, hs with
    | [w0, w1, w2, w3, w4, w5], _ => exact ⟨w0, w1, w2, w3, w4, w5, rfl⟩
  have hw := fun d (hd : d ∈ tables_1) => atoms_spec (ws := Jvm.Cond.code x code maxLocals ret :: tables_1) hat d (List.mem_cons_of_mem _ hd)
  have hfit : Fit s := fun {y c} hc i hi => by
    obtain ⟨ha, rfl⟩ := Array.getElem?_eq_some_iff.mp hc
    have q := List.all_eq_true.mp ((Array.all_eq_true_iff_forall_mem.mp hF) _ (Array.getElem_mem ha)) i (List.mem_range.mpr hi)
    simpa [Array.getElem?_eq_getElem hi] using q
  obtain ⟨i0, ei0⟩ := isL_v gv0
  obtain rfl : w0 = (.long i0) := Option.some.inj ei0
  obtain ⟨i1, ei1⟩ := isL_v gv1
  obtain rfl : w1 = (.long i1) := Option.some.inj ei1
  obtain ⟨i2, ei2⟩ := isL_v gv2
  obtain rfl : w2 = (.long i2) := Option.some.inj ei2
  obtain ⟨i3, ei3⟩ := isL_v gv3
  obtain rfl : w3 = (.long i3) := Option.some.inj ei3
  obtain ⟨i4, ei4⟩ := is_v gv4
  obtain rfl : w4 = (.int i4) := Option.some.inj ei4
  obtain ⟨i5, ei5⟩ := is_v g5
  obtain rfl : w5 = (.int i5) := Option.some.inj ei5
  obtain ⟨n, o, h1, h2, h3, _, L, rfl, ⟨rfl, N⟩, hq⟩ := rm0 l s _ hw tables_1 i0 i1 i2 i3 i4 i5  s.heap s.heap.size (Nat.le_refl _)  p e ha hc hk s m _ below hf ((Spec.applies_iff_loose hf).mp happ).1 ⟨rfl, State.Warmed39.refl s, rfl⟩ trivial
  refine ⟨n, _, h1, h2, h3, hpost _ _ _ _ _ _ ⟨Cond.after_iff.mpr rfl, Cond.after_iff.mpr (eq_i res_at (Term.int_eval (1)) rfl), trivial⟩ ⟨hq.1, hq.2.1, (hq.2.2.sift fun y hy => Or.inr (N y hy)).mono (by decide) (by decide)⟩⟩
theorem main_1_1 : Claimed_1_1 := comes_1 fun _ _ _ _ _ _ h hF => ⟨h.1, hF⟩
theorem main_1_2 : Claimed_1_2 := comes_1 fun _ _ _ _ _ _ h hF => ⟨h.2.1, hF⟩
end Jvm.Pilot.@@N@@
namespace Jvm.Pilot.@@N@@
open Jvm Jvm.ClassFile Sem Op Lib Jvm.Free Jvm.Stand Jvm.Pilot.@@N@@.Jvm.D
/-! MADE BY PROGRAM (witnessworld.py) out of the Statement's table words and the real class files: 12 classes; the members and pool entries that the words name. The judged class is class 1, her method 1. -/
namespace start1
open Jvm.ClassFile
def u (s : String) : CpInfo := .utf8 (stringToUtf16 s)
/-- a pool by its gaps: so many unusable entries, then the entry; so many at the end -/
def gap : Nat → List CpInfo → List CpInfo
  | 0, r => r
  | n + 1, r => .unusable :: gap n r
def poolList (es : List (Nat × CpInfo)) (last : Nat) : List CpInfo := es.foldr (fun e r => gap e.1 (e.2 :: r)) (gap last [])
def pool (es : List (Nat × CpInfo)) (last : Nat) : Array CpInfo := ⟨poolList es last⟩
def fileOf (pool : Array CpInfo) (this : Nat) (attrs : Array Attribute := #[]) (ms : Array MethodInfo := #[]) (fl : Nat := 33) (sup : Nat := 0) (ifs : Array Nat := #[]) (fds : Array FieldInfo := #[]) : ClassFile where
  minorVersion := 0
  majorVersion := 65
  constantPool := pool
  accessFlags := fl
  thisClass := this
  superClass := sup
  interfaces := ifs
  fields := fds
  methods := ms
  attributes := attrs
def plain (name : String) (sup : Option ClassId) : Class where
  name := name
  kind := .ordinary
  loader := none
  accessFlags := 33
  super := sup
  interfaces := #[]
  cf := none
  fields := #[]
  methods := #[]
  instanceTypes := #[]
  staticTypes := #[]
  resolved := #[]
  callSites := []
  init := .initialized
  statics := none
  mirror := none

def pool0 : Array CpInfo := pool [(5, u "<init>"), (0, u "()V"), (1, .class_ 10), (1, u "java/lang/Object")] 113

def k0c0 : Code := { maxStack := 0, maxLocals := 1, code := object_method_1_code, exceptionTable := #[], attributes := #[] }
def k0m0 : Method := { name := "<init>", desc := "()V", sig := { parameters := [], returnType := none }, accessFlags := 1, code := some k0c0 }
/-- java/lang/Object -/
def k0 : Class := { plain "java/lang/Object" none with
  accessFlags := 33
  interfaces := #[]
  cf := some (fileOf pool0 8 #[] #[{ accessFlags := 1, nameIndex := 5, descriptorIndex := 6, attributes := #[] }] 33 0 #[] #[])
  fields := #[]
  methods := #[k0m0]
  instanceTypes := #[]
  staticTypes := #[]
  resolved := Array.replicate 124 none
  statics := none }

def pool1 : Array CpInfo := pool [(2, .class_ 4), (1, u "java/lang/Object"), (0, u "<init>"), (0, u "()V"), (2, .long 9223372036854775807), (1, .methodref 12 13), (0, .class_ 14), (0, .nameAndType 15 16), (0, u "java/lang/Math"), (0, u "max"), (0, u "(JJ)J"), (0, .integer 2147483647), (0, .methodref 12 19), (0, .nameAndType 15 20), (0, u "(II)I"), (0, .class_ 22), (0, u "com/example/eventweir/eventweir/Cascade"), (0, .methodref 21 24), (0, .nameAndType 5 25), (0, u "(JJ)V"), (0, .class_ 27), (0, u "com/example/eventweir/eventweir/Cascade$Done"), (0, .methodref 26 24), (0, .methodref 21 30), (0, .nameAndType 31 32), (0, u "reset"), (0, u "(Lcom/example/eventweir/eventweir/Cascade$Done;)V"), (0, .methodref 21 34), (0, .nameAndType 35 36), (0, u "handOn"), (0, u "(I)Z"), (0, .methodref 21 38), (0, .nameAndType 39 40), (0, u "done"), (0, u "()Lcom/example/eventweir/eventweir/Cascade$Done;"), (0, .methodref 26 42), (0, .nameAndType 43 44), (0, u "matches"), (0, u "()J"), (0, .methodref 26 46), (0, .nameAndType 47 44), (0, u "inserted"), (0, .methodref 21 49), (0, .nameAndType 50 44), (0, u "mostMatches"), (0, .class_ 52), (0, u "com/example/eventweir/eventweir/CascadeHandOnPinLaw"), (2, u "law"), (0, u "(JJJJII)Z")] 5

def k1m0 : Method := { name := "<init>", desc := "()V", sig := { parameters := [], returnType := none }, accessFlags := 1, code := none }
def k1c1 : Code := { maxStack := 7, maxLocals := 23, code := code, exceptionTable := #[], attributes := #[] }
def k1m1 : Method := { name := "law", desc := "(JJJJII)Z", sig := { parameters := [.long, .long, .long, .long, .int, .int], returnType := some .boolean }, accessFlags := 9, code := some k1c1 }
/-- com/example/eventweir/eventweir/CascadeHandOnPinLaw -/
def k1 : Class := { plain "com/example/eventweir/eventweir/CascadeHandOnPinLaw" (some 0) with
  accessFlags := 49
  interfaces := #[]
  cf := some (fileOf pool1 51 #[] #[{ accessFlags := 1, nameIndex := 5, descriptorIndex := 6, attributes := #[] }, { accessFlags := 9, nameIndex := 55, descriptorIndex := 56, attributes := #[] }] 49 2 #[] #[])
  fields := #[]
  methods := #[k1m0, k1m1]
  instanceTypes := #[]
  staticTypes := #[]
  resolved := Array.replicate 62 none
  statics := none }

def pool2 : Array CpInfo := pool [(1, .class_ 2), (0, u "java/lang/Math"), (1, .class_ 6), (1, u "java/lang/Object"), (0, u "<init>"), (0, u "()V"), (89, .class_ 100), (1, u "java/lang/Math$RandomNumberGeneratorHolder"), (20, u "(JJ)J"), (50, u "negativeZeroFloatBits"), (0, u "J"), (2, u "negativeZeroDoubleBits"), (21, u "max"), (46, u "$assertionsDisabled"), (0, u "Z"), (88, u "(II)I"), (2, u "twoToTheDoubleScaleDown"), (0, u "D"), (4, u "twoToTheDoubleScaleUp"), (9, u "E"), (3, u "PI"), (2, u "TAU"), (2, u "DEGREES_TO_RADIANS"), (0, u "RADIANS_TO_DEGREES")] 94

def k2m0 : Method := { name := "<init>", desc := "()V", sig := { parameters := [], returnType := none }, accessFlags := 2, code := none }
def k2c1 : Code := { maxStack := 2, maxLocals := 2, code := jdk_29_method_65_code, exceptionTable := #[], attributes := #[] }
def k2m1 : Method := { name := "max", desc := "(II)I", sig := { parameters := [.int, .int], returnType := some .int }, accessFlags := 9, code := some k2c1 }
def k2c2 : Code := { maxStack := 4, maxLocals := 4, code := jdk_29_method_66_code, exceptionTable := #[], attributes := #[] }
def k2m2 : Method := { name := "max", desc := "(JJ)J", sig := { parameters := [.long, .long], returnType := some .long }, accessFlags := 9, code := some k2c2 }
/-- java/lang/Math -/
def k2 : Class := { plain "java/lang/Math" (some 0) with
  accessFlags := 49
  interfaces := #[]
  cf := some (fileOf pool2 1 #[.nestMembers #[98]] #[{ accessFlags := 2, nameIndex := 7, descriptorIndex := 8, attributes := #[] }, { accessFlags := 9, nameIndex := 198, descriptorIndex := 335, attributes := #[] }, { accessFlags := 9, nameIndex := 198, descriptorIndex := 121, attributes := #[] }] 49 4 #[] #[{ accessFlags := 25, nameIndex := 354, descriptorIndex := 339, attributes := #[] }, { accessFlags := 25, nameIndex := 358, descriptorIndex := 339, attributes := #[] }, { accessFlags := 25, nameIndex := 361, descriptorIndex := 339, attributes := #[] }, { accessFlags := 26, nameIndex := 364, descriptorIndex := 339, attributes := #[] }, { accessFlags := 26, nameIndex := 365, descriptorIndex := 339, attributes := #[] }, { accessFlags := 26, nameIndex := 172, descriptorIndex := 173, attributes := #[] }, { accessFlags := 26, nameIndex := 176, descriptorIndex := 173, attributes := #[] }, { accessFlags := 8, nameIndex := 344, descriptorIndex := 339, attributes := #[] }, { accessFlags := 8, nameIndex := 338, descriptorIndex := 339, attributes := #[] }, { accessFlags := 4120, nameIndex := 245, descriptorIndex := 246, attributes := #[] }])
  fields := #[{ name := "E", type := .double, accessFlags := 25, slot := 0, constantValue := 0 }, { name := "PI", type := .double, accessFlags := 25, slot := 1, constantValue := 0 }, { name := "TAU", type := .double, accessFlags := 25, slot := 2, constantValue := 0 }, { name := "DEGREES_TO_RADIANS", type := .double, accessFlags := 26, slot := 3, constantValue := 0 }, { name := "RADIANS_TO_DEGREES", type := .double, accessFlags := 26, slot := 4, constantValue := 0 }, { name := "negativeZeroFloatBits", type := .long, accessFlags := 26, slot := 5, constantValue := 0 }, { name := "negativeZeroDoubleBits", type := .long, accessFlags := 26, slot := 6, constantValue := 0 }, { name := "twoToTheDoubleScaleUp", type := .double, accessFlags := 8, slot := 7, constantValue := 0 }, { name := "twoToTheDoubleScaleDown", type := .double, accessFlags := 8, slot := 8, constantValue := 0 }, { name := "$assertionsDisabled", type := .boolean, accessFlags := 4120, slot := 9, constantValue := 0 }]
  methods := #[k2m0, k2m1, k2m2]
  instanceTypes := #[]
  staticTypes := #[.double, .double, .double, .double, .double, .long, .long, .double, .double, .boolean]
  resolved := Array.replicate 460 none
  statics := none }

def pool3 : Array CpInfo := pool [(1, .methodref 2 3), (0, .class_ 4), (0, .nameAndType 5 6), (0, u "java/lang/Object"), (0, u "<init>"), (0, u "()V"), (0, .fieldref 8 9), (0, .class_ 10), (0, .nameAndType 11 12), (0, u "com/example/eventweir/eventweir/Cascade"), (0, u "mostInserted"), (0, u "J"), (0, .fieldref 8 14), (0, .nameAndType 15 12), (0, u "mostMatches"), (0, .class_ 17), (0, u "com/example/eventweir/eventweir/Cascade$Done"), (0, .fieldref 8 19), (0, .nameAndType 20 12), (0, u "inserted"), (0, .fieldref 8 22), (0, .nameAndType 23 12), (0, u "matches"), (0, .methodref 16 25), (0, .nameAndType 5 26), (0, u "(JJ)V"), (0, .methodref 16 28), (0, .nameAndType 20 29), (0, u "()J"), (0, .methodref 16 31), (0, .nameAndType 23 29), (2, u "done"), (0, u "()Lcom/example/eventweir/eventweir/Cascade$Done;"), (3, u "handOn"), (0, u "(I)Z"), (1, u "reset"), (0, u "(Lcom/example/eventweir/eventweir/Cascade$Done;)V")] 5

def k3c0 : Code := { maxStack := 3, maxLocals := 5, code := prog_22_method_1_code, exceptionTable := #[], attributes := #[] }
def k3m0 : Method := { name := "<init>", desc := "(JJ)V", sig := { parameters := [.long, .long], returnType := none }, accessFlags := 0, code := some k3c0 }
def k3c1 : Code := { maxStack := 2, maxLocals := 1, code := prog_22_method_3_code, exceptionTable := #[], attributes := #[] }
def k3m1 : Method := { name := "mostMatches", desc := "()J", sig := { parameters := [], returnType := some .long }, accessFlags := 0, code := some k3c1 }
def k3c2 : Code := { maxStack := 6, maxLocals := 1, code := prog_22_method_4_code, exceptionTable := #[], attributes := #[] }
def k3m2 : Method := { name := "done", desc := "()Lcom/example/eventweir/eventweir/Cascade$Done;", sig := { parameters := [], returnType := some (.object "com/example/eventweir/eventweir/Cascade$Done") }, accessFlags := 0, code := some k3c2 }
def k3c3 : Code := { maxStack := 6, maxLocals := 2, code := prog_22_method_6_code, exceptionTable := #[], attributes := #[] }
def k3m3 : Method := { name := "handOn", desc := "(I)Z", sig := { parameters := [.int], returnType := some .boolean }, accessFlags := 0, code := some k3c3 }
def k3c4 : Code := { maxStack := 3, maxLocals := 2, code := prog_22_method_8_code, exceptionTable := #[], attributes := #[] }
def k3m4 : Method := { name := "reset", desc := "(Lcom/example/eventweir/eventweir/Cascade$Done;)V", sig := { parameters := [(.object "com/example/eventweir/eventweir/Cascade$Done")], returnType := none }, accessFlags := 0, code := some k3c4 }
/-- com/example/eventweir/eventweir/Cascade -/
def k3 : Class := { plain "com/example/eventweir/eventweir/Cascade" (some 0) with
  accessFlags := 48
  interfaces := #[]
  cf := some (fileOf pool3 8 #[.nestMembers #[16]] #[{ accessFlags := 0, nameIndex := 5, descriptorIndex := 26, attributes := #[] }, { accessFlags := 0, nameIndex := 15, descriptorIndex := 29, attributes := #[] }, { accessFlags := 0, nameIndex := 34, descriptorIndex := 35, attributes := #[] }, { accessFlags := 0, nameIndex := 39, descriptorIndex := 40, attributes := #[] }, { accessFlags := 0, nameIndex := 42, descriptorIndex := 43, attributes := #[] }] 48 2 #[] #[{ accessFlags := 18, nameIndex := 11, descriptorIndex := 12, attributes := #[] }, { accessFlags := 18, nameIndex := 15, descriptorIndex := 12, attributes := #[] }, { accessFlags := 2, nameIndex := 20, descriptorIndex := 12, attributes := #[] }, { accessFlags := 2, nameIndex := 23, descriptorIndex := 12, attributes := #[] }])
  fields := #[{ name := "mostInserted", type := .long, accessFlags := 18, slot := 0, constantValue := 0 }, { name := "mostMatches", type := .long, accessFlags := 18, slot := 1, constantValue := 0 }, { name := "inserted", type := .long, accessFlags := 2, slot := 2, constantValue := 0 }, { name := "matches", type := .long, accessFlags := 2, slot := 3, constantValue := 0 }]
  methods := #[k3m0, k3m1, k3m2, k3m3, k3m4]
  instanceTypes := #[.long, .long, .long, .long]
  staticTypes := #[]
  resolved := Array.replicate 49 none
  statics := none }

def pool4 : Array CpInfo := pool [(1, .methodref 2 3), (0, .class_ 4), (0, .nameAndType 5 6), (0, u "java/lang/Object"), (0, u "<init>"), (0, u "()V"), (0, .class_ 8), (0, u "java/lang/Record")] 13

def k4c0 : Code := { maxStack := 1, maxLocals := 1, code := jdk_30_method_1_code, exceptionTable := #[], attributes := #[] }
def k4m0 : Method := { name := "<init>", desc := "()V", sig := { parameters := [], returnType := none }, accessFlags := 4, code := some k4c0 }
/-- java/lang/Record -/
def k4 : Class := { plain "java/lang/Record" (some 0) with
  accessFlags := 1057
  interfaces := #[]
  cf := some (fileOf pool4 7 #[] #[{ accessFlags := 4, nameIndex := 5, descriptorIndex := 6, attributes := #[] }] 1057 2 #[] #[])
  fields := #[]
  methods := #[k4m0]
  instanceTypes := #[]
  staticTypes := #[]
  resolved := Array.replicate 22 none
  statics := none }

def pool5 : Array CpInfo := pool [(1, .methodref 2 3), (0, .class_ 4), (0, .nameAndType 5 6), (0, u "java/lang/Record"), (0, u "<init>"), (0, u "()V"), (0, .fieldref 8 9), (0, .class_ 10), (0, .nameAndType 11 12), (0, u "com/example/eventweir/eventweir/Cascade$Done"), (0, u "inserted"), (0, u "J"), (0, .fieldref 8 14), (0, .nameAndType 15 12), (0, u "matches"), (12, u "(JJ)V"), (6, u "()J"), (3, .class_ 40), (0, u "com/example/eventweir/eventweir/Cascade")] 20

def k5c0 : Code := { maxStack := 3, maxLocals := 5, code := prog_23_method_1_code, exceptionTable := #[], attributes := #[] }
def k5m0 : Method := { name := "<init>", desc := "(JJ)V", sig := { parameters := [.long, .long], returnType := none }, accessFlags := 0, code := some k5c0 }
def k5c1 : Code := { maxStack := 2, maxLocals := 1, code := prog_23_method_5_code, exceptionTable := #[], attributes := #[] }
def k5m1 : Method := { name := "inserted", desc := "()J", sig := { parameters := [], returnType := some .long }, accessFlags := 1, code := some k5c1 }
def k5c2 : Code := { maxStack := 2, maxLocals := 1, code := prog_23_method_6_code, exceptionTable := #[], attributes := #[] }
def k5m2 : Method := { name := "matches", desc := "()J", sig := { parameters := [], returnType := some .long }, accessFlags := 1, code := some k5c2 }
/-- com/example/eventweir/eventweir/Cascade$Done -/
def k5 : Class := { plain "com/example/eventweir/eventweir/Cascade$Done" (some 4) with
  accessFlags := 48
  interfaces := #[]
  cf := some (fileOf pool5 8 #[.nestHost 39] #[{ accessFlags := 0, nameIndex := 5, descriptorIndex := 28, attributes := #[] }, { accessFlags := 1, nameIndex := 11, descriptorIndex := 35, attributes := #[] }, { accessFlags := 1, nameIndex := 15, descriptorIndex := 35, attributes := #[] }] 48 2 #[] #[{ accessFlags := 18, nameIndex := 11, descriptorIndex := 12, attributes := #[] }, { accessFlags := 18, nameIndex := 15, descriptorIndex := 12, attributes := #[] }])
  fields := #[{ name := "inserted", type := .long, accessFlags := 18, slot := 0, constantValue := 0 }, { name := "matches", type := .long, accessFlags := 18, slot := 1, constantValue := 0 }]
  methods := #[k5m0, k5m1, k5m2]
  instanceTypes := #[.long, .long]
  staticTypes := #[]
  resolved := Array.replicate 61 none
  statics := none }

def pool6 : Array CpInfo := pool [(1, u "java/lang/Cloneable"), (0, .class_ 1), (0, u "java/lang/Object"), (0, .class_ 3)] 3

/-- java/lang/Cloneable -/
def k6 : Class := { plain "java/lang/Cloneable" (some 0) with
  accessFlags := 1537
  interfaces := #[]
  cf := some (fileOf pool6 2 #[] #[] 1537 4 #[] #[])
  fields := #[]
  methods := #[]
  instanceTypes := #[]
  staticTypes := #[]
  resolved := Array.replicate 8 none
  statics := none }

def pool7 : Array CpInfo := pool [(1, u "java/io/Serializable"), (0, .class_ 1), (0, u "java/lang/Object"), (0, .class_ 3)] 3

/-- java/io/Serializable -/
def k7 : Class := { plain "java/io/Serializable" (some 0) with
  accessFlags := 1537
  interfaces := #[]
  cf := some (fileOf pool7 2 #[] #[] 1537 4 #[] #[])
  fields := #[]
  methods := #[]
  instanceTypes := #[]
  staticTypes := #[]
  resolved := Array.replicate 8 none
  statics := none }

/-- the primitive byte -/
def k8 : Class := { plain "byte" none with kind := .primitive 'B', accessFlags := 0x411 }
/-- [B -/
def k9 : Class := { plain "[B" (some 0) with kind := .array 8 .byte, interfaces := #[6, 7], accessFlags := 1041 }

/-- the primitive int -/
def k10 : Class := { plain "int" none with kind := .primitive 'I', accessFlags := 0x411 }
/-- [I -/
def k11 : Class := { plain "[I" (some 0) with kind := .array 10 .int, interfaces := #[6, 7], accessFlags := 1041 }

def heap : Heap := #[]
def classes : Array Class := #[k0, k1, k2, k3, k4, k5, k6, k7, k8, k9, k10, k11]
def interned : List (Array UInt16 × Addr) := []
def slotsUsed : Nat := 0
def theMethod : MethodId := ⟨1, 1⟩
def args0 : Array Value := #[.long 5, .long 6, .long 7, .long 8, .int 9, .int 10]
def aboutOver (below : List Frame) : State where
  vm := { classes := classes, interned := interned.toArray }
  heap := heap
  slotsUsed := slotsUsed
  threads := #[{ frames := .invoking theMethod args0 :: below }]
def below0 : List Frame := [.native { method := ⟨0, 0⟩, args := #[] }]
def about1 : State := aboutOver below0
def p0 : Program := .bare "" "" ""
def e0 : Env := launch0.env 0 0 0
theorem w_frames : about1.frames = Frame.invoking theMethod args0 :: below0 := rfl
set_option maxRecDepth 65536 in
theorem w_args : argsFit about1.vm theMethod args0 = true := by decide +kernel
set_option maxRecDepth 65536 in
theorem w_heap : heapFits about1 = true := by decide +kernel
set_option maxRecDepth 65536 in
theorem w_runnable : about1.curStatus? = some .runnable := by decide +kernel
set_option maxRecDepth 65536 in
theorem w_alone : about1.alone = true := by decide +kernel
set_option maxRecDepth 65536 in
theorem w_named : about1.methodNamed? x = some theMethod := by decide +kernel
set_option maxRecDepth 65536 in
theorem w_hears : about1.hears theMethod below0 = true := by decide +kernel
set_option maxRecDepth 65536 in
theorem w_ripe : about1.ripe theMethod args0 below0 = true := by decide +kernel
theorem w_running : about1.status = .running := rfl
set_option maxRecDepth 65536 in
theorem w_room : about1.hasRoom e0.platform room_1 = true :=
  launch0.hasRoom_least _ room_1 (by decide +kernel) (by decide +kernel) (by decide +kernel) (by decide +kernel) (by decide +kernel) (by decide +kernel)
theorem allAtoms_all (ts : List Jvm.Cond) (a : Array Jvm.Value) (st : Jvm.State) : (allAtoms ts).before a st = ts.all (fun c => c.before a st) := by
  induction ts with
  | nil => rfl
  | cons c t ih =>
    show (Jvm.Cond.and c (allAtoms t)).before a st = _
    rw [Jvm.Cond.before_and, ih, List.all_cons]
def words1 : List Jvm.Cond := Jvm.Cond.code x code maxLocals ret :: tables_1
/-- a 'code' word, met by the world's own term for the bytes: nothing is compared byte by byte -/
theorem code_word {y : MethodName} {bytes : ByteArray} {mx : Nat} {rt : Option FieldType} {a : Array Value} {s : State} {m : MethodId} {meth : Method} {c : Code} (h1 : s.methodNamed? y = some m) (h2 : s.vm.method? m = some meth) (h3 : meth.code = some c) (h4 : c.code = bytes)
    (h5 : (c.maxLocals == mx && c.exceptionTable.isEmpty && decide (c.maxStack ≤ mostOperands) && decide (meth.sig.returnType = rt) && !meth.locks && decide (parseMethodDescriptor y.desc = some meth.sig)) = true) : (Jvm.Cond.code y bytes mx rt).before a s = true := by
  simp only [Bool.and_eq_true, beq_iff_eq, Bool.not_eq_true', decide_eq_true_eq] at h5
  obtain ⟨⟨⟨⟨⟨g1, g2⟩, g3⟩, g4⟩, g5⟩, g6⟩ := h5
  simp [Cond.before, Cond.holds, Cond.value, h1, h2, h3, h4, g1, g2, g3, g4, g5, g6]
def isCode : Jvm.Cond → Bool
  | .code _ _ _ _ => true
  | _ => false
theorem all_split {L : List Jvm.Cond} {P : Jvm.Cond → Bool} (h1 : L.all (fun c => isCode c || P c) = true) (h2 : ∀ c ∈ L.filter isCode, P c = true) : L.all P = true := by
  refine List.all_eq_true.mpr fun c hc => ?_
  have h := List.all_eq_true.mp h1 c hc
  rcases Bool.eq_false_or_eq_true (isCode c) with hi | hi
  · exact h2 c (List.mem_filter.mpr ⟨hc, hi⟩)
  · simpa [hi] using h
set_option maxRecDepth 65536 in
theorem w_c0 : (Jvm.Cond.code x code maxLocals ret).before args0 about1 = true := code_word (m := ⟨1, 1⟩) (meth := k1m1) (c := k1c1) (by decide +kernel) rfl rfl rfl (by decide +kernel)
set_option maxRecDepth 65536 in
theorem w_c1 : (Jvm.Cond.code ({ cls := "java/lang/Math", name := "max", desc := "(JJ)J" } : Jvm.MethodName) jdk_29_method_66_code (4 : Nat) (Option.some Jvm.ClassFile.FieldType.long)).before args0 about1 = true := code_word (m := ⟨2, 2⟩) (meth := k2m2) (c := k2c2) (by decide +kernel) rfl rfl rfl (by decide +kernel)
set_option maxRecDepth 65536 in
theorem w_c2 : (Jvm.Cond.code ({ cls := "java/lang/Math", name := "max", desc := "(II)I" } : Jvm.MethodName) jdk_29_method_65_code (2 : Nat) (Option.some Jvm.ClassFile.FieldType.int)).before args0 about1 = true := code_word (m := ⟨2, 1⟩) (meth := k2m1) (c := k2c1) (by decide +kernel) rfl rfl rfl (by decide +kernel)
set_option maxRecDepth 65536 in
theorem w_c3 : (Jvm.Cond.code ({ cls := "com/example/eventweir/eventweir/Cascade", name := "<init>", desc := "(JJ)V" } : Jvm.MethodName) prog_22_method_1_code (5 : Nat) (Option.none : Option Jvm.ClassFile.FieldType)).before args0 about1 = true := code_word (m := ⟨3, 0⟩) (meth := k3m0) (c := k3c0) (by decide +kernel) rfl rfl rfl (by decide +kernel)
set_option maxRecDepth 65536 in
theorem w_c4 : (Jvm.Cond.code ({ cls := "java/lang/Object", name := "<init>", desc := "()V" } : Jvm.MethodName) object_method_1_code (1 : Nat) (Option.none : Option Jvm.ClassFile.FieldType)).before args0 about1 = true := code_word (m := ⟨0, 0⟩) (meth := k0m0) (c := k0c0) (by decide +kernel) rfl rfl rfl (by decide +kernel)
set_option maxRecDepth 65536 in
theorem w_c5 : (Jvm.Cond.code ({ cls := "com/example/eventweir/eventweir/Cascade$Done", name := "<init>", desc := "(JJ)V" } : Jvm.MethodName) prog_23_method_1_code (5 : Nat) (Option.none : Option Jvm.ClassFile.FieldType)).before args0 about1 = true := code_word (m := ⟨5, 0⟩) (meth := k5m0) (c := k5c0) (by decide +kernel) rfl rfl rfl (by decide +kernel)
set_option maxRecDepth 65536 in
theorem w_c6 : (Jvm.Cond.code ({ cls := "java/lang/Record", name := "<init>", desc := "()V" } : Jvm.MethodName) jdk_30_method_1_code (1 : Nat) (Option.none : Option Jvm.ClassFile.FieldType)).before args0 about1 = true := code_word (m := ⟨4, 0⟩) (meth := k4m0) (c := k4c0) (by decide +kernel) rfl rfl rfl (by decide +kernel)
set_option maxRecDepth 65536 in
theorem w_c7 : (Jvm.Cond.code ({ cls := "com/example/eventweir/eventweir/Cascade", name := "reset", desc := "(Lcom/example/eventweir/eventweir/Cascade$Done;)V" } : Jvm.MethodName) prog_22_method_8_code (2 : Nat) (Option.none : Option Jvm.ClassFile.FieldType)).before args0 about1 = true := code_word (m := ⟨3, 4⟩) (meth := k3m4) (c := k3c4) (by decide +kernel) rfl rfl rfl (by decide +kernel)
set_option maxRecDepth 65536 in
theorem w_c8 : (Jvm.Cond.code ({ cls := "com/example/eventweir/eventweir/Cascade$Done", name := "inserted", desc := "()J" } : Jvm.MethodName) prog_23_method_5_code (1 : Nat) (Option.some Jvm.ClassFile.FieldType.long)).before args0 about1 = true := code_word (m := ⟨5, 1⟩) (meth := k5m1) (c := k5c1) (by decide +kernel) rfl rfl rfl (by decide +kernel)
set_option maxRecDepth 65536 in
theorem w_c9 : (Jvm.Cond.code ({ cls := "com/example/eventweir/eventweir/Cascade$Done", name := "matches", desc := "()J" } : Jvm.MethodName) prog_23_method_6_code (1 : Nat) (Option.some Jvm.ClassFile.FieldType.long)).before args0 about1 = true := code_word (m := ⟨5, 2⟩) (meth := k5m2) (c := k5c2) (by decide +kernel) rfl rfl rfl (by decide +kernel)
set_option maxRecDepth 65536 in
theorem w_c10 : (Jvm.Cond.code ({ cls := "com/example/eventweir/eventweir/Cascade", name := "handOn", desc := "(I)Z" } : Jvm.MethodName) prog_22_method_6_code (2 : Nat) (Option.some Jvm.ClassFile.FieldType.boolean)).before args0 about1 = true := code_word (m := ⟨3, 3⟩) (meth := k3m3) (c := k3c3) (by decide +kernel) rfl rfl rfl (by decide +kernel)
set_option maxRecDepth 65536 in
theorem w_c11 : (Jvm.Cond.code ({ cls := "com/example/eventweir/eventweir/Cascade", name := "done", desc := "()Lcom/example/eventweir/eventweir/Cascade$Done;" } : Jvm.MethodName) prog_22_method_4_code (1 : Nat) (Option.some (Jvm.ClassFile.FieldType.object "com/example/eventweir/eventweir/Cascade$Done"))).before args0 about1 = true := code_word (m := ⟨3, 2⟩) (meth := k3m2) (c := k3c2) (by decide +kernel) rfl rfl rfl (by decide +kernel)
set_option maxRecDepth 65536 in
theorem w_c12 : (Jvm.Cond.code ({ cls := "com/example/eventweir/eventweir/Cascade", name := "mostMatches", desc := "()J" } : Jvm.MethodName) prog_22_method_3_code (1 : Nat) (Option.some Jvm.ClassFile.FieldType.long)).before args0 about1 = true := code_word (m := ⟨3, 1⟩) (meth := k3m1) (c := k3c1) (by decide +kernel) rfl rfl rfl (by decide +kernel)
def codes1 : List Jvm.Cond := [Jvm.Cond.code x code maxLocals ret, Jvm.Cond.code ({ cls := "java/lang/Math", name := "max", desc := "(JJ)J" } : Jvm.MethodName) jdk_29_method_66_code (4 : Nat) (Option.some Jvm.ClassFile.FieldType.long), Jvm.Cond.code ({ cls := "java/lang/Math", name := "max", desc := "(II)I" } : Jvm.MethodName) jdk_29_method_65_code (2 : Nat) (Option.some Jvm.ClassFile.FieldType.int), Jvm.Cond.code ({ cls := "com/example/eventweir/eventweir/Cascade", name := "<init>", desc := "(JJ)V" } : Jvm.MethodName) prog_22_method_1_code (5 : Nat) (Option.none : Option Jvm.ClassFile.FieldType), Jvm.Cond.code ({ cls := "java/lang/Object", name := "<init>", desc := "()V" } : Jvm.MethodName) object_method_1_code (1 : Nat) (Option.none : Option Jvm.ClassFile.FieldType), Jvm.Cond.code ({ cls := "com/example/eventweir/eventweir/Cascade$Done", name := "<init>", desc := "(JJ)V" } : Jvm.MethodName) prog_23_method_1_code (5 : Nat) (Option.none : Option Jvm.ClassFile.FieldType), Jvm.Cond.code ({ cls := "java/lang/Record", name := "<init>", desc := "()V" } : Jvm.MethodName) jdk_30_method_1_code (1 : Nat) (Option.none : Option Jvm.ClassFile.FieldType), Jvm.Cond.code ({ cls := "com/example/eventweir/eventweir/Cascade", name := "reset", desc := "(Lcom/example/eventweir/eventweir/Cascade$Done;)V" } : Jvm.MethodName) prog_22_method_8_code (2 : Nat) (Option.none : Option Jvm.ClassFile.FieldType), Jvm.Cond.code ({ cls := "com/example/eventweir/eventweir/Cascade$Done", name := "inserted", desc := "()J" } : Jvm.MethodName) prog_23_method_5_code (1 : Nat) (Option.some Jvm.ClassFile.FieldType.long), Jvm.Cond.code ({ cls := "com/example/eventweir/eventweir/Cascade$Done", name := "matches", desc := "()J" } : Jvm.MethodName) prog_23_method_6_code (1 : Nat) (Option.some Jvm.ClassFile.FieldType.long), Jvm.Cond.code ({ cls := "com/example/eventweir/eventweir/Cascade", name := "handOn", desc := "(I)Z" } : Jvm.MethodName) prog_22_method_6_code (2 : Nat) (Option.some Jvm.ClassFile.FieldType.boolean), Jvm.Cond.code ({ cls := "com/example/eventweir/eventweir/Cascade", name := "done", desc := "()Lcom/example/eventweir/eventweir/Cascade$Done;" } : Jvm.MethodName) prog_22_method_4_code (1 : Nat) (Option.some (Jvm.ClassFile.FieldType.object "com/example/eventweir/eventweir/Cascade$Done")), Jvm.Cond.code ({ cls := "com/example/eventweir/eventweir/Cascade", name := "mostMatches", desc := "()J" } : Jvm.MethodName) prog_22_method_3_code (1 : Nat) (Option.some Jvm.ClassFile.FieldType.long)]
set_option maxRecDepth 65536 in
theorem codes_eq : words1.filter isCode = codes1 := rfl
theorem w_codes : ∀ c ∈ words1.filter isCode, c.before args0 about1 = true := by
  rw [codes_eq]
  intro c hc
  simp only [codes1, List.mem_cons, List.not_mem_nil, or_false] at hc
  rcases hc with rfl | rfl | rfl | rfl | rfl | rfl | rfl | rfl | rfl | rfl | rfl | rfl | rfl
  · exact w_c0
  · exact w_c1
  · exact w_c2
  · exact w_c3
  · exact w_c4
  · exact w_c5
  · exact w_c6
  · exact w_c7
  · exact w_c8
  · exact w_c9
  · exact w_c10
  · exact w_c11
  · exact w_c12
set_option maxRecDepth 65536 in
theorem w_t1 : (words1.take 24).all (fun c => isCode c || c.before args0 about1) = true := by decide +kernel
set_option maxRecDepth 65536 in
theorem w_t2 : ((words1.drop 24).take 24).all (fun c => isCode c || c.before args0 about1) = true := by decide +kernel
set_option maxRecDepth 65536 in
theorem w_t3 : (((words1.drop 24).drop 24).take 24).all (fun c => isCode c || c.before args0 about1) = true := by decide +kernel
set_option maxRecDepth 65536 in
theorem w_t4 : (((words1.drop 24).drop 24).drop 24).all (fun c => isCode c || c.before args0 about1) = true := by decide +kernel
theorem w_tables : (allAtoms (Jvm.Cond.code x code maxLocals ret :: tables_1)).before args0 about1 = true := by
  rw [allAtoms_all]
  show words1.all (fun c => c.before args0 about1) = true
  refine all_split ?_ w_codes
  rw [← List.take_append_drop 24 words1, List.all_append, w_t1, ← List.take_append_drop 24 (words1.drop 24), List.all_append, w_t2, ← List.take_append_drop 24 ((words1.drop 24).drop 24), List.all_append, w_t3, w_t4]
  rfl
set_option maxRecDepth 65536 in
theorem w_case : (Jvm.Cond.and given_1 narrow_1).before args0 about1 = true := by decide +kernel
theorem w_applies : (headSpec (Jvm.Cond.code x code maxLocals ret :: tables_1) room_1).applies x e0.platform about1 = true :=
  (Spec.applies_iff w_frames).mpr ⟨w_running, w_runnable, w_alone, w_named, w_hears, w_ripe, w_room, w_tables⟩
theorem atStart : AtStart classFile x code maxLocals ret World_1 tables_1 room_1 Calls_1 rest_1 Pre_1 launch0 p0 e0 about1 theMethod args0 below0 :=
  ⟨lists_1, trivial, launch0.admits_env _ _ _, launch0.least_env, fairChoices_fair.cas, fairChoices_fair.clock, w_frames, w_args, w_heap, w_applies, trivial, trivial, w_case⟩
end start1
theorem witness_1 : WitnessClaimed_1 := ⟨start1.p0, start1.e0, start1.about1, start1.theMethod, start1.args0, start1.below0, start1.atStart⟩
end Jvm.Pilot.@@N@@
