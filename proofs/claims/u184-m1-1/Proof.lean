import JvmDerived
import JvmDerived.Pilot.@@N@@Statement
import JvmDerived.Pilot.@@N@@Code
set_option linter.unusedVariables false
set_option linter.unusedSimpArgs false
namespace Jvm.Pilot.@@N@@
open Jvm Jvm.ClassFile Sem Op Lib Jvm.Free Jvm.Stand Jvm.LawKit Jvm.RoadKit Bundle Jvm.Pilot.@@N@@.Jvm.D
section Own
/-- from the state U the body comes to its end, and P holds there of what it returns, of the heap and of the places that were written -/
def own_G (tb : Tables) (e : Env) (below : List Frame) (s : State) (P : Option Value → Heap → List Loc → Prop) (k n : Nat) (U : State) : Prop :=
  ∃ s₂ o, Steps tb e below U s₂ ∧ s₂.status = .running ∧ Ended s₂ below o ∧ ∃ v L, o = .returned v ∧ P v s₂.heap L ∧ FrameEnd s o s₂ L k n
theorem own_up {tb : Tables} {e : Env} {below : List Frame} {s : State} {P : Option Value → Heap → List Loc → Prop} {k n : Nat} {U U' : State} (h : own_G tb e below s P k n U') (q : ∀ t, Steps tb e below U' t → Steps tb e below U t) : own_G tb e below s P k n U := by
  obtain ⟨s₂, o, h1, r⟩ := h
  exact ⟨s₂, o, q _ h1, r⟩
variable {p : Program} {l : Launch} {e : Env} {R : Room} {s : State} {m : MethodId} {args : Array Value} {below : List Frame} {meth : Method} {c : Code} {T : State} {locs : List Loc} {cells slots : Nat} {P : Option Value → Heap → List Loc → Prop} {k n : Nat}
theorem own_retI (X : Stand p l e R s m args below meth c T locs cells slots) (hx : p.tables.exec = Jvm.exec) (hlk : meth.locks = false) {t : FieldType} (hret : meth.sig.returnType = some t) (hti : t = .int ∨ t = .boolean ∨ t = .byte ∨ t = .char ∨ t = .short) {pc : Nat} {Ls : Array Slot} {w : Int32} (hn : narrow t (.int w) = .int w) (hd : decode c.code pc = .ok (.ireturn, 1)) (hP : P (some (.int w)) T.heap locs) (hk : cells ≤ k) (hs : slots ≤ n) : own_G p.tables e below s P k n (T.setTop (mkF m pc Ls [.int w])) := by
  obtain ⟨fs, hr, hrun, hended, hW, hsame⟩ := X.leave (v := some (.int w)) (fun h => by rw [hret] at h; cases h) hlk
  exact ⟨_, _, X.ireturnOut hx hret hn hti hd hr, hrun, hended, _, _, rfl, hP, ⟨_, rfl⟩, hW, hsame.mono hk hs⟩
theorem own_retJ (X : Stand p l e R s m args below meth c T locs cells slots) (hx : p.tables.exec = Jvm.exec) (hlk : meth.locks = false) (hret : meth.sig.returnType = some .long) {pc : Nat} {Ls : Array Slot} {w : Int64} (hd : decode c.code pc = .ok (.lreturn, 1)) (hP : P (some (.long w)) T.heap locs) (hk : cells ≤ k) (hs : slots ≤ n) : own_G p.tables e below s P k n (T.setTop (mkF m pc Ls [.long w])) := by
  obtain ⟨fs, hr, hrun, hended, hW, hsame⟩ := X.leave (v := some (.long w)) (fun h => by rw [hret] at h; cases h) hlk
  exact ⟨_, _, X.lreturnOut hx hret hd hr, hrun, hended, _, _, rfl, hP, ⟨_, rfl⟩, hW, hsame.mono hk hs⟩
theorem own_retA (X : Stand p l e R s m args below meth c T locs cells slots) (hx : p.tables.exec = Jvm.exec) (hlk : meth.locks = false) {t : FieldType} (hret : meth.sig.returnType = some t) (ht : t.isReference = true) {pc : Nat} {Ls : Array Slot} {w : Value} (hw : w.isRef = true) (hd : decode c.code pc = .ok (.areturn, 1)) (hP : P (some w) T.heap locs) (hk : cells ≤ k) (hs : slots ≤ n) : own_G p.tables e below s P k n (T.setTop (mkF m pc Ls [w])) := by
  obtain ⟨fs, hr, hrun, hended, hW, hsame⟩ := X.leave (v := some w) (fun h => by rw [hret] at h; cases h) hlk
  exact ⟨_, _, X.areturnOut hx hw hret ht hd hr, hrun, hended, _, _, rfl, hP, ⟨_, rfl⟩, hW, hsame.mono hk hs⟩
theorem own_retV (X : Stand p l e R s m args below meth c T locs cells slots) (hx : p.tables.exec = Jvm.exec) (hlk : meth.locks = false) (hret : meth.sig.returnType = none) {pc : Nat} {Ls : Array Slot} (hd : decode c.code pc = .ok (.return_, 1)) (hP : P none T.heap locs) (hk : cells ≤ k) (hs : slots ≤ n) : own_G p.tables e below s P k n (T.setTop (mkF m pc Ls [])) := by
  obtain ⟨fs, hr, hrun, hended, hW, hsame⟩ := X.leave (v := none) (fun _ => rfl) hlk
  exact ⟨_, _, X.returnOut hx hret hd hr, hrun, hended, _, _, rfl, hP, ⟨_, rfl⟩, hW, hsame.mono hk hs⟩
end Own
theorem own_root {Z : State} {a0 : Array Value} {O K : String} {n : Nat} (w : (Jvm.Cond.noSuperclass O).before a0 Z = true) (wk : (Jvm.Cond.instantiable K n).before a0 Z = true) (hn : O ≠ K) : NS Z O K := by
  obtain ⟨c, k, h1, h2, h3, -, -⟩ := Cond.noSuperclass_spec w
  obtain ⟨t, k', g1, -⟩ := Cond.instantiable_spec wk
  have ne := ids_ne h1 g1 hn
  refine ⟨c, t, h1, g1, fun fuel => ?_⟩
  cases fuel with
  | zero => rfl
  | succ f => simp [Vm.isSubclassAux, ne, h2, h3]
theorem own_noOf {Z : State} {a0 : Array Value} {C S K : String} {n : Nat} (w : (Jvm.Cond.superclass C S).before a0 Z = true) (wk : (Jvm.Cond.instantiable K n).before a0 Z = true) (m : NS Z C K) (hn : C ≠ K) : ∃ c t, Z.vm.findClass C = some c ∧ Z.vm.findClass K = some t ∧ Z.vm.assignable c t = false := by
  obtain ⟨c, t, h0, g0, n3⟩ := m
  obtain ⟨p, k, kp, h1, h2, h3, h4, h5, -, h7⟩ := Cond.superclass_spec h0 w
  obtain ⟨t', k', g1, g2, g5, g7, -⟩ := Cond.instantiable_spec wk
  cases g0.symm.trans g1
  have ne := ids_ne h0 g0 hn
  have g8 : k'.isInterface = false := (Bool.or_eq_false_iff.mp g7).1
  refine ⟨c, t, h0, g0, ?_⟩
  show Z.vm.assignableAux (255 + 1) c t = false
  simp [Vm.assignableAux, ne, h2, g2, h5, g5, g8, Vm.isSubclass, n3]
theorem own_no {Z : State} {a0 : Array Value} (hw : ∀ d ∈ tables_1, d.before a0 Z = true) : ∃ c t, Z.vm.findClass "java/lang/String" = some c ∧ Z.vm.findClass "mullion/Insets" = some t ∧ Z.vm.assignable c t = false :=
  own_noOf (hw _ (List.mem_of_getElem? (i := 48) rfl)) (hw _ (List.mem_of_getElem? (i := 1) rfl)) (NS.step (hw _ (List.mem_of_getElem? (i := 48) rfl)) (own_root (hw _ (List.mem_of_getElem? (i := 49) rfl)) (hw _ (List.mem_of_getElem? (i := 1) rfl)) (by decide)) (by decide)) (by decide)
def own_can (c : Int32) : Int32 := if (255 : Int32) < c then 0 else 1
theorem own_can1 {c : Int32} (h : ¬ ((255 : Int32) < c)) : ¬ (own_can c = (0 : Int32)) := by
  unfold own_can
  rw [if_neg h]; decide
theorem own_chr (x : Int32) : ¬ ((255 : Int32) < ((x &&& (255 : Int32)).toUInt32.toUInt16.toUInt32.toInt32)) := by
  have e : ((x &&& (255 : Int32)).toUInt32.toUInt16.toUInt32.toInt32) = x &&& 255 := i2c_mask x
  rw [e, Int32.lt_iff_toInt_lt]
  have h := c_and x 255 (by decide)
  have : (255 : Int32).toInt = 255 := rfl
  omega
def own_eq (t l b r t2 l2 b2 r2 : Int32) : Int32 := if t2 = t then (if l2 = l then (if b2 = b then (if r2 = r then 1 else 0) else 0) else 0) else 0
theorem own_e3 (t l b r : Int32) : ¬ (own_eq t l b r t l b r = (0 : Int32)) := by
  unfold own_eq
  rw [if_pos rfl, if_pos rfl, if_pos rfl, if_pos rfl]; decide
theorem own_add (x d : Int32) (hd : ¬ d = 0) : ¬ (x + d = x) := fun h => hd (by
  have h1 := congrArg Int32.toInt h
  have h2 := c_iadd x d
  have := rng32 x; have := rng32 d
  apply Int32.toInt_inj.mp
  have : (0 : Int32).toInt = 0 := rfl
  omega)
theorem own_bits : ∀ n : Fin 16, ¬ n.val = 0 → ¬ ((Int32.ofNat n.val &&& (1 : Int32)) = 0) ∨ ¬ ((Int32.ofNat n.val &&& (2 : Int32)) = 0) ∨ ¬ ((Int32.ofNat n.val &&& (4 : Int32)) = 0) ∨ ¬ ((Int32.ofNat n.val &&& (8 : Int32)) = 0) := by decide +kernel
theorem own_some {mm x : Int32} (h : mm = (x &&& (15 : Int32))) (h0 : ¬ mm = 0) : ¬ ((mm &&& (1 : Int32)) = 0) ∨ ¬ ((mm &&& (2 : Int32)) = 0) ∨ ¬ ((mm &&& (4 : Int32)) = 0) ∨ ¬ ((mm &&& (8 : Int32)) = 0) := by
  have hn : (x &&& (15 : Int32)).toBitVec.toNat < 16 := by
    simp only [Int32.toBitVec_and, BitVec.toNat_and]
    exact Nat.lt_of_le_of_lt Nat.and_le_right (by decide)
  have e : mm = Int32.ofNat (x &&& (15 : Int32)).toBitVec.toNat := by
    rw [h]
    apply Int32.toBitVec_inj.mp
    show _ = BitVec.ofNat 32 _
    rw [BitVec.ofNat_toNat]; simp
  generalize (x &&& (15 : Int32)).toBitVec.toNat = n at hn e
  subst e
  exact own_bits ⟨n, hn⟩ (fun q => h0 (by rw [show n = 0 from q]; rfl))
theorem own_l1 {mm x d t l b r t2 l2 b2 r2 : Int32} (h : mm = (x &&& (15 : Int32))) (ht : t2 = (if (mm &&& (1 : Int32)) = (0 : Int32) then t else (t + d))) (hl : l2 = (if (mm &&& (2 : Int32)) = (0 : Int32) then l else (l + d))) (hb : b2 = (if (mm &&& (4 : Int32)) = (0 : Int32) then b else (b + d))) (hr : r2 = (if (mm &&& (8 : Int32)) = (0 : Int32) then r else (r + d))) :
    own_eq t l b r t2 l2 b2 r2 = (if mm = (0 : Int32) then (1 : Int32) else (if d = (0 : Int32) then (1 : Int32) else (0 : Int32))) := by
  by_cases hd : d = 0
  · subst hd
    simp only [Int32.add_zero, ite_self] at ht hl hb hr
    subst ht hl hb hr
    unfold own_eq
    simp
  · by_cases hm : mm = 0
    · subst hm
      have z : ∀ k : Int32, ((0 : Int32) &&& k) = 0 := fun k => Int32.zero_and
      simp only [z, if_true] at ht hl hb hr
      subst ht hl hb hr
      unfold own_eq
      simp
    · rw [if_neg hm, if_neg hd]
      unfold own_eq
      rcases own_some h hm with q | q | q | q
      · rw [if_neg q] at ht; rw [if_neg (by rw [ht]; exact own_add t d hd)]
      · rw [if_neg q] at hl; rw [if_neg (show ¬ l2 = l by rw [hl]; exact own_add l d hd)]; simp
      · rw [if_neg q] at hb; rw [if_neg (show ¬ b2 = b by rw [hb]; exact own_add b d hd)]; simp
      · rw [if_neg q] at hr; rw [if_neg (show ¬ r2 = r by rw [hr]; exact own_add r d hd)]; simp
theorem own_comm (t l b r t2 l2 b2 r2 : Int32) : own_eq t2 l2 b2 r2 t l b r = own_eq t l b r t2 l2 b2 r2 := by
  unfold own_eq
  simp only [eq_comm (a := t) (b := t2), eq_comm (a := l) (b := l2), eq_comm (a := b) (b := b2), eq_comm (a := r) (b := r2)]
theorem own_l2 {mm x d t l b r t2 l2 b2 r2 : Int32} (h : mm = (x &&& (15 : Int32))) (ht : t2 = (if (mm &&& (1 : Int32)) = (0 : Int32) then t else (t + d))) (hl : l2 = (if (mm &&& (2 : Int32)) = (0 : Int32) then l else (l + d))) (hb : b2 = (if (mm &&& (4 : Int32)) = (0 : Int32) then b else (b + d))) (hr : r2 = (if (mm &&& (8 : Int32)) = (0 : Int32) then r else (r + d))) :
    own_eq t2 l2 b2 r2 t l b r = (if mm = (0 : Int32) then (1 : Int32) else (if d = (0 : Int32) then (1 : Int32) else (0 : Int32))) := (own_comm t l b r t2 l2 b2 r2).trans (own_l1 h ht hl hb hr)
theorem own_pd0 : parseMethodDescriptor "(C)Z" = some ⟨[.char], some .boolean⟩ := by decide +kernel
theorem own_pd1 : parseMethodDescriptor "(C)[B" = some ⟨[.char], some (.array .byte)⟩ := by decide +kernel
theorem own_pd2 : parseMethodDescriptor "([BB)V" = some ⟨[(.array .byte), .byte], none⟩ := by decide +kernel
theorem own_pd3 : parseMethodDescriptor "(IIII)V" = some ⟨[.int, .int, .int, .int], none⟩ := by decide +kernel
theorem own_pd4 : parseMethodDescriptor "(Ljava/lang/Object;)Z" = some ⟨[(.object "java/lang/Object")], some .boolean⟩ := by decide +kernel
theorem own_pd5 : parseMethodDescriptor "(C)Ljava/lang/String;" = some ⟨[.char], some (.object "java/lang/String")⟩ := by decide +kernel
theorem own_d1_0 : decode prog_78_method_1_code 0 = .ok (.aload_n 0, 1) := by decide +kernel
theorem own_d1_1 : decode prog_78_method_1_code 1 = .ok (.invokespecial 1, 3) := by decide +kernel
theorem own_d1_4 : decode prog_78_method_1_code 4 = .ok (.aload_n 0, 1) := by decide +kernel
theorem own_d1_5 : decode prog_78_method_1_code 5 = .ok (.iload_n 1, 1) := by decide +kernel
theorem own_d1_6 : decode prog_78_method_1_code 6 = .ok (.putfield 7, 3) := by decide +kernel
theorem own_d1_9 : decode prog_78_method_1_code 9 = .ok (.aload_n 0, 1) := by decide +kernel
theorem own_d1_10 : decode prog_78_method_1_code 10 = .ok (.iload_n 2, 1) := by decide +kernel
theorem own_d1_11 : decode prog_78_method_1_code 11 = .ok (.putfield 13, 3) := by decide +kernel
theorem own_d1_14 : decode prog_78_method_1_code 14 = .ok (.aload_n 0, 1) := by decide +kernel
theorem own_d1_15 : decode prog_78_method_1_code 15 = .ok (.iload_n 3, 1) := by decide +kernel
theorem own_d1_16 : decode prog_78_method_1_code 16 = .ok (.putfield 16, 3) := by decide +kernel
theorem own_d1_19 : decode prog_78_method_1_code 19 = .ok (.aload_n 0, 1) := by decide +kernel
theorem own_d1_20 : decode prog_78_method_1_code 20 = .ok (.iload 4, 2) := by decide +kernel
theorem own_d1_22 : decode prog_78_method_1_code 22 = .ok (.putfield 19, 3) := by decide +kernel
theorem own_d1_25 : decode prog_78_method_1_code 25 = .ok (.return_, 1) := by decide +kernel
theorem own_pn0 : plainName "mullion/Insets" = true := by first | (simp [plainName, overriddenIn]; done) | decide +kernel
theorem own_ef_rm1 (m : MethodId) (x0 : Addr) (x1 : Int32) (x2 : Int32) (x3 : Int32) (x4 : Int32) : entryFrame m #[(.ref x0), (.int x1), (.int x2), (.int x3), (.int x4)] 5 = mkF m 0 #[.val (.ref x0), .val (.int x1), .val (.int x2), .val (.int x3), .val (.int x4)] [] := by first | (simp [entryFrame, mkF, argsToLocals, Value.category]; done) | rfl
def own_Q_rm1 (Z : State) (a : Addr) (p1 : Int32) (p2 : Int32) (p3 : Int32) (p4 : Int32) (u_top : Value) (u_left : Value) (u_bottom : Value) (u_right : Value) (h0 : Heap) (n0 : Nat) (v : Option Value) (h : Heap) (L : List Loc) : Prop := v = none ∧ Fr n0 L ∧ Keep h0 h [a] ∧ Fld Z h a "mullion/Insets" "top" "I" (.int p1) ∧ Fld Z h a "mullion/Insets" "left" "I" (.int p2) ∧ Fld Z h a "mullion/Insets" "bottom" "I" (.int p3) ∧ Fld Z h a "mullion/Insets" "right" "I" (.int p4)
set_option maxRecDepth 65536 in
set_option maxHeartbeats 40000000 in
theorem rm1 (l : Launch) (Z : State) (a0 : Array Value) (hw : ∀ d ∈ tables_1, d.before a0 Z = true) (ws : List Jvm.Cond) (a : Addr) (p1 : Int32) (p2 : Int32) (p3 : Int32) (p4 : Int32) (u_top : Value) (u_left : Value) (u_bottom : Value) (u_right : Value) (h0 : Heap) (n0 : Nat) (Z0 : n0 ≤ h0.size) (E_a : Exa Z h0 a "mullion/Insets") (F_top : Fld Z h0 a "mullion/Insets" "top" "I" u_top) (F_left : Fld Z h0 a "mullion/Insets" "left" "I" u_left) (F_bottom : Fld Z h0 a "mullion/Insets" "bottom" "I" u_bottom) (F_right : Fld Z h0 a "mullion/Insets" "right" "I" u_right) (g_a : n0 ≤ a) :
    MetFree l (⟨"mullion/Insets", "<init>", "(IIII)V"⟩ : MethodName) (head1 (Jvm.Cond.code (⟨"mullion/Insets", "<init>", "(IIII)V"⟩ : MethodName) prog_78_method_1_code 5 none :: ws) ({ frames := 1, cells := 0, slots := 0, locals := 12 } : Room)) (fun aa UU => aa = #[(.ref a), (.int p1), (.int p2), (.int p3), (.int p4)] ∧ Z.Warmed39 UU.vm ∧ UU.heap = h0) (fun _ _ _ _ _ => True) (fun _ UU oo UU' => ∃ vv LL, oo = .returned vv ∧ own_Q_rm1 Z a p1 p2 p3 p4 u_top u_left u_bottom u_right h0 n0 vv UU'.heap LL ∧ FrameEnd UU oo UU' LL ({ frames := 1, cells := 0, slots := 0, locals := 12 } : Room).cells ({ frames := 1, cells := 0, slots := 0, locals := 12 } : Room).slots) := by
  refine MetFree.of_bodySF (plainFor_of_name own_pn0) hisR ?_
  intro p e s m args below meth c s₁ Bd hml0 hP hK
  obtain ⟨rfl, hZ, hh⟩ := hP
  have hx := Bd.exec
  have hby := Bd.bytes
  have hlk := Bd.notSynchronized
  have hml : c.maxLocals = 5 := hml0
  have hown : s.vm.findClass "mullion/Insets" = some m.cls := findClass_of_methodNamed Bd.named
  have hnm := (name_of_methodNamed Bd.named Bd.method).1
  have X0 : Stand p l e ({ frames := 1, cells := 0, slots := 0, locals := 12 } : Room) s m #[(.ref a), (.int p1), (.int p2), (.int p3), (.int p4)] below meth c s₁ [] 0 0 := Stand.of_body Bd
  have e0 : s₁.heap = h0 := by rw [← hh, Bd.state]; rfl
  have N0 := Fr.nil n0
  show own_G p.tables e below s (own_Q_rm1 Z a p1 p2 p3 p4 u_top u_left u_bottom u_right h0 n0) ({ frames := 1, cells := 0, slots := 0, locals := 12 } : Room).cells ({ frames := 1, cells := 0, slots := 0, locals := 12 } : Room).slots (s₁.setTop (entryFrame m #[(.ref a), (.int p1), (.int p2), (.int p3), (.int p4)] 5))
  have K0 := Keep.refl h0 [a]
  refine own_up (U' := s₁.setTop (mkF m 0 #[.val (.ref a), .val (.int p1), .val (.int p2), .val (.int p3), .val (.int p4)] [])) ?_ (fun t k => castTop (own_ef_rm1 m a p1 p2 p3 p4) k)
  refine own_up ?_ fun t k => XS.aloadN X0.here hx rfl (hb hby own_d1_0) rfl rfl k
  show own_G p.tables e below s _ _ _ (s₁.setTop (mkF m 1 #[.val (.ref a), .val (.int p1), .val (.int p2), .val (.int p3), .val (.int p4)] [(.ref a)]))
  obtain ⟨T1, X1, e1, st1⟩ := initO X0 hx hZ hown (hw _ (List.mem_of_getElem? (i := 6) rfl)) (hw _ (List.mem_of_getElem? (i := 7) rfl)) (hw _ (List.mem_of_getElem? (i := 8) rfl)) e0 (g := (mkF m 1 #[.val (.ref a), .val (.int p1), .val (.int p2), .val (.int p3), .val (.int p4)] [(.ref a)])) rfl (by rw [hml]; rfl) rfl (hb hby own_d1_1) (by decide) (W := 0) (by show 2 * 0 + _ ≤ _; exact Nat.le_of_eq rfl) (by decide)
  refine own_up ?_ st1
  show own_G p.tables e below s _ _ _ (T1.setTop (mkF m 4 #[.val (.ref a), .val (.int p1), .val (.int p2), .val (.int p3), .val (.int p4)] []))
  refine own_up ?_ fun t k => XS.aloadN X1.here hx rfl (hb hby own_d1_4) rfl rfl k
  show own_G p.tables e below s _ _ _ (T1.setTop (mkF m 5 #[.val (.ref a), .val (.int p1), .val (.int p2), .val (.int p3), .val (.int p4)] [(.ref a)]))
  refine own_up ?_ fun t k => XS.iloadN X1.here hx rfl (hb hby own_d1_5) rfl k
  show own_G p.tables e below s _ _ _ (T1.setTop (mkF m 6 #[.val (.ref a), .val (.int p1), .val (.int p2), .val (.int p3), .val (.int p4)] [(.int p1), (.ref a)]))
  obtain ⟨T2, h2, X2, e2, W2, st2⟩ := putF X1 hx hZ hown (host := "") (Or.inl (hw _ (List.mem_of_getElem? (i := 9) rfl))) Via.refl e1 F_top E_a (Or.inl (hw _ (List.mem_of_getElem? (i := 10) rfl))) (hw _ (List.mem_of_getElem? (i := 1) rfl)) (ty := .int) (by decide) rfl rfl (g := (mkF m 6 #[.val (.ref a), .val (.int p1), .val (.int p2), .val (.int p3), .val (.int p4)] [(.int p1), (.ref a)])) rfl rfl (hb hby own_d1_6)
  refine own_up ?_ st2
  have E_a_c3 := E_a.wr W2
  have F_left_c3 := F_left.other W2 (Or.inr (slot_ne (Or.inl (hw _ (List.mem_of_getElem? (i := 12) rfl))) (Or.inl (hw _ (List.mem_of_getElem? (i := 10) rfl))) (by decide) (t := .int) (t' := .int) (by decide) (by decide)))
  have F_bottom_c3 := F_bottom.other W2 (Or.inr (slot_ne (Or.inl (hw _ (List.mem_of_getElem? (i := 14) rfl))) (Or.inl (hw _ (List.mem_of_getElem? (i := 10) rfl))) (by decide) (t := .int) (t' := .int) (by decide) (by decide)))
  have F_right_c3 := F_right.other W2 (Or.inr (slot_ne (Or.inl (hw _ (List.mem_of_getElem? (i := 16) rfl))) (Or.inl (hw _ (List.mem_of_getElem? (i := 10) rfl))) (by decide) (t := .int) (t' := .int) (by decide) (by decide)))
  have F2 := F_top.same W2
  have N2 := Fr.snoc X2 N0 g_a
  have Zs4 : n0 ≤ h2.size := Nat.le_trans Z0 (Keep.of_wr W2).1
  have K5 : Keep h0 h2 [a] := K0.wr W2 (Or.inl (List.mem_of_getElem? (i := 0) rfl))
  show own_G p.tables e below s _ _ _ (T2.setTop (mkF m 9 #[.val (.ref a), .val (.int p1), .val (.int p2), .val (.int p3), .val (.int p4)] []))
  refine own_up ?_ fun t k => XS.aloadN X2.here hx rfl (hb hby own_d1_9) rfl rfl k
  show own_G p.tables e below s _ _ _ (T2.setTop (mkF m 10 #[.val (.ref a), .val (.int p1), .val (.int p2), .val (.int p3), .val (.int p4)] [(.ref a)]))
  refine own_up ?_ fun t k => XS.iloadN X2.here hx rfl (hb hby own_d1_10) rfl k
  show own_G p.tables e below s _ _ _ (T2.setTop (mkF m 11 #[.val (.ref a), .val (.int p1), .val (.int p2), .val (.int p3), .val (.int p4)] [(.int p2), (.ref a)]))
  obtain ⟨T6, h6, X6, e6, W6, st6⟩ := putF X2 hx hZ hown (host := "") (Or.inl (hw _ (List.mem_of_getElem? (i := 11) rfl))) Via.refl e2 F_left_c3 E_a_c3 (Or.inl (hw _ (List.mem_of_getElem? (i := 12) rfl))) (hw _ (List.mem_of_getElem? (i := 1) rfl)) (ty := .int) (by decide) rfl rfl (g := (mkF m 11 #[.val (.ref a), .val (.int p1), .val (.int p2), .val (.int p3), .val (.int p4)] [(.int p2), (.ref a)])) rfl rfl (hb hby own_d1_11)
  refine own_up ?_ st6
  have E_a_c7 := E_a_c3.wr W6
  have F2_c7 := F2.other W6 (Or.inr (slot_ne (Or.inl (hw _ (List.mem_of_getElem? (i := 10) rfl))) (Or.inl (hw _ (List.mem_of_getElem? (i := 12) rfl))) (by decide) (t := .int) (t' := .int) (by decide) (by decide)))
  have F_bottom_c7 := F_bottom_c3.other W6 (Or.inr (slot_ne (Or.inl (hw _ (List.mem_of_getElem? (i := 14) rfl))) (Or.inl (hw _ (List.mem_of_getElem? (i := 12) rfl))) (by decide) (t := .int) (t' := .int) (by decide) (by decide)))
  have F_right_c7 := F_right_c3.other W6 (Or.inr (slot_ne (Or.inl (hw _ (List.mem_of_getElem? (i := 16) rfl))) (Or.inl (hw _ (List.mem_of_getElem? (i := 12) rfl))) (by decide) (t := .int) (t' := .int) (by decide) (by decide)))
  have F6 := F_left_c3.same W6
  have N6 := Fr.snoc X6 N2 g_a
  have Zs8 : n0 ≤ h6.size := Nat.le_trans Zs4 (Keep.of_wr W6).1
  have K9 : Keep h0 h6 [a] := K5.wr W6 (Or.inl (List.mem_of_getElem? (i := 0) rfl))
  show own_G p.tables e below s _ _ _ (T6.setTop (mkF m 14 #[.val (.ref a), .val (.int p1), .val (.int p2), .val (.int p3), .val (.int p4)] []))
  refine own_up ?_ fun t k => XS.aloadN X6.here hx rfl (hb hby own_d1_14) rfl rfl k
  show own_G p.tables e below s _ _ _ (T6.setTop (mkF m 15 #[.val (.ref a), .val (.int p1), .val (.int p2), .val (.int p3), .val (.int p4)] [(.ref a)]))
  refine own_up ?_ fun t k => XS.iloadN X6.here hx rfl (hb hby own_d1_15) rfl k
  show own_G p.tables e below s _ _ _ (T6.setTop (mkF m 16 #[.val (.ref a), .val (.int p1), .val (.int p2), .val (.int p3), .val (.int p4)] [(.int p3), (.ref a)]))
  obtain ⟨T10, h10, X10, e10, W10, st10⟩ := putF X6 hx hZ hown (host := "") (Or.inl (hw _ (List.mem_of_getElem? (i := 13) rfl))) Via.refl e6 F_bottom_c7 E_a_c7 (Or.inl (hw _ (List.mem_of_getElem? (i := 14) rfl))) (hw _ (List.mem_of_getElem? (i := 1) rfl)) (ty := .int) (by decide) rfl rfl (g := (mkF m 16 #[.val (.ref a), .val (.int p1), .val (.int p2), .val (.int p3), .val (.int p4)] [(.int p3), (.ref a)])) rfl rfl (hb hby own_d1_16)
  refine own_up ?_ st10
  have E_a_c11 := E_a_c7.wr W10
  have F2_c11 := F2_c7.other W10 (Or.inr (slot_ne (Or.inl (hw _ (List.mem_of_getElem? (i := 10) rfl))) (Or.inl (hw _ (List.mem_of_getElem? (i := 14) rfl))) (by decide) (t := .int) (t' := .int) (by decide) (by decide)))
  have F6_c11 := F6.other W10 (Or.inr (slot_ne (Or.inl (hw _ (List.mem_of_getElem? (i := 12) rfl))) (Or.inl (hw _ (List.mem_of_getElem? (i := 14) rfl))) (by decide) (t := .int) (t' := .int) (by decide) (by decide)))
  have F_right_c11 := F_right_c7.other W10 (Or.inr (slot_ne (Or.inl (hw _ (List.mem_of_getElem? (i := 16) rfl))) (Or.inl (hw _ (List.mem_of_getElem? (i := 14) rfl))) (by decide) (t := .int) (t' := .int) (by decide) (by decide)))
  have F10 := F_bottom_c7.same W10
  have N10 := Fr.snoc X10 N6 g_a
  have Zs12 : n0 ≤ h10.size := Nat.le_trans Zs8 (Keep.of_wr W10).1
  have K13 : Keep h0 h10 [a] := K9.wr W10 (Or.inl (List.mem_of_getElem? (i := 0) rfl))
  show own_G p.tables e below s _ _ _ (T10.setTop (mkF m 19 #[.val (.ref a), .val (.int p1), .val (.int p2), .val (.int p3), .val (.int p4)] []))
  refine own_up ?_ fun t k => XS.aloadN X10.here hx rfl (hb hby own_d1_19) rfl rfl k
  show own_G p.tables e below s _ _ _ (T10.setTop (mkF m 20 #[.val (.ref a), .val (.int p1), .val (.int p2), .val (.int p3), .val (.int p4)] [(.ref a)]))
  refine own_up ?_ fun t k => XS.iload X10.here hx rfl (hb hby own_d1_20) rfl k
  show own_G p.tables e below s _ _ _ (T10.setTop (mkF m 22 #[.val (.ref a), .val (.int p1), .val (.int p2), .val (.int p3), .val (.int p4)] [(.int p4), (.ref a)]))
  obtain ⟨T14, h14, X14, e14, W14, st14⟩ := putF X10 hx hZ hown (host := "") (Or.inl (hw _ (List.mem_of_getElem? (i := 15) rfl))) Via.refl e10 F_right_c11 E_a_c11 (Or.inl (hw _ (List.mem_of_getElem? (i := 16) rfl))) (hw _ (List.mem_of_getElem? (i := 1) rfl)) (ty := .int) (by decide) rfl rfl (g := (mkF m 22 #[.val (.ref a), .val (.int p1), .val (.int p2), .val (.int p3), .val (.int p4)] [(.int p4), (.ref a)])) rfl rfl (hb hby own_d1_22)
  refine own_up ?_ st14
  have E_a_c15 := E_a_c11.wr W14
  have F2_c15 := F2_c11.other W14 (Or.inr (slot_ne (Or.inl (hw _ (List.mem_of_getElem? (i := 10) rfl))) (Or.inl (hw _ (List.mem_of_getElem? (i := 16) rfl))) (by decide) (t := .int) (t' := .int) (by decide) (by decide)))
  have F6_c15 := F6_c11.other W14 (Or.inr (slot_ne (Or.inl (hw _ (List.mem_of_getElem? (i := 12) rfl))) (Or.inl (hw _ (List.mem_of_getElem? (i := 16) rfl))) (by decide) (t := .int) (t' := .int) (by decide) (by decide)))
  have F10_c15 := F10.other W14 (Or.inr (slot_ne (Or.inl (hw _ (List.mem_of_getElem? (i := 14) rfl))) (Or.inl (hw _ (List.mem_of_getElem? (i := 16) rfl))) (by decide) (t := .int) (t' := .int) (by decide) (by decide)))
  have F14 := F_right_c11.same W14
  have N14 := Fr.snoc X14 N10 g_a
  have Zs16 : n0 ≤ h14.size := Nat.le_trans Zs12 (Keep.of_wr W14).1
  have K17 : Keep h0 h14 [a] := K13.wr W14 (Or.inl (List.mem_of_getElem? (i := 0) rfl))
  show own_G p.tables e below s _ _ _ (T14.setTop (mkF m 25 #[.val (.ref a), .val (.int p1), .val (.int p2), .val (.int p3), .val (.int p4)] []))
  exact own_retV X14 hx hlk Bd.returns (hb hby own_d1_25) (by rw [e14]; exact ⟨rfl, N14, K17, F2_c15, F6_c15, F10_c15, F14⟩) (by decide) (by decide)
theorem own_d3_0 : decode prog_78_method_2_code 0 = .ok (.aload_n 1, 1) := by decide +kernel
theorem own_d3_1 : decode prog_78_method_2_code 1 = .ok (.instanceof 8, 3) := by decide +kernel
theorem own_d3_4 : decode prog_78_method_2_code 4 = .ok (.ifCond .ne 5, 3) := by decide +kernel
theorem own_d3_7 : decode prog_78_method_2_code 7 = .ok (.iconst 0, 1) := by decide +kernel
theorem own_d3_8 : decode prog_78_method_2_code 8 = .ok (.ireturn, 1) := by decide +kernel
theorem own_d3_9 : decode prog_78_method_2_code 9 = .ok (.aload_n 1, 1) := by decide +kernel
theorem own_d3_10 : decode prog_78_method_2_code 10 = .ok (.checkcast 8, 3) := by decide +kernel
theorem own_d3_13 : decode prog_78_method_2_code 13 = .ok (.astore_n 2, 1) := by decide +kernel
theorem own_d3_14 : decode prog_78_method_2_code 14 = .ok (.aload_n 2, 1) := by decide +kernel
theorem own_d3_15 : decode prog_78_method_2_code 15 = .ok (.getfield 7, 3) := by decide +kernel
theorem own_d3_18 : decode prog_78_method_2_code 18 = .ok (.aload_n 0, 1) := by decide +kernel
theorem own_d3_19 : decode prog_78_method_2_code 19 = .ok (.getfield 7, 3) := by decide +kernel
theorem own_d3_22 : decode prog_78_method_2_code 22 = .ok (.if_icmp .ne 40, 3) := by decide +kernel
theorem own_d3_25 : decode prog_78_method_2_code 25 = .ok (.aload_n 2, 1) := by decide +kernel
theorem own_d3_26 : decode prog_78_method_2_code 26 = .ok (.getfield 13, 3) := by decide +kernel
theorem own_d3_29 : decode prog_78_method_2_code 29 = .ok (.aload_n 0, 1) := by decide +kernel
theorem own_d3_30 : decode prog_78_method_2_code 30 = .ok (.getfield 13, 3) := by decide +kernel
theorem own_d3_33 : decode prog_78_method_2_code 33 = .ok (.if_icmp .ne 29, 3) := by decide +kernel
theorem own_d3_36 : decode prog_78_method_2_code 36 = .ok (.aload_n 2, 1) := by decide +kernel
theorem own_d3_37 : decode prog_78_method_2_code 37 = .ok (.getfield 16, 3) := by decide +kernel
theorem own_d3_40 : decode prog_78_method_2_code 40 = .ok (.aload_n 0, 1) := by decide +kernel
theorem own_d3_41 : decode prog_78_method_2_code 41 = .ok (.getfield 16, 3) := by decide +kernel
theorem own_d3_44 : decode prog_78_method_2_code 44 = .ok (.if_icmp .ne 18, 3) := by decide +kernel
theorem own_d3_47 : decode prog_78_method_2_code 47 = .ok (.aload_n 2, 1) := by decide +kernel
theorem own_d3_48 : decode prog_78_method_2_code 48 = .ok (.getfield 19, 3) := by decide +kernel
theorem own_d3_51 : decode prog_78_method_2_code 51 = .ok (.aload_n 0, 1) := by decide +kernel
theorem own_d3_52 : decode prog_78_method_2_code 52 = .ok (.getfield 19, 3) := by decide +kernel
theorem own_d3_55 : decode prog_78_method_2_code 55 = .ok (.if_icmp .ne 7, 3) := by decide +kernel
theorem own_d3_58 : decode prog_78_method_2_code 58 = .ok (.iconst 1, 1) := by decide +kernel
theorem own_d3_59 : decode prog_78_method_2_code 59 = .ok (.goto 4, 3) := by decide +kernel
theorem own_d3_62 : decode prog_78_method_2_code 62 = .ok (.iconst 0, 1) := by decide +kernel
theorem own_d3_63 : decode prog_78_method_2_code 63 = .ok (.ireturn, 1) := by decide +kernel
theorem own_ef_rm3 (m : MethodId) (x0 : Addr) (x1 : Addr) : entryFrame m #[(.ref x0), (.ref x1)] 3 = mkF m 0 #[.val (.ref x0), .val (.ref x1), .unset] [] := by first | (simp [entryFrame, mkF, argsToLocals, Value.category]; done) | rfl
def own_Q_rm3 (Z : State) (a : Addr) (o : Addr) (x1 : Int32) (x2 : Int32) (x3 : Int32) (x4 : Int32) (y1 : Int32) (y2 : Int32) (y3 : Int32) (y4 : Int32) (h0 : Heap) (n0 : Nat) (v : Option Value) (h : Heap) (L : List Loc) : Prop := v = some (.int (own_eq x1 x2 x3 x4 y1 y2 y3 y4)) ∧ Fr n0 L ∧ h = h0
set_option maxRecDepth 65536 in
set_option maxHeartbeats 40000000 in
theorem rm3 (l : Launch) (Z : State) (a0 : Array Value) (hw : ∀ d ∈ tables_1, d.before a0 Z = true) (ws : List Jvm.Cond) (a : Addr) (o : Addr) (x1 : Int32) (x2 : Int32) (x3 : Int32) (x4 : Int32) (y1 : Int32) (y2 : Int32) (y3 : Int32) (y4 : Int32) (h0 : Heap) (n0 : Nat) (Z0 : n0 ≤ h0.size) (E_o : Exa Z h0 o "mullion/Insets") (Fa_top : Fld Z h0 a "mullion/Insets" "top" "I" (.int x1)) (Fa_left : Fld Z h0 a "mullion/Insets" "left" "I" (.int x2)) (Fa_bottom : Fld Z h0 a "mullion/Insets" "bottom" "I" (.int x3)) (Fa_right : Fld Z h0 a "mullion/Insets" "right" "I" (.int x4)) (Fo_top : Fld Z h0 o "mullion/Insets" "top" "I" (.int y1)) (Fo_left : Fld Z h0 o "mullion/Insets" "left" "I" (.int y2)) (Fo_bottom : Fld Z h0 o "mullion/Insets" "bottom" "I" (.int y3)) (Fo_right : Fld Z h0 o "mullion/Insets" "right" "I" (.int y4)) :
    MetFree l (⟨"mullion/Insets", "equals", "(Ljava/lang/Object;)Z"⟩ : MethodName) (head1 (Jvm.Cond.code (⟨"mullion/Insets", "equals", "(Ljava/lang/Object;)Z"⟩ : MethodName) prog_78_method_2_code 3 (some .boolean) :: ws) ({ frames := 0, cells := 0, slots := 0, locals := 0 } : Room)) (fun aa UU => aa = #[(.ref a), (.ref o)] ∧ Z.Warmed39 UU.vm ∧ UU.heap = h0) (fun _ _ _ _ _ => True) (fun _ UU oo UU' => ∃ vv LL, oo = .returned vv ∧ own_Q_rm3 Z a o x1 x2 x3 x4 y1 y2 y3 y4 h0 n0 vv UU'.heap LL ∧ FrameEnd UU oo UU' LL ({ frames := 0, cells := 0, slots := 0, locals := 0 } : Room).cells ({ frames := 0, cells := 0, slots := 0, locals := 0 } : Room).slots) := by
  refine MetFree.of_bodySF (plainFor_of_name own_pn0) hisR ?_
  intro p e s m args below meth c s₁ Bd hml0 hP hK
  obtain ⟨rfl, hZ, hh⟩ := hP
  have hx := Bd.exec
  have hby := Bd.bytes
  have hlk := Bd.notSynchronized
  have hml : c.maxLocals = 3 := hml0
  have hown : s.vm.findClass "mullion/Insets" = some m.cls := findClass_of_methodNamed Bd.named
  have hnm := (name_of_methodNamed Bd.named Bd.method).1
  have X0 : Stand p l e ({ frames := 0, cells := 0, slots := 0, locals := 0 } : Room) s m #[(.ref a), (.ref o)] below meth c s₁ [] 0 0 := Stand.of_body Bd
  have e0 : s₁.heap = h0 := by rw [← hh, Bd.state]; rfl
  have N0 := Fr.nil n0
  show own_G p.tables e below s (own_Q_rm3 Z a o x1 x2 x3 x4 y1 y2 y3 y4 h0 n0) ({ frames := 0, cells := 0, slots := 0, locals := 0 } : Room).cells ({ frames := 0, cells := 0, slots := 0, locals := 0 } : Room).slots (s₁.setTop (entryFrame m #[(.ref a), (.ref o)] 3))
  refine own_up (U' := s₁.setTop (mkF m 0 #[.val (.ref a), .val (.ref o), .unset] [])) ?_ (fun t k => castTop (own_ef_rm3 m a o) k)
  refine own_up ?_ fun t k => XS.aloadN X0.here hx rfl (hb hby own_d3_0) rfl rfl k
  show own_G p.tables e below s _ _ _ (s₁.setTop (mkF m 1 #[.val (.ref a), .val (.ref o), .unset] [(.ref o)]))
  obtain ⟨T18, X18, e18, st18⟩ := instY X0 hx hZ hown (hw _ (List.mem_of_getElem? (i := 22) rfl)) e0 (Ins.self E_o) (g := (mkF m 1 #[.val (.ref a), .val (.ref o), .unset] [(.ref o)])) rfl rfl (hb hby own_d3_1)
  refine own_up ?_ st18
  show own_G p.tables e below s _ _ _ (T18.setTop (mkF m 4 #[.val (.ref a), .val (.ref o), .unset] [(.int (1 : Int32))]))
  refine own_up ?_ fun t k => XS.ifYes X18.here hx rfl (pc0 := 4) (pc' := 9) rfl (hb hby own_d3_4) rfl ((if0 _ _).trans (feq (by decide : ¬ ((1 : Int32) = (0 : Int32)))).2) (by decide) (by decide) k
  show own_G p.tables e below s _ _ _ (T18.setTop (mkF m 9 #[.val (.ref a), .val (.ref o), .unset] []))
  refine own_up ?_ fun t k => XS.aloadN X18.here hx rfl (hb hby own_d3_9) rfl rfl k
  show own_G p.tables e below s _ _ _ (T18.setTop (mkF m 10 #[.val (.ref a), .val (.ref o), .unset] [(.ref o)]))
  obtain ⟨T19, X19, e19, st19⟩ := castY X18 hx hZ hown (hw _ (List.mem_of_getElem? (i := 22) rfl)) e18 (Ins.self E_o) (g := (mkF m 10 #[.val (.ref a), .val (.ref o), .unset] [(.ref o)])) rfl rfl (hb hby own_d3_10)
  refine own_up ?_ st19
  show own_G p.tables e below s _ _ _ (T19.setTop (mkF m 13 #[.val (.ref a), .val (.ref o), .unset] [(.ref o)]))
  refine own_up ?_ fun t k => XS.astoreN X19.here hx rfl (hb hby own_d3_13) rfl rfl (l' := #[.val (.ref a), .val (.ref o), .val (.ref o)]) rfl k
  show own_G p.tables e below s _ _ _ (T19.setTop (mkF m 14 #[.val (.ref a), .val (.ref o), .val (.ref o)] []))
  refine own_up ?_ fun t k => XS.aloadN X19.here hx rfl (hb hby own_d3_14) rfl rfl k
  show own_G p.tables e below s _ _ _ (T19.setTop (mkF m 15 #[.val (.ref a), .val (.ref o), .val (.ref o)] [(.ref o)]))
  obtain ⟨T20, X20, e20, st20⟩ := getF X19 hx hZ hown (host := "") (Or.inl (hw _ (List.mem_of_getElem? (i := 9) rfl))) Via.refl e19 Fo_top (g := (mkF m 15 #[.val (.ref a), .val (.ref o), .val (.ref o)] [(.ref o)])) rfl rfl (hb hby own_d3_15)
  refine own_up ?_ st20
  show own_G p.tables e below s _ _ _ (T20.setTop (mkF m 18 #[.val (.ref a), .val (.ref o), .val (.ref o)] [(.int y1)]))
  refine own_up ?_ fun t k => XS.aloadN X20.here hx rfl (hb hby own_d3_18) rfl rfl k
  show own_G p.tables e below s _ _ _ (T20.setTop (mkF m 19 #[.val (.ref a), .val (.ref o), .val (.ref o)] [(.ref a), (.int y1)]))
  obtain ⟨T21, X21, e21, st21⟩ := getF X20 hx hZ hown (host := "") (Or.inl (hw _ (List.mem_of_getElem? (i := 9) rfl))) Via.refl e20 Fa_top (g := (mkF m 19 #[.val (.ref a), .val (.ref o), .val (.ref o)] [(.ref a), (.int y1)])) rfl rfl (hb hby own_d3_19)
  refine own_up ?_ st21
  show own_G p.tables e below s _ _ _ (T21.setTop (mkF m 22 #[.val (.ref a), .val (.ref o), .val (.ref o)] [(.int x1), (.int y1)]))
  by_cases hc22_22 : y1 = x1
  · refine own_up ?_ fun t k => XS.icmpNo X21.here hx rfl (hb hby own_d3_22) rfl (teq hc22_22).2 k
    show own_G p.tables e below s _ _ _ (T21.setTop (mkF m 25 #[.val (.ref a), .val (.ref o), .val (.ref o)] []))
    refine own_up ?_ fun t k => XS.aloadN X21.here hx rfl (hb hby own_d3_25) rfl rfl k
    show own_G p.tables e below s _ _ _ (T21.setTop (mkF m 26 #[.val (.ref a), .val (.ref o), .val (.ref o)] [(.ref o)]))
    obtain ⟨T23, X23, e23, st23⟩ := getF X21 hx hZ hown (host := "") (Or.inl (hw _ (List.mem_of_getElem? (i := 11) rfl))) Via.refl e21 Fo_left (g := (mkF m 26 #[.val (.ref a), .val (.ref o), .val (.ref o)] [(.ref o)])) rfl rfl (hb hby own_d3_26)
    refine own_up ?_ st23
    show own_G p.tables e below s _ _ _ (T23.setTop (mkF m 29 #[.val (.ref a), .val (.ref o), .val (.ref o)] [(.int y2)]))
    refine own_up ?_ fun t k => XS.aloadN X23.here hx rfl (hb hby own_d3_29) rfl rfl k
    show own_G p.tables e below s _ _ _ (T23.setTop (mkF m 30 #[.val (.ref a), .val (.ref o), .val (.ref o)] [(.ref a), (.int y2)]))
    obtain ⟨T24, X24, e24, st24⟩ := getF X23 hx hZ hown (host := "") (Or.inl (hw _ (List.mem_of_getElem? (i := 11) rfl))) Via.refl e23 Fa_left (g := (mkF m 30 #[.val (.ref a), .val (.ref o), .val (.ref o)] [(.ref a), (.int y2)])) rfl rfl (hb hby own_d3_30)
    refine own_up ?_ st24
    show own_G p.tables e below s _ _ _ (T24.setTop (mkF m 33 #[.val (.ref a), .val (.ref o), .val (.ref o)] [(.int x2), (.int y2)]))
    by_cases hc33_25 : y2 = x2
    · refine own_up ?_ fun t k => XS.icmpNo X24.here hx rfl (hb hby own_d3_33) rfl (teq hc33_25).2 k
      show own_G p.tables e below s _ _ _ (T24.setTop (mkF m 36 #[.val (.ref a), .val (.ref o), .val (.ref o)] []))
      refine own_up ?_ fun t k => XS.aloadN X24.here hx rfl (hb hby own_d3_36) rfl rfl k
      show own_G p.tables e below s _ _ _ (T24.setTop (mkF m 37 #[.val (.ref a), .val (.ref o), .val (.ref o)] [(.ref o)]))
      obtain ⟨T26, X26, e26, st26⟩ := getF X24 hx hZ hown (host := "") (Or.inl (hw _ (List.mem_of_getElem? (i := 13) rfl))) Via.refl e24 Fo_bottom (g := (mkF m 37 #[.val (.ref a), .val (.ref o), .val (.ref o)] [(.ref o)])) rfl rfl (hb hby own_d3_37)
      refine own_up ?_ st26
      show own_G p.tables e below s _ _ _ (T26.setTop (mkF m 40 #[.val (.ref a), .val (.ref o), .val (.ref o)] [(.int y3)]))
      refine own_up ?_ fun t k => XS.aloadN X26.here hx rfl (hb hby own_d3_40) rfl rfl k
      show own_G p.tables e below s _ _ _ (T26.setTop (mkF m 41 #[.val (.ref a), .val (.ref o), .val (.ref o)] [(.ref a), (.int y3)]))
      obtain ⟨T27, X27, e27, st27⟩ := getF X26 hx hZ hown (host := "") (Or.inl (hw _ (List.mem_of_getElem? (i := 13) rfl))) Via.refl e26 Fa_bottom (g := (mkF m 41 #[.val (.ref a), .val (.ref o), .val (.ref o)] [(.ref a), (.int y3)])) rfl rfl (hb hby own_d3_41)
      refine own_up ?_ st27
      show own_G p.tables e below s _ _ _ (T27.setTop (mkF m 44 #[.val (.ref a), .val (.ref o), .val (.ref o)] [(.int x3), (.int y3)]))
      by_cases hc44_28 : y3 = x3
      · refine own_up ?_ fun t k => XS.icmpNo X27.here hx rfl (hb hby own_d3_44) rfl (teq hc44_28).2 k
        show own_G p.tables e below s _ _ _ (T27.setTop (mkF m 47 #[.val (.ref a), .val (.ref o), .val (.ref o)] []))
        refine own_up ?_ fun t k => XS.aloadN X27.here hx rfl (hb hby own_d3_47) rfl rfl k
        show own_G p.tables e below s _ _ _ (T27.setTop (mkF m 48 #[.val (.ref a), .val (.ref o), .val (.ref o)] [(.ref o)]))
        obtain ⟨T29, X29, e29, st29⟩ := getF X27 hx hZ hown (host := "") (Or.inl (hw _ (List.mem_of_getElem? (i := 15) rfl))) Via.refl e27 Fo_right (g := (mkF m 48 #[.val (.ref a), .val (.ref o), .val (.ref o)] [(.ref o)])) rfl rfl (hb hby own_d3_48)
        refine own_up ?_ st29
        show own_G p.tables e below s _ _ _ (T29.setTop (mkF m 51 #[.val (.ref a), .val (.ref o), .val (.ref o)] [(.int y4)]))
        refine own_up ?_ fun t k => XS.aloadN X29.here hx rfl (hb hby own_d3_51) rfl rfl k
        show own_G p.tables e below s _ _ _ (T29.setTop (mkF m 52 #[.val (.ref a), .val (.ref o), .val (.ref o)] [(.ref a), (.int y4)]))
        obtain ⟨T30, X30, e30, st30⟩ := getF X29 hx hZ hown (host := "") (Or.inl (hw _ (List.mem_of_getElem? (i := 15) rfl))) Via.refl e29 Fa_right (g := (mkF m 52 #[.val (.ref a), .val (.ref o), .val (.ref o)] [(.ref a), (.int y4)])) rfl rfl (hb hby own_d3_52)
        refine own_up ?_ st30
        show own_G p.tables e below s _ _ _ (T30.setTop (mkF m 55 #[.val (.ref a), .val (.ref o), .val (.ref o)] [(.int x4), (.int y4)]))
        by_cases hc55_31 : y4 = x4
        · refine own_up ?_ fun t k => XS.icmpNo X30.here hx rfl (hb hby own_d3_55) rfl (teq hc55_31).2 k
          show own_G p.tables e below s _ _ _ (T30.setTop (mkF m 58 #[.val (.ref a), .val (.ref o), .val (.ref o)] []))
          refine own_up ?_ fun t k => XS.iconst X30.here hx rfl (hb hby own_d3_58) k
          show own_G p.tables e below s _ _ _ (T30.setTop (mkF m 59 #[.val (.ref a), .val (.ref o), .val (.ref o)] [(.int (1 : Int32))]))
          refine own_up ?_ fun t k => XS.goto X30.here hx rfl (pc0 := 59) (pc' := 63) rfl (hb hby own_d3_59) (by decide) (by decide) k
          show own_G p.tables e below s _ _ _ (T30.setTop (mkF m 63 #[.val (.ref a), .val (.ref o), .val (.ref o)] [(.int (1 : Int32))]))
          exact own_retI X30 hx hlk Bd.returns (by simp) rfl (hb hby own_d3_63) ⟨congrArg (fun z => some (Value.int z)) (by simp only [own_eq, if_pos hc22_22, if_pos hc33_25, if_pos hc44_28, if_pos hc55_31]), N0, e30⟩ (by decide) (by decide)
        · refine own_up ?_ fun t k => XS.icmpYes X30.here hx rfl (pc0 := 55) (pc' := 62) rfl (hb hby own_d3_55) rfl (feq hc55_31).2 (by decide) (by decide) k
          show own_G p.tables e below s _ _ _ (T30.setTop (mkF m 62 #[.val (.ref a), .val (.ref o), .val (.ref o)] []))
          refine own_up ?_ fun t k => XS.iconst X30.here hx rfl (hb hby own_d3_62) k
          show own_G p.tables e below s _ _ _ (T30.setTop (mkF m 63 #[.val (.ref a), .val (.ref o), .val (.ref o)] [(.int (0 : Int32))]))
          exact own_retI X30 hx hlk Bd.returns (by simp) rfl (hb hby own_d3_63) ⟨congrArg (fun z => some (Value.int z)) (by simp only [own_eq, if_pos hc22_22, if_pos hc33_25, if_pos hc44_28, if_neg hc55_31]), N0, e30⟩ (by decide) (by decide)
      · refine own_up ?_ fun t k => XS.icmpYes X27.here hx rfl (pc0 := 44) (pc' := 62) rfl (hb hby own_d3_44) rfl (feq hc44_28).2 (by decide) (by decide) k
        show own_G p.tables e below s _ _ _ (T27.setTop (mkF m 62 #[.val (.ref a), .val (.ref o), .val (.ref o)] []))
        refine own_up ?_ fun t k => XS.iconst X27.here hx rfl (hb hby own_d3_62) k
        show own_G p.tables e below s _ _ _ (T27.setTop (mkF m 63 #[.val (.ref a), .val (.ref o), .val (.ref o)] [(.int (0 : Int32))]))
        exact own_retI X27 hx hlk Bd.returns (by simp) rfl (hb hby own_d3_63) ⟨congrArg (fun z => some (Value.int z)) (by simp only [own_eq, if_pos hc22_22, if_pos hc33_25, if_neg hc44_28]), N0, e27⟩ (by decide) (by decide)
    · refine own_up ?_ fun t k => XS.icmpYes X24.here hx rfl (pc0 := 33) (pc' := 62) rfl (hb hby own_d3_33) rfl (feq hc33_25).2 (by decide) (by decide) k
      show own_G p.tables e below s _ _ _ (T24.setTop (mkF m 62 #[.val (.ref a), .val (.ref o), .val (.ref o)] []))
      refine own_up ?_ fun t k => XS.iconst X24.here hx rfl (hb hby own_d3_62) k
      show own_G p.tables e below s _ _ _ (T24.setTop (mkF m 63 #[.val (.ref a), .val (.ref o), .val (.ref o)] [(.int (0 : Int32))]))
      exact own_retI X24 hx hlk Bd.returns (by simp) rfl (hb hby own_d3_63) ⟨congrArg (fun z => some (Value.int z)) (by simp only [own_eq, if_pos hc22_22, if_neg hc33_25]), N0, e24⟩ (by decide) (by decide)
  · refine own_up ?_ fun t k => XS.icmpYes X21.here hx rfl (pc0 := 22) (pc' := 62) rfl (hb hby own_d3_22) rfl (feq hc22_22).2 (by decide) (by decide) k
    show own_G p.tables e below s _ _ _ (T21.setTop (mkF m 62 #[.val (.ref a), .val (.ref o), .val (.ref o)] []))
    refine own_up ?_ fun t k => XS.iconst X21.here hx rfl (hb hby own_d3_62) k
    show own_G p.tables e below s _ _ _ (T21.setTop (mkF m 63 #[.val (.ref a), .val (.ref o), .val (.ref o)] [(.int (0 : Int32))]))
    exact own_retI X21 hx hlk Bd.returns (by simp) rfl (hb hby own_d3_63) ⟨congrArg (fun z => some (Value.int z)) (by simp only [own_eq, if_neg hc22_22]), N0, e21⟩ (by decide) (by decide)
theorem own_ef_rm3n (m : MethodId) (x0 : Addr) : entryFrame m #[(.ref x0), .null] 3 = mkF m 0 #[.val (.ref x0), .val .null, .unset] [] := by first | (simp [entryFrame, mkF, argsToLocals, Value.category]; done) | rfl
def own_Q_rm3n (Z : State) (a : Addr) (h0 : Heap) (n0 : Nat) (v : Option Value) (h : Heap) (L : List Loc) : Prop := v = some (.int (0 : Int32)) ∧ Fr n0 L ∧ h = h0
set_option maxRecDepth 65536 in
set_option maxHeartbeats 40000000 in
theorem rm3n (l : Launch) (Z : State) (a0 : Array Value) (hw : ∀ d ∈ tables_1, d.before a0 Z = true) (ws : List Jvm.Cond) (a : Addr) (h0 : Heap) (n0 : Nat) (Z0 : n0 ≤ h0.size) :
    MetFree l (⟨"mullion/Insets", "equals", "(Ljava/lang/Object;)Z"⟩ : MethodName) (head1 (Jvm.Cond.code (⟨"mullion/Insets", "equals", "(Ljava/lang/Object;)Z"⟩ : MethodName) prog_78_method_2_code 3 (some .boolean) :: ws) ({ frames := 0, cells := 0, slots := 0, locals := 0 } : Room)) (fun aa UU => aa = #[(.ref a), .null] ∧ Z.Warmed39 UU.vm ∧ UU.heap = h0) (fun _ _ _ _ _ => True) (fun _ UU oo UU' => ∃ vv LL, oo = .returned vv ∧ own_Q_rm3n Z a h0 n0 vv UU'.heap LL ∧ FrameEnd UU oo UU' LL ({ frames := 0, cells := 0, slots := 0, locals := 0 } : Room).cells ({ frames := 0, cells := 0, slots := 0, locals := 0 } : Room).slots) := by
  refine MetFree.of_bodySF (plainFor_of_name own_pn0) hisR ?_
  intro p e s m args below meth c s₁ Bd hml0 hP hK
  obtain ⟨rfl, hZ, hh⟩ := hP
  have hx := Bd.exec
  have hby := Bd.bytes
  have hlk := Bd.notSynchronized
  have hml : c.maxLocals = 3 := hml0
  have hown : s.vm.findClass "mullion/Insets" = some m.cls := findClass_of_methodNamed Bd.named
  have hnm := (name_of_methodNamed Bd.named Bd.method).1
  have X0 : Stand p l e ({ frames := 0, cells := 0, slots := 0, locals := 0 } : Room) s m #[(.ref a), .null] below meth c s₁ [] 0 0 := Stand.of_body Bd
  have e0 : s₁.heap = h0 := by rw [← hh, Bd.state]; rfl
  have N0 := Fr.nil n0
  show own_G p.tables e below s (own_Q_rm3n Z a h0 n0) ({ frames := 0, cells := 0, slots := 0, locals := 0 } : Room).cells ({ frames := 0, cells := 0, slots := 0, locals := 0 } : Room).slots (s₁.setTop (entryFrame m #[(.ref a), .null] 3))
  refine own_up (U' := s₁.setTop (mkF m 0 #[.val (.ref a), .val .null, .unset] [])) ?_ (fun t k => castTop (own_ef_rm3n m a) k)
  refine own_up ?_ fun t k => XS.aloadN X0.here hx rfl (hb hby own_d3_0) rfl rfl k
  show own_G p.tables e below s _ _ _ (s₁.setTop (mkF m 1 #[.val (.ref a), .val .null, .unset] [.null]))
  refine own_up ?_ fun t k => X0.instanceofNull hx (g := (mkF m 1 #[.val (.ref a), .val .null, .unset] [.null])) rfl rfl (hb hby own_d3_1) _ k
  show own_G p.tables e below s _ _ _ (s₁.setTop (mkF m 4 #[.val (.ref a), .val .null, .unset] [(.int (0 : Int32))]))
  refine own_up ?_ fun t k => XS.ifNo X0.here hx rfl (hb hby own_d3_4) rfl ((if0 _ _).trans (teq (by decide : ((0 : Int32) = (0 : Int32)))).2) k
  show own_G p.tables e below s _ _ _ (s₁.setTop (mkF m 7 #[.val (.ref a), .val .null, .unset] []))
  refine own_up ?_ fun t k => XS.iconst X0.here hx rfl (hb hby own_d3_7) k
  show own_G p.tables e below s _ _ _ (s₁.setTop (mkF m 8 #[.val (.ref a), .val .null, .unset] [(.int (0 : Int32))]))
  exact own_retI X0 hx hlk Bd.returns (by simp) rfl (hb hby own_d3_8) ⟨rfl, N0, e0⟩ (by decide) (by decide)
theorem own_ef_rm3x (m : MethodId) (x0 : Addr) (x1 : Addr) : entryFrame m #[(.ref x0), (.ref x1)] 3 = mkF m 0 #[.val (.ref x0), .val (.ref x1), .unset] [] := by first | (simp [entryFrame, mkF, argsToLocals, Value.category]; done) | rfl
def own_Q_rm3x (Z : State) (a : Addr) (o : Addr) (h0 : Heap) (n0 : Nat) (v : Option Value) (h : Heap) (L : List Loc) : Prop := v = some (.int (0 : Int32)) ∧ Fr n0 L ∧ h = h0
set_option maxRecDepth 65536 in
set_option maxHeartbeats 40000000 in
theorem rm3x (l : Launch) (Z : State) (a0 : Array Value) (hw : ∀ d ∈ tables_1, d.before a0 Z = true) (ws : List Jvm.Cond) (a : Addr) (o : Addr) (h0 : Heap) (n0 : Nat) (Z0 : n0 ≤ h0.size) (E_o : Exa Z h0 o "java/lang/String") :
    MetFree l (⟨"mullion/Insets", "equals", "(Ljava/lang/Object;)Z"⟩ : MethodName) (head1 (Jvm.Cond.code (⟨"mullion/Insets", "equals", "(Ljava/lang/Object;)Z"⟩ : MethodName) prog_78_method_2_code 3 (some .boolean) :: ws) ({ frames := 0, cells := 0, slots := 0, locals := 0 } : Room)) (fun aa UU => aa = #[(.ref a), (.ref o)] ∧ Z.Warmed39 UU.vm ∧ UU.heap = h0) (fun _ _ _ _ _ => True) (fun _ UU oo UU' => ∃ vv LL, oo = .returned vv ∧ own_Q_rm3x Z a o h0 n0 vv UU'.heap LL ∧ FrameEnd UU oo UU' LL ({ frames := 0, cells := 0, slots := 0, locals := 0 } : Room).cells ({ frames := 0, cells := 0, slots := 0, locals := 0 } : Room).slots) := by
  refine MetFree.of_bodySF (plainFor_of_name own_pn0) hisR ?_
  intro p e s m args below meth c s₁ Bd hml0 hP hK
  obtain ⟨rfl, hZ, hh⟩ := hP
  have hx := Bd.exec
  have hby := Bd.bytes
  have hlk := Bd.notSynchronized
  have hml : c.maxLocals = 3 := hml0
  have hown : s.vm.findClass "mullion/Insets" = some m.cls := findClass_of_methodNamed Bd.named
  have hnm := (name_of_methodNamed Bd.named Bd.method).1
  have X0 : Stand p l e ({ frames := 0, cells := 0, slots := 0, locals := 0 } : Room) s m #[(.ref a), (.ref o)] below meth c s₁ [] 0 0 := Stand.of_body Bd
  have e0 : s₁.heap = h0 := by rw [← hh, Bd.state]; rfl
  have N0 := Fr.nil n0
  show own_G p.tables e below s (own_Q_rm3x Z a o h0 n0) ({ frames := 0, cells := 0, slots := 0, locals := 0 } : Room).cells ({ frames := 0, cells := 0, slots := 0, locals := 0 } : Room).slots (s₁.setTop (entryFrame m #[(.ref a), (.ref o)] 3))
  refine own_up (U' := s₁.setTop (mkF m 0 #[.val (.ref a), .val (.ref o), .unset] [])) ?_ (fun t k => castTop (own_ef_rm3x m a o) k)
  refine own_up ?_ fun t k => XS.aloadN X0.here hx rfl (hb hby own_d3_0) rfl rfl k
  show own_G p.tables e below s _ _ _ (s₁.setTop (mkF m 1 #[.val (.ref a), .val (.ref o), .unset] [(.ref o)]))
  obtain ⟨T32, X32, e32, st32⟩ := instNo X0 hx hZ hown (hw _ (List.mem_of_getElem? (i := 22) rfl)) e0 E_o (own_no hw) (g := (mkF m 1 #[.val (.ref a), .val (.ref o), .unset] [(.ref o)])) rfl rfl (hb hby own_d3_1)
  refine own_up ?_ st32
  show own_G p.tables e below s _ _ _ (T32.setTop (mkF m 4 #[.val (.ref a), .val (.ref o), .unset] [(.int (0 : Int32))]))
  refine own_up ?_ fun t k => XS.ifNo X32.here hx rfl (hb hby own_d3_4) rfl ((if0 _ _).trans (teq (by decide : ((0 : Int32) = (0 : Int32)))).2) k
  show own_G p.tables e below s _ _ _ (T32.setTop (mkF m 7 #[.val (.ref a), .val (.ref o), .unset] []))
  refine own_up ?_ fun t k => XS.iconst X32.here hx rfl (hb hby own_d3_7) k
  show own_G p.tables e below s _ _ _ (T32.setTop (mkF m 8 #[.val (.ref a), .val (.ref o), .unset] [(.int (0 : Int32))]))
  exact own_retI X32 hx hlk Bd.returns (by simp) rfl (hb hby own_d3_8) ⟨rfl, N0, e32⟩ (by decide) (by decide)
theorem own_d5_0 : decode jdk_43_method_3_code 0 = .ok (.iload_n 0, 1) := by decide +kernel
theorem own_d5_1 : decode jdk_43_method_3_code 1 = .ok (.sipush 255, 3) := by decide +kernel
theorem own_d5_4 : decode jdk_43_method_3_code 4 = .ok (.if_icmp .gt 7, 3) := by decide +kernel
theorem own_d5_7 : decode jdk_43_method_3_code 7 = .ok (.iconst 1, 1) := by decide +kernel
theorem own_d5_8 : decode jdk_43_method_3_code 8 = .ok (.goto 4, 3) := by decide +kernel
theorem own_d5_11 : decode jdk_43_method_3_code 11 = .ok (.iconst 0, 1) := by decide +kernel
theorem own_d5_12 : decode jdk_43_method_3_code 12 = .ok (.ireturn, 1) := by decide +kernel
theorem own_pn1 : plainName "java/lang/StringLatin1" = true := by first | (simp [plainName, overriddenIn]; done) | decide +kernel
theorem own_ef_rm5 (m : MethodId) (x0 : Int32) : entryFrame m #[(.int x0)] 1 = mkF m 0 #[.val (.int x0)] [] := by first | (simp [entryFrame, mkF, argsToLocals, Value.category]; done) | rfl
def own_Q_rm5 (Z : State) (c1 : Int32) (h0 : Heap) (n0 : Nat) (v : Option Value) (h : Heap) (L : List Loc) : Prop := v = some (.int (own_can c1)) ∧ Fr n0 L ∧ h = h0
set_option maxRecDepth 65536 in
set_option maxHeartbeats 40000000 in
theorem rm5 (l : Launch) (Z : State) (a0 : Array Value) (hw : ∀ d ∈ tables_1, d.before a0 Z = true) (ws : List Jvm.Cond) (c1 : Int32) (h0 : Heap) (n0 : Nat) (Z0 : n0 ≤ h0.size) :
    MetFree l (⟨"java/lang/StringLatin1", "canEncode", "(C)Z"⟩ : MethodName) (head1 (Jvm.Cond.code (⟨"java/lang/StringLatin1", "canEncode", "(C)Z"⟩ : MethodName) jdk_43_method_3_code 1 (some .boolean) :: ws) ({ frames := 0, cells := 0, slots := 0, locals := 0 } : Room)) (fun aa UU => aa = #[(.int c1)] ∧ Z.Warmed39 UU.vm ∧ UU.heap = h0) (fun _ _ _ _ _ => True) (fun _ UU oo UU' => ∃ vv LL, oo = .returned vv ∧ own_Q_rm5 Z c1 h0 n0 vv UU'.heap LL ∧ FrameEnd UU oo UU' LL ({ frames := 0, cells := 0, slots := 0, locals := 0 } : Room).cells ({ frames := 0, cells := 0, slots := 0, locals := 0 } : Room).slots) := by
  refine MetFree.of_bodySF (plainFor_of_name own_pn1) hisR ?_
  intro p e s m args below meth c s₁ Bd hml0 hP hK
  obtain ⟨rfl, hZ, hh⟩ := hP
  have hx := Bd.exec
  have hby := Bd.bytes
  have hlk := Bd.notSynchronized
  have hml : c.maxLocals = 1 := hml0
  have hown : s.vm.findClass "java/lang/StringLatin1" = some m.cls := findClass_of_methodNamed Bd.named
  have hnm := (name_of_methodNamed Bd.named Bd.method).1
  have X0 : Stand p l e ({ frames := 0, cells := 0, slots := 0, locals := 0 } : Room) s m #[(.int c1)] below meth c s₁ [] 0 0 := Stand.of_body Bd
  have e0 : s₁.heap = h0 := by rw [← hh, Bd.state]; rfl
  have N0 := Fr.nil n0
  show own_G p.tables e below s (own_Q_rm5 Z c1 h0 n0) ({ frames := 0, cells := 0, slots := 0, locals := 0 } : Room).cells ({ frames := 0, cells := 0, slots := 0, locals := 0 } : Room).slots (s₁.setTop (entryFrame m #[(.int c1)] 1))
  refine own_up (U' := s₁.setTop (mkF m 0 #[.val (.int c1)] [])) ?_ (fun t k => castTop (own_ef_rm5 m c1) k)
  refine own_up ?_ fun t k => XS.iloadN X0.here hx rfl (hb hby own_d5_0) rfl k
  show own_G p.tables e below s _ _ _ (s₁.setTop (mkF m 1 #[.val (.int c1)] [(.int c1)]))
  refine own_up ?_ fun t k => XS.sipush X0.here hx rfl (hb hby own_d5_1) k
  show own_G p.tables e below s _ _ _ (s₁.setTop (mkF m 4 #[.val (.int c1)] [(.int (255 : Int32)), (.int c1)]))
  by_cases hc4_33 : (255 : Int32) < c1
  · refine own_up ?_ fun t k => XS.icmpYes X0.here hx rfl (pc0 := 4) (pc' := 11) rfl (hb hby own_d5_4) rfl (tlt hc4_33).2.2.1 (by decide) (by decide) k
    show own_G p.tables e below s _ _ _ (s₁.setTop (mkF m 11 #[.val (.int c1)] []))
    refine own_up ?_ fun t k => XS.iconst X0.here hx rfl (hb hby own_d5_11) k
    show own_G p.tables e below s _ _ _ (s₁.setTop (mkF m 12 #[.val (.int c1)] [(.int (0 : Int32))]))
    exact own_retI X0 hx hlk Bd.returns (by simp) rfl (hb hby own_d5_12) ⟨congrArg (fun z => some (Value.int z)) (by simp only [own_can, if_pos hc4_33]), N0, e0⟩ (by decide) (by decide)
  · refine own_up ?_ fun t k => XS.icmpNo X0.here hx rfl (hb hby own_d5_4) rfl (flt hc4_33).2.2.1 k
    show own_G p.tables e below s _ _ _ (s₁.setTop (mkF m 7 #[.val (.int c1)] []))
    refine own_up ?_ fun t k => XS.iconst X0.here hx rfl (hb hby own_d5_7) k
    show own_G p.tables e below s _ _ _ (s₁.setTop (mkF m 8 #[.val (.int c1)] [(.int (1 : Int32))]))
    refine own_up ?_ fun t k => XS.goto X0.here hx rfl (pc0 := 8) (pc' := 12) rfl (hb hby own_d5_8) (by decide) (by decide) k
    show own_G p.tables e below s _ _ _ (s₁.setTop (mkF m 12 #[.val (.int c1)] [(.int (1 : Int32))]))
    exact own_retI X0 hx hlk Bd.returns (by simp) rfl (hb hby own_d5_12) ⟨congrArg (fun z => some (Value.int z)) (by simp only [own_can, if_neg hc4_33]), N0, e0⟩ (by decide) (by decide)
theorem own_d6_0 : decode jdk_43_method_46_code 0 = .ok (.iconst 1, 1) := by decide +kernel
theorem own_d6_1 : decode jdk_43_method_46_code 1 = .ok (.newarray .byte, 2) := by decide +kernel
theorem own_d6_3 : decode jdk_43_method_46_code 3 = .ok (.dup, 1) := by decide +kernel
theorem own_d6_4 : decode jdk_43_method_46_code 4 = .ok (.iconst 0, 1) := by decide +kernel
theorem own_d6_5 : decode jdk_43_method_46_code 5 = .ok (.iload_n 0, 1) := by decide +kernel
theorem own_d6_6 : decode jdk_43_method_46_code 6 = .ok (.i2b, 1) := by decide +kernel
theorem own_d6_7 : decode jdk_43_method_46_code 7 = .ok (.bastore, 1) := by decide +kernel
theorem own_d6_8 : decode jdk_43_method_46_code 8 = .ok (.areturn, 1) := by decide +kernel
theorem own_ef_rm6 (m : MethodId) (x0 : Int32) : entryFrame m #[(.int x0)] 1 = mkF m 0 #[.val (.int x0)] [] := by first | (simp [entryFrame, mkF, argsToLocals, Value.category]; done) | rfl
def own_Q_rm6 (Z : State) (c1 : Int32) (h0 : Heap) (n0 : Nat) (v : Option Value) (h : Heap) (L : List Loc) : Prop := ∃ b : Addr, v = some (.ref b) ∧ Fr n0 L ∧ Keep h0 h []
set_option maxRecDepth 65536 in
set_option maxHeartbeats 40000000 in
theorem rm6 (l : Launch) (Z : State) (a0 : Array Value) (hw : ∀ d ∈ tables_1, d.before a0 Z = true) (ws : List Jvm.Cond) (c1 : Int32) (h0 : Heap) (n0 : Nat) (Z0 : n0 ≤ h0.size) :
    MetFree l (⟨"java/lang/StringLatin1", "toBytes", "(C)[B"⟩ : MethodName) (head1 (Jvm.Cond.code (⟨"java/lang/StringLatin1", "toBytes", "(C)[B"⟩ : MethodName) jdk_43_method_46_code 1 (some (.array .byte)) :: ws) ({ frames := 0, cells := 1, slots := 1, locals := 0 } : Room)) (fun aa UU => aa = #[(.int c1)] ∧ Z.Warmed39 UU.vm ∧ UU.heap = h0) (fun _ _ _ _ _ => True) (fun _ UU oo UU' => ∃ vv LL, oo = .returned vv ∧ own_Q_rm6 Z c1 h0 n0 vv UU'.heap LL ∧ FrameEnd UU oo UU' LL ({ frames := 0, cells := 1, slots := 1, locals := 0 } : Room).cells ({ frames := 0, cells := 1, slots := 1, locals := 0 } : Room).slots) := by
  refine MetFree.of_bodySF (plainFor_of_name own_pn1) hisR ?_
  intro p e s m args below meth c s₁ Bd hml0 hP hK
  obtain ⟨rfl, hZ, hh⟩ := hP
  have hx := Bd.exec
  have hby := Bd.bytes
  have hlk := Bd.notSynchronized
  have hml : c.maxLocals = 1 := hml0
  have hown : s.vm.findClass "java/lang/StringLatin1" = some m.cls := findClass_of_methodNamed Bd.named
  have hnm := (name_of_methodNamed Bd.named Bd.method).1
  have X0 : Stand p l e ({ frames := 0, cells := 1, slots := 1, locals := 0 } : Room) s m #[(.int c1)] below meth c s₁ [] 0 0 := Stand.of_body Bd
  have e0 : s₁.heap = h0 := by rw [← hh, Bd.state]; rfl
  have N0 := Fr.nil n0
  show own_G p.tables e below s (own_Q_rm6 Z c1 h0 n0) ({ frames := 0, cells := 1, slots := 1, locals := 0 } : Room).cells ({ frames := 0, cells := 1, slots := 1, locals := 0 } : Room).slots (s₁.setTop (entryFrame m #[(.int c1)] 1))
  have K0 := Keep.refl h0 []
  refine own_up (U' := s₁.setTop (mkF m 0 #[.val (.int c1)] [])) ?_ (fun t k => castTop (own_ef_rm6 m c1) k)
  refine own_up ?_ fun t k => XS.iconst X0.here hx rfl (hb hby own_d6_0) k
  show own_G p.tables e below s _ _ _ (s₁.setTop (mkF m 1 #[.val (.int c1)] [(.int (1 : Int32))]))
  obtain ⟨T34, h34, k34, X34, e34, E34, A34, st34⟩ := newP X0 hx hZ (hw _ (List.mem_of_getElem? (i := 38) rfl)) e0 (g := (mkF m 1 #[.val (.int c1)] [(.int (1 : Int32))])) rfl (hb hby own_d6_1) rfl (by decide) (cap := 1) (by decide) (by decide) (by decide) (by decide)
  obtain ⟨b34, g34⟩ : ∃ z, z = h0.size := ⟨_, rfl⟩
  rw [← g34] at A34 st34
  refine own_up ?_ st34
  have ge35 : n0 ≤ b34 := Nat.le_trans Z0 (Nat.le_of_eq g34.symm)
  have sz36 : h0.size ≤ b34 := Nat.le_trans K0.1 (Nat.le_of_eq g34.symm)
  have Zs38 : n0 ≤ h34.size := Nat.le_trans Z0 E34.1
  have K39 : Keep h0 h34 [] := K0.ext E34
  have V_b34 : Arv Z h34 b34 k34 .byte (1 : Int32) [(.int (0 : Int32))] (.int (0 : Int32)) := (Arv.new A34 (by decide)).pad (pad_rep [] (.int (0 : Int32)) 1)
  show own_G p.tables e below s _ _ _ (T34.setTop (mkF m 3 #[.val (.int c1)] [(.ref b34)]))
  refine own_up ?_ fun t k => XS.dup X34.here hx rfl (hb hby own_d6_3) rfl rfl k
  show own_G p.tables e below s _ _ _ (T34.setTop (mkF m 4 #[.val (.int c1)] [(.ref b34), (.ref b34)]))
  refine own_up ?_ fun t k => XS.iconst X34.here hx rfl (hb hby own_d6_4) k
  show own_G p.tables e below s _ _ _ (T34.setTop (mkF m 5 #[.val (.int c1)] [(.int (0 : Int32)), (.ref b34), (.ref b34)]))
  refine own_up ?_ fun t k => XS.iloadN X34.here hx rfl (hb hby own_d6_5) rfl k
  show own_G p.tables e below s _ _ _ (T34.setTop (mkF m 6 #[.val (.int c1)] [(.int c1), (.int (0 : Int32)), (.ref b34), (.ref b34)]))
  refine own_up ?_ fun t k => XS.i2b X34.here hx rfl (hb hby own_d6_6) rfl k
  show own_G p.tables e below s _ _ _ (T34.setTop (mkF m 7 #[.val (.int c1)] [(.int (c1.toInt8.toInt32)), (.int (0 : Int32)), (.ref b34), (.ref b34)]))
  obtain ⟨cl40, Ar40, qa40, Sa40, Na40, Ha40, Ga40⟩ := V_b34
  have hin40 : ¬ ((0 : Int32) < 0 ∨ cl40.slots.size ≤ ((0 : Int32)).toNatClampNeg) := inb_of Sa40 ⟨by decide, by decide⟩
  obtain ⟨T40, h40, X40, e40, W40, st40⟩ := stB X34 hx hZ e34 Ar40 (j := (0 : Int32)) hin40 (g := (mkF m 7 #[.val (.int c1)] [(.int (c1.toInt8.toInt32)), (.int (0 : Int32)), (.ref b34), (.ref b34)])) rfl rfl (hb hby own_d6_7)
  refine own_up ?_ st40
  have V40 := Arv.set Ar40 qa40 Sa40 Na40 Ha40 Ga40 (fits_nar_byte _) W40 0 rfl (Nat.le_of_ble_eq_true rfl)
  have N40 := Fr.snoc X40 N0 ge35
  have Zs42 : n0 ≤ h40.size := Nat.le_trans Zs38 (Keep.of_wr W40).1
  have K43 : Keep h0 h40 [] := K39.wr W40 (Or.inr sz36)
  show own_G p.tables e below s _ _ _ (T40.setTop (mkF m 8 #[.val (.int c1)] [(.ref b34)]))
  exact own_retA X40 hx hlk Bd.returns rfl rfl (hb hby own_d6_8) (by rw [e40]; exact ⟨b34, rfl, N40, K43⟩) (by decide) (by decide)
theorem own_d7_0 : decode jdk_42_method_151_code 0 = .ok (.aload_n 0, 1) := by decide +kernel
theorem own_d7_1 : decode jdk_42_method_151_code 1 = .ok (.invokespecial 1, 3) := by decide +kernel
theorem own_d7_4 : decode jdk_42_method_151_code 4 = .ok (.aload_n 0, 1) := by decide +kernel
theorem own_d7_5 : decode jdk_42_method_151_code 5 = .ok (.aload_n 1, 1) := by decide +kernel
theorem own_d7_6 : decode jdk_42_method_151_code 6 = .ok (.putfield 9, 3) := by decide +kernel
theorem own_d7_9 : decode jdk_42_method_151_code 9 = .ok (.aload_n 0, 1) := by decide +kernel
theorem own_d7_10 : decode jdk_42_method_151_code 10 = .ok (.iload_n 2, 1) := by decide +kernel
theorem own_d7_11 : decode jdk_42_method_151_code 11 = .ok (.putfield 15, 3) := by decide +kernel
theorem own_d7_14 : decode jdk_42_method_151_code 14 = .ok (.return_, 1) := by decide +kernel
theorem own_pn2 : plainName "java/lang/String" = true := by first | (simp [plainName, overriddenIn]; done) | decide +kernel
theorem own_ef_rm7 (m : MethodId) (x0 : Addr) (x1 : Addr) (x2 : Int32) : entryFrame m #[(.ref x0), (.ref x1), (.int x2)] 3 = mkF m 0 #[.val (.ref x0), .val (.ref x1), .val (.int x2)] [] := by first | (simp [entryFrame, mkF, argsToLocals, Value.category]; done) | rfl
def own_Q_rm7 (Z : State) (a : Addr) (b : Addr) (by1 : Int32) (u1 : Value) (u2 : Value) (h0 : Heap) (n0 : Nat) (v : Option Value) (h : Heap) (L : List Loc) : Prop := v = none ∧ Fr n0 L ∧ Keep h0 h [a]
set_option maxRecDepth 65536 in
set_option maxHeartbeats 40000000 in
theorem rm7 (l : Launch) (Z : State) (a0 : Array Value) (hw : ∀ d ∈ tables_1, d.before a0 Z = true) (ws : List Jvm.Cond) (a : Addr) (b : Addr) (by1 : Int32) (u1 : Value) (u2 : Value) (h0 : Heap) (n0 : Nat) (Z0 : n0 ≤ h0.size) (E_a : Exa Z h0 a "java/lang/String") (F_v : Fld Z h0 a "java/lang/String" "value" "[B" u1) (F_c : Fld Z h0 a "java/lang/String" "coder" "B" u2) (g_a : n0 ≤ a) :
    MetFree l (⟨"java/lang/String", "<init>", "([BB)V"⟩ : MethodName) (head1 (Jvm.Cond.code (⟨"java/lang/String", "<init>", "([BB)V"⟩ : MethodName) jdk_42_method_151_code 3 none :: ws) ({ frames := 1, cells := 0, slots := 0, locals := 12 } : Room)) (fun aa UU => aa = #[(.ref a), (.ref b), (.int by1)] ∧ Z.Warmed39 UU.vm ∧ UU.heap = h0) (fun _ _ _ _ _ => True) (fun _ UU oo UU' => ∃ vv LL, oo = .returned vv ∧ own_Q_rm7 Z a b by1 u1 u2 h0 n0 vv UU'.heap LL ∧ FrameEnd UU oo UU' LL ({ frames := 1, cells := 0, slots := 0, locals := 12 } : Room).cells ({ frames := 1, cells := 0, slots := 0, locals := 12 } : Room).slots) := by
  refine MetFree.of_bodySF (plainFor_of_name own_pn2) hisR ?_
  intro p e s m args below meth c s₁ Bd hml0 hP hK
  obtain ⟨rfl, hZ, hh⟩ := hP
  have hx := Bd.exec
  have hby := Bd.bytes
  have hlk := Bd.notSynchronized
  have hml : c.maxLocals = 3 := hml0
  have hown : s.vm.findClass "java/lang/String" = some m.cls := findClass_of_methodNamed Bd.named
  have hnm := (name_of_methodNamed Bd.named Bd.method).1
  have X0 : Stand p l e ({ frames := 1, cells := 0, slots := 0, locals := 12 } : Room) s m #[(.ref a), (.ref b), (.int by1)] below meth c s₁ [] 0 0 := Stand.of_body Bd
  have e0 : s₁.heap = h0 := by rw [← hh, Bd.state]; rfl
  have N0 := Fr.nil n0
  show own_G p.tables e below s (own_Q_rm7 Z a b by1 u1 u2 h0 n0) ({ frames := 1, cells := 0, slots := 0, locals := 12 } : Room).cells ({ frames := 1, cells := 0, slots := 0, locals := 12 } : Room).slots (s₁.setTop (entryFrame m #[(.ref a), (.ref b), (.int by1)] 3))
  have K0 := Keep.refl h0 [a]
  refine own_up (U' := s₁.setTop (mkF m 0 #[.val (.ref a), .val (.ref b), .val (.int by1)] [])) ?_ (fun t k => castTop (own_ef_rm7 m a b by1) k)
  refine own_up ?_ fun t k => XS.aloadN X0.here hx rfl (hb hby own_d7_0) rfl rfl k
  show own_G p.tables e below s _ _ _ (s₁.setTop (mkF m 1 #[.val (.ref a), .val (.ref b), .val (.int by1)] [(.ref a)]))
  obtain ⟨T44, X44, e44, st44⟩ := initO X0 hx hZ hown (hw _ (List.mem_of_getElem? (i := 43) rfl)) (hw _ (List.mem_of_getElem? (i := 7) rfl)) (hw _ (List.mem_of_getElem? (i := 8) rfl)) e0 (g := (mkF m 1 #[.val (.ref a), .val (.ref b), .val (.int by1)] [(.ref a)])) rfl (by rw [hml]; rfl) rfl (hb hby own_d7_1) (by decide) (W := 0) (by show 2 * 0 + _ ≤ _; exact Nat.le_of_eq rfl) (by decide)
  refine own_up ?_ st44
  show own_G p.tables e below s _ _ _ (T44.setTop (mkF m 4 #[.val (.ref a), .val (.ref b), .val (.int by1)] []))
  refine own_up ?_ fun t k => XS.aloadN X44.here hx rfl (hb hby own_d7_4) rfl rfl k
  show own_G p.tables e below s _ _ _ (T44.setTop (mkF m 5 #[.val (.ref a), .val (.ref b), .val (.int by1)] [(.ref a)]))
  refine own_up ?_ fun t k => XS.aloadN X44.here hx rfl (hb hby own_d7_5) rfl rfl k
  show own_G p.tables e below s _ _ _ (T44.setTop (mkF m 6 #[.val (.ref a), .val (.ref b), .val (.int by1)] [(.ref b), (.ref a)]))
  obtain ⟨T45, h45, X45, e45, W45, st45⟩ := putF X44 hx hZ hown (host := "") (Or.inl (hw _ (List.mem_of_getElem? (i := 44) rfl))) Via.refl e44 F_v E_a (Or.inr ⟨(hw _ (List.mem_of_getElem? (i := 45) rfl)), rfl, hnm⟩) (hw _ (List.mem_of_getElem? (i := 34) rfl)) (ty := (.array .byte)) (by decide) rfl rfl (g := (mkF m 6 #[.val (.ref a), .val (.ref b), .val (.int by1)] [(.ref b), (.ref a)])) rfl rfl (hb hby own_d7_6)
  refine own_up ?_ st45
  have E_a_c46 := E_a.wr W45
  have F_c_c46 := F_c.other W45 (Or.inr (slot_ne (Or.inr (hw _ (List.mem_of_getElem? (i := 47) rfl))) (Or.inr (hw _ (List.mem_of_getElem? (i := 45) rfl))) (by decide) (t := .byte) (t' := (.array .byte)) (by decide) (by decide)))
  have F45 := F_v.same W45
  have N45 := Fr.snoc X45 N0 g_a
  have Zs47 : n0 ≤ h45.size := Nat.le_trans Z0 (Keep.of_wr W45).1
  have K48 : Keep h0 h45 [a] := K0.wr W45 (Or.inl (List.mem_of_getElem? (i := 0) rfl))
  show own_G p.tables e below s _ _ _ (T45.setTop (mkF m 9 #[.val (.ref a), .val (.ref b), .val (.int by1)] []))
  refine own_up ?_ fun t k => XS.aloadN X45.here hx rfl (hb hby own_d7_9) rfl rfl k
  show own_G p.tables e below s _ _ _ (T45.setTop (mkF m 10 #[.val (.ref a), .val (.ref b), .val (.int by1)] [(.ref a)]))
  refine own_up ?_ fun t k => XS.iloadN X45.here hx rfl (hb hby own_d7_10) rfl k
  show own_G p.tables e below s _ _ _ (T45.setTop (mkF m 11 #[.val (.ref a), .val (.ref b), .val (.int by1)] [(.int by1), (.ref a)]))
  obtain ⟨T49, h49, X49, e49, W49, st49⟩ := putFN X45 hx hZ hown (hw _ (List.mem_of_getElem? (i := 46) rfl)) Via.refl e45 F_c_c46 E_a_c46 (Or.inr ⟨(hw _ (List.mem_of_getElem? (i := 47) rfl)), rfl, hnm⟩) (hw _ (List.mem_of_getElem? (i := 34) rfl)) (ty := .byte) (v' := .int (nar .byte by1)) (by decide) rfl (fits_nar_byte _) (g := (mkF m 11 #[.val (.ref a), .val (.ref b), .val (.int by1)] [(.int by1), (.ref a)])) rfl rfl (hb hby own_d7_11)
  refine own_up ?_ st49
  have E_a_c50 := E_a_c46.wr W49
  have F45_c50 := F45.other W49 (Or.inr (slot_ne (Or.inr (hw _ (List.mem_of_getElem? (i := 45) rfl))) (Or.inr (hw _ (List.mem_of_getElem? (i := 47) rfl))) (by decide) (t := (.array .byte)) (t' := .byte) (by decide) (by decide)))
  have F49 := F_c_c46.same W49
  have N49 := Fr.snoc X49 N45 g_a
  have Zs51 : n0 ≤ h49.size := Nat.le_trans Zs47 (Keep.of_wr W49).1
  have K52 : Keep h0 h49 [a] := K48.wr W49 (Or.inl (List.mem_of_getElem? (i := 0) rfl))
  show own_G p.tables e below s _ _ _ (T49.setTop (mkF m 14 #[.val (.ref a), .val (.ref b), .val (.int by1)] []))
  exact own_retV X49 hx hlk Bd.returns (hb hby own_d7_14) (by rw [e49]; exact ⟨rfl, N49, K52⟩) (by decide) (by decide)
theorem own_d4_0 : decode jdk_42_method_139_code 0 = .ok (.getstatic 38, 3) := by decide +kernel
theorem own_d4_3 : decode jdk_42_method_139_code 3 = .ok (.ifCond .eq 23, 3) := by decide +kernel
theorem own_d4_6 : decode jdk_42_method_139_code 6 = .ok (.iload_n 0, 1) := by decide +kernel
theorem own_d4_7 : decode jdk_42_method_139_code 7 = .ok (.invokestatic 1015, 3) := by decide +kernel
theorem own_d4_10 : decode jdk_42_method_139_code 10 = .ok (.ifCond .eq 16, 3) := by decide +kernel
theorem own_d4_13 : decode jdk_42_method_139_code 13 = .ok (.new 10, 3) := by decide +kernel
theorem own_d4_16 : decode jdk_42_method_139_code 16 = .ok (.dup, 1) := by decide +kernel
theorem own_d4_17 : decode jdk_42_method_139_code 17 = .ok (.iload_n 0, 1) := by decide +kernel
theorem own_d4_18 : decode jdk_42_method_139_code 18 = .ok (.invokestatic 1018, 3) := by decide +kernel
theorem own_d4_21 : decode jdk_42_method_139_code 21 = .ok (.iconst 0, 1) := by decide +kernel
theorem own_d4_22 : decode jdk_42_method_139_code 22 = .ok (.invokespecial 209, 3) := by decide +kernel
theorem own_d4_25 : decode jdk_42_method_139_code 25 = .ok (.areturn, 1) := by decide +kernel
theorem own_d4_26 : decode jdk_42_method_139_code 26 = .ok (.new 10, 3) := by decide +kernel
theorem own_d4_29 : decode jdk_42_method_139_code 29 = .ok (.dup, 1) := by decide +kernel
theorem own_d4_30 : decode jdk_42_method_139_code 30 = .ok (.iload_n 0, 1) := by decide +kernel
theorem own_d4_31 : decode jdk_42_method_139_code 31 = .ok (.invokestatic 1021, 3) := by decide +kernel
theorem own_d4_34 : decode jdk_42_method_139_code 34 = .ok (.iconst 1, 1) := by decide +kernel
theorem own_d4_35 : decode jdk_42_method_139_code 35 = .ok (.invokespecial 209, 3) := by decide +kernel
theorem own_d4_38 : decode jdk_42_method_139_code 38 = .ok (.areturn, 1) := by decide +kernel
theorem own_ef_rm4 (m : MethodId) (x0 : Int32) : entryFrame m #[(.int x0)] 1 = mkF m 0 #[.val (.int x0)] [] := by first | (simp [entryFrame, mkF, argsToLocals, Value.category]; done) | rfl
def own_Q_rm4 (Z : State) (c1 : Int32) (ci : Int32) (h0 : Heap) (n0 : Nat) (v : Option Value) (h : Heap) (L : List Loc) : Prop := ∃ b : Addr, v = some (.ref b) ∧ Fr n0 L ∧ Keep h0 h [] ∧ Exa Z h b "java/lang/String"
set_option maxRecDepth 65536 in
set_option maxHeartbeats 40000000 in
theorem rm4 (l : Launch) (Z : State) (a0 : Array Value) (hw : ∀ d ∈ tables_1, d.before a0 Z = true) (ws : List Jvm.Cond) (c1 : Int32) (ci : Int32) (h0 : Heap) (n0 : Nat) (Z0 : n0 ≤ h0.size) (O : Old Z n0 h0) (S_c : Sta Z Z.heap "java/lang/String" "COMPACT_STRINGS" "Z" (.int ci)) (hci : ¬ (ci = (0 : Int32))) (hc : ¬ ((255 : Int32) < c1)) :
    MetFree l (⟨"java/lang/String", "valueOf", "(C)Ljava/lang/String;"⟩ : MethodName) (head1 (Jvm.Cond.code (⟨"java/lang/String", "valueOf", "(C)Ljava/lang/String;"⟩ : MethodName) jdk_42_method_139_code 1 (some (.object "java/lang/String")) :: ws) ({ frames := 2, cells := 2, slots := 5, locals := 27 } : Room)) (fun aa UU => aa = #[(.int c1)] ∧ Z.Warmed39 UU.vm ∧ UU.heap = h0) (fun _ _ _ _ _ => True) (fun _ UU oo UU' => ∃ vv LL, oo = .returned vv ∧ own_Q_rm4 Z c1 ci h0 n0 vv UU'.heap LL ∧ FrameEnd UU oo UU' LL ({ frames := 2, cells := 2, slots := 5, locals := 27 } : Room).cells ({ frames := 2, cells := 2, slots := 5, locals := 27 } : Room).slots) := by
  refine MetFree.of_bodySF (plainFor_of_name own_pn2) hisR ?_
  intro p e s m args below meth c s₁ Bd hml0 hP hK
  obtain ⟨rfl, hZ, hh⟩ := hP
  have hx := Bd.exec
  have hby := Bd.bytes
  have hlk := Bd.notSynchronized
  have hml : c.maxLocals = 1 := hml0
  have hown : s.vm.findClass "java/lang/String" = some m.cls := findClass_of_methodNamed Bd.named
  have hnm := (name_of_methodNamed Bd.named Bd.method).1
  have X0 : Stand p l e ({ frames := 2, cells := 2, slots := 5, locals := 27 } : Room) s m #[(.int c1)] below meth c s₁ [] 0 0 := Stand.of_body Bd
  have e0 : s₁.heap = h0 := by rw [← hh, Bd.state]; rfl
  have N0 := Fr.nil n0
  show own_G p.tables e below s (own_Q_rm4 Z c1 ci h0 n0) ({ frames := 2, cells := 2, slots := 5, locals := 27 } : Room).cells ({ frames := 2, cells := 2, slots := 5, locals := 27 } : Room).slots (s₁.setTop (entryFrame m #[(.int c1)] 1))
  have K0 := Keep.refl h0 []
  refine own_up (U' := s₁.setTop (mkF m 0 #[.val (.int c1)] [])) ?_ (fun t k => castTop (own_ef_rm4 m c1) k)
  obtain ⟨T53, X53, e53, st53⟩ := getS2 X0 hx hZ hown (host := "") (Or.inl (hw _ (List.mem_of_getElem? (i := 28) rfl))) Via.refl e0 (S_c.ext O.2) (g := (mkF m 0 #[.val (.int c1)] [])) rfl (hb hby own_d4_0)
  refine own_up ?_ st53
  show own_G p.tables e below s _ _ _ (T53.setTop (mkF m 3 #[.val (.int c1)] [(.int ci)]))
  refine own_up ?_ fun t k => XS.ifNo X53.here hx rfl (hb hby own_d4_3) rfl ((if0 _ _).trans (feq (hci : ¬ (ci = (0 : Int32)))).1) k
  show own_G p.tables e below s _ _ _ (T53.setTop (mkF m 6 #[.val (.int c1)] []))
  refine own_up ?_ fun t k => XS.iloadN X53.here hx rfl (hb hby own_d4_6) rfl k
  show own_G p.tables e below s _ _ _ (T53.setTop (mkF m 7 #[.val (.int c1)] [(.int c1)]))
  obtain ⟨_, _, ⟨T54, L54, k54, n54⟩, -, X54, ⟨Lc54, hQ54, l54, y54, z54⟩, st54⟩ := Jvm.LawKit.callS X53 hx (y := (⟨"java/lang/StringLatin1", "canEncode", "(C)Z"⟩ : MethodName)) hown (mvT hZ (hw _ (List.mem_of_getElem? (i := 29) rfl))) (mvT hZ (hw _ (List.mem_of_getElem? (i := 30) rfl))) (mvT hZ (hw _ (List.mem_of_getElem? (i := 31) rfl))) (mvT hZ (hw _ (List.mem_of_getElem? (i := 32) rfl))) (by decide) (backOf (W := 0) (rm5 l Z a0 hw [] c1  h0 n0 Z0 ) hZ (hw _ (List.mem_of_getElem? (i := 32) rfl)) (hw _ (List.mem_of_getElem? (i := 31) rfl)) (by decide) (by decide)) (g := (mkF m 7 #[.val (.int c1)] [(.int c1)])) rfl (by rw [hml]; rfl) (argsL := [(.int c1)]) (rest := []) (lenOf own_pd0 rfl) rfl (by show 2 * 0 + _ ≤ _; exact Nat.le_of_eq rfl) (hb hby own_d4_7) (fun _ _ => ⟨rfl, e53, (by decide : 0 + 0 ≤ _), (by decide : 0 + 0 ≤ _)⟩)
  dsimp only [Pt.U, Pt.locs, Pt.cells, Pt.slots] at X54 l54 y54 z54 st54 hQ54
  subst l54 y54 z54
  obtain ⟨rfl, Nq54, e54⟩ := hQ54
  have N54 := Fr.app N0 Nq54
  refine own_up ?_ (st54)
  show own_G p.tables e below s _ _ _ (T54.setTop (mkF m 10 #[.val (.int c1)] [(.int (own_can c1))]))
  refine own_up ?_ fun t k => XS.ifNo X54.here hx rfl (hb hby own_d4_10) rfl ((if0 _ _).trans (feq (own_can1 hc : ¬ ((own_can c1) = (0 : Int32)))).1) k
  show own_G p.tables e below s _ _ _ (T54.setTop (mkF m 13 #[.val (.int c1)] []))
  obtain ⟨T55, h55, X55, e55, E55, A55, D55, -, st55⟩ := newO X54 hx hZ hown (hw _ (List.mem_of_getElem? (i := 33) rfl)) (hw _ (List.mem_of_getElem? (i := 34) rfl)) (hw _ (List.mem_of_getElem? (i := 26) rfl)) e54 (g := (mkF m 13 #[.val (.int c1)] [])) rfl (hb hby own_d4_13) (by decide) (by decide)
  obtain ⟨b55, g55⟩ : ∃ z, z = h0.size := ⟨_, rfl⟩
  rw [← g55] at A55 D55 st55
  refine own_up ?_ st55
  have ge56 : n0 ≤ b55 := Nat.le_trans Z0 (Nat.le_of_eq g55.symm)
  have sz57 : h0.size ≤ b55 := Nat.le_trans K0.1 (Nat.le_of_eq g55.symm)
  have Zs59 : n0 ≤ h55.size := Nat.le_trans Z0 E55.1
  have K60 : Keep h0 h55 [] := K0.ext E55
  have F_value_b55 : Fld Z h55 b55 "java/lang/String" "value" "[B" .null := D55 (Or.inr (hw _ (List.mem_of_getElem? (i := 45) rfl))) (ty := (.array .byte)) (by decide)
  have F_coder_b55 : Fld Z h55 b55 "java/lang/String" "coder" "B" (.int (0 : Int32)) := D55 (Or.inr (hw _ (List.mem_of_getElem? (i := 47) rfl))) (ty := .byte) (by decide)
  show own_G p.tables e below s _ _ _ (T55.setTop (mkF m 16 #[.val (.int c1)] [(.ref b55)]))
  refine own_up ?_ fun t k => XS.dup X55.here hx rfl (hb hby own_d4_16) rfl rfl k
  show own_G p.tables e below s _ _ _ (T55.setTop (mkF m 17 #[.val (.int c1)] [(.ref b55), (.ref b55)]))
  refine own_up ?_ fun t k => XS.iloadN X55.here hx rfl (hb hby own_d4_17) rfl k
  show own_G p.tables e below s _ _ _ (T55.setTop (mkF m 18 #[.val (.int c1)] [(.int c1), (.ref b55), (.ref b55)]))
  obtain ⟨_, _, ⟨T61, L61, k61, n61⟩, -, X61, ⟨Lc61, hQ61, l61, y61, z61⟩, st61⟩ := Jvm.LawKit.callS X55 hx (y := (⟨"java/lang/StringLatin1", "toBytes", "(C)[B"⟩ : MethodName)) hown (mvT hZ (hw _ (List.mem_of_getElem? (i := 35) rfl))) (mvT hZ (hw _ (List.mem_of_getElem? (i := 36) rfl))) (mvT hZ (hw _ (List.mem_of_getElem? (i := 31) rfl))) (mvT hZ (hw _ (List.mem_of_getElem? (i := 37) rfl))) (by decide) (backOf (W := 2) (rm6 l Z a0 hw [] c1  h55 n0 Zs59 ) hZ (hw _ (List.mem_of_getElem? (i := 37) rfl)) (hw _ (List.mem_of_getElem? (i := 31) rfl)) (by decide) (by decide)) (g := (mkF m 18 #[.val (.int c1)] [(.int c1), (.ref b55), (.ref b55)])) rfl (by rw [hml]; rfl) (argsL := [(.int c1)]) (rest := [(.ref b55), (.ref b55)]) (lenOf own_pd1 rfl) rfl (by show 2 * 0 + _ ≤ _; exact Nat.le_of_eq rfl) (hb hby own_d4_18) (fun _ _ => ⟨rfl, e55, (by decide : 1 + 1 ≤ _), (by decide : 4 + 1 ≤ _)⟩)
  dsimp only [Pt.U, Pt.locs, Pt.cells, Pt.slots] at X61 l61 y61 z61 st61 hQ61
  subst l61 y61 z61
  obtain ⟨ba61, rfl, Nq61, Kq61⟩ := hQ61
  have N61 := Fr.app N54 Nq61
  have A55_c62 := A55.keep Kq61
  have F_value_b55_c62 := F_value_b55.keep Kq61 nin0
  have F_coder_b55_c62 := F_coder_b55.keep Kq61 nin0
  have Zs63 : n0 ≤ T61.heap.size := Nat.le_trans Zs59 Kq61.1
  have K64 : Keep h0 T61.heap [] := K60.trans Kq61 all0
  refine own_up ?_ (st61)
  show own_G p.tables e below s _ _ _ (T61.setTop (mkF m 21 #[.val (.int c1)] [(.ref ba61), (.ref b55), (.ref b55)]))
  refine own_up ?_ fun t k => XS.iconst X61.here hx rfl (hb hby own_d4_21) k
  show own_G p.tables e below s _ _ _ (T61.setTop (mkF m 22 #[.val (.int c1)] [(.int (0 : Int32)), (.ref ba61), (.ref b55), (.ref b55)]))
  obtain ⟨_, _, ⟨T65, L65, k65, n65⟩, -, X65, ⟨Lc65, hQ65, l65, y65, z65⟩, st65⟩ := X61.specialBack hx (y := (⟨"java/lang/String", "<init>", "([BB)V"⟩ : MethodName)) rfl hown (mvT hZ (hw _ (List.mem_of_getElem? (i := 39) rfl))) (mvT hZ (hw _ (List.mem_of_getElem? (i := 40) rfl))) (mvT hZ (hw _ (List.mem_of_getElem? (i := 42) rfl))) (by decide) (backOf (W := 1) (rm7 l Z a0 hw [] b55 ba61 (0 : Int32) .null (.int (0 : Int32)) T61.heap n0 Zs63 A55_c62 F_value_b55_c62 F_coder_b55_c62 ge56) hZ (hw _ (List.mem_of_getElem? (i := 42) rfl)) (hw _ (List.mem_of_getElem? (i := 26) rfl)) (by decide) (by decide)) (g := (mkF m 22 #[.val (.int c1)] [(.int (0 : Int32)), (.ref ba61), (.ref b55), (.ref b55)])) rfl (by rw [hml]; rfl) (Steps.refl _) (a := b55) (argsL := [(.ref ba61), (.int (0 : Int32))]) (rest := [(.ref b55)]) (lenOf own_pd2 rfl) rfl (by show 2 * 0 + _ ≤ _; exact Nat.le_of_eq rfl) (hb hby own_d4_22) (fun _ _ => ⟨rfl, rfl, (by decide : 2 + 0 ≤ _), (by decide : 5 + 0 ≤ _)⟩)
  dsimp only [Pt.U, Pt.locs, Pt.cells, Pt.slots] at X65 l65 y65 z65 st65 hQ65
  subst l65 y65 z65
  obtain ⟨rfl, Nq65, Kq65⟩ := hQ65
  have N65 := Fr.app N61 Nq65
  have A55_c66 := A55_c62.keep Kq65
  have Zs67 : n0 ≤ T65.heap.size := Nat.le_trans Zs63 Kq65.1
  have K68 : Keep h0 T65.heap [] := K64.trans Kq65 (allS (Or.inr sz57) all0)
  refine own_up ?_ (fun t k => st65.trans k)
  show own_G p.tables e below s _ _ _ (T65.setTop (mkF m 25 #[.val (.int c1)] [(.ref b55)]))
  exact own_retA X65 hx hlk Bd.returns rfl rfl (hb hby own_d4_25) ⟨b55, rfl, N65, K68, A55_c66⟩ (by decide) (by decide)
theorem own_pn3 : plainName "mullion/InsetsEqualsPinLaw" = true := by first | (simp [plainName, overriddenIn]; done) | decide +kernel
theorem own_ef_rm0 (m : MethodId) (x0 : Int32) (x1 : Int32) (x2 : Int32) (x3 : Int32) (x4 : Int32) (x5 : Int32) : entryFrame m #[(.int x0), (.int x1), (.int x2), (.int x3), (.int x4), (.int x5)] maxLocals = mkF m 0 #[.val (.int x0), .val (.int x1), .val (.int x2), .val (.int x3), .val (.int x4), .val (.int x5), .unset, .unset, .unset, .unset, .unset, .unset, .unset, .unset, .unset] [] := by first | (simp [entryFrame, mkF, argsToLocals, Value.category, maxLocals]; done) | rfl
def own_Q_rm0 (Z : State) (p1 : Int32) (p2 : Int32) (p3 : Int32) (p4 : Int32) (p5 : Int32) (p6 : Int32) (ci : Int32) (h0 : Heap) (n0 : Nat) (v : Option Value) (h : Heap) (L : List Loc) : Prop := v = some (.int (1 : Int32)) ∧ Fr n0 L
set_option maxRecDepth 65536 in
set_option maxHeartbeats 40000000 in
theorem rm0 (l : Launch) (Z : State) (a0 : Array Value) (hw : ∀ d ∈ tables_1, d.before a0 Z = true) (ws : List Jvm.Cond) (p1 : Int32) (p2 : Int32) (p3 : Int32) (p4 : Int32) (p5 : Int32) (p6 : Int32) (ci : Int32) (h0 : Heap) (n0 : Nat) (Z0 : n0 ≤ h0.size) (O : Old Z n0 h0) (S_c : Sta Z Z.heap "java/lang/String" "COMPACT_STRINGS" "Z" (.int ci)) (hci : ¬ (ci = (0 : Int32))) :
    MetFree l x (head1 (Jvm.Cond.code x code maxLocals ret :: ws) room_1) (fun aa UU => aa = #[(.int p1), (.int p2), (.int p3), (.int p4), (.int p5), (.int p6)] ∧ Z.Warmed39 UU.vm ∧ UU.heap = h0) (fun _ _ _ _ _ => True) (fun _ UU oo UU' => ∃ vv LL, oo = .returned vv ∧ own_Q_rm0 Z p1 p2 p3 p4 p5 p6 ci h0 n0 vv UU'.heap LL ∧ FrameEnd UU oo UU' LL room_1.cells room_1.slots) := by
  refine MetFree.of_bodySF (plainFor_of_name own_pn3) hisR ?_
  intro p e s m args below meth c s₁ Bd hml0 hP hK
  obtain ⟨rfl, hZ, hh⟩ := hP
  have hx := Bd.exec
  have hby := Bd.bytes
  have hlk := Bd.notSynchronized
  have hml : c.maxLocals = 15 := hml0
  have hown : s.vm.findClass "mullion/InsetsEqualsPinLaw" = some m.cls := findClass_of_methodNamed Bd.named
  have hnm := (name_of_methodNamed Bd.named Bd.method).1
  have X0 : Stand p l e room_1 s m #[(.int p1), (.int p2), (.int p3), (.int p4), (.int p5), (.int p6)] below meth c s₁ [] 0 0 := Stand.of_body Bd
  have e0 : s₁.heap = h0 := by rw [← hh, Bd.state]; rfl
  have N0 := Fr.nil n0
  show own_G p.tables e below s (own_Q_rm0 Z p1 p2 p3 p4 p5 p6 ci h0 n0) room_1.cells room_1.slots (s₁.setTop (entryFrame m #[(.int p1), (.int p2), (.int p3), (.int p4), (.int p5), (.int p6)] maxLocals))
  refine own_up (U' := s₁.setTop (mkF m 0 #[.val (.int p1), .val (.int p2), .val (.int p3), .val (.int p4), .val (.int p5), .val (.int p6), .unset, .unset, .unset, .unset, .unset, .unset, .unset, .unset, .unset] [])) ?_ (fun t k => castTop (own_ef_rm0 m p1 p2 p3 p4 p5 p6) k)
  obtain ⟨T69, h69, X69, e69, E69, A69, D69, -, st69⟩ := newO X0 hx hZ hown (hw _ (List.mem_of_getElem? (i := 0) rfl)) (hw _ (List.mem_of_getElem? (i := 1) rfl)) (hw _ (List.mem_of_getElem? (i := 2) rfl)) e0 (g := (mkF m 0 #[.val (.int p1), .val (.int p2), .val (.int p3), .val (.int p4), .val (.int p5), .val (.int p6), .unset, .unset, .unset, .unset, .unset, .unset, .unset, .unset, .unset] [])) rfl (hb hby at_0) (by decide) (by decide)
  obtain ⟨b69, g69⟩ : ∃ z, z = h0.size := ⟨_, rfl⟩
  rw [← g69] at A69 D69 st69
  refine own_up ?_ st69
  have ge70 : n0 ≤ b69 := Nat.le_trans Z0 (Nat.le_of_eq g69.symm)
  have O_c71 := O.ext E69
  have Zs72 : n0 ≤ h69.size := Nat.le_trans Z0 E69.1
  have F_top_b69 : Fld Z h69 b69 "mullion/Insets" "top" "I" (.int (0 : Int32)) := D69 (Or.inl (hw _ (List.mem_of_getElem? (i := 10) rfl))) (ty := .int) (by decide)
  have F_left_b69 : Fld Z h69 b69 "mullion/Insets" "left" "I" (.int (0 : Int32)) := D69 (Or.inl (hw _ (List.mem_of_getElem? (i := 12) rfl))) (ty := .int) (by decide)
  have F_bottom_b69 : Fld Z h69 b69 "mullion/Insets" "bottom" "I" (.int (0 : Int32)) := D69 (Or.inl (hw _ (List.mem_of_getElem? (i := 14) rfl))) (ty := .int) (by decide)
  have F_right_b69 : Fld Z h69 b69 "mullion/Insets" "right" "I" (.int (0 : Int32)) := D69 (Or.inl (hw _ (List.mem_of_getElem? (i := 16) rfl))) (ty := .int) (by decide)
  show own_G p.tables e below s _ _ _ (T69.setTop (mkF m 3 #[.val (.int p1), .val (.int p2), .val (.int p3), .val (.int p4), .val (.int p5), .val (.int p6), .unset, .unset, .unset, .unset, .unset, .unset, .unset, .unset, .unset] [(.ref b69)]))
  refine own_up ?_ fun t k => XS.dup X69.here hx rfl (hb hby at_3) rfl rfl k
  show own_G p.tables e below s _ _ _ (T69.setTop (mkF m 4 #[.val (.int p1), .val (.int p2), .val (.int p3), .val (.int p4), .val (.int p5), .val (.int p6), .unset, .unset, .unset, .unset, .unset, .unset, .unset, .unset, .unset] [(.ref b69), (.ref b69)]))
  refine own_up ?_ fun t k => XS.iloadN X69.here hx rfl (hb hby at_4) rfl k
  show own_G p.tables e below s _ _ _ (T69.setTop (mkF m 5 #[.val (.int p1), .val (.int p2), .val (.int p3), .val (.int p4), .val (.int p5), .val (.int p6), .unset, .unset, .unset, .unset, .unset, .unset, .unset, .unset, .unset] [(.int p1), (.ref b69), (.ref b69)]))
  refine own_up ?_ fun t k => XS.iloadN X69.here hx rfl (hb hby at_5) rfl k
  show own_G p.tables e below s _ _ _ (T69.setTop (mkF m 6 #[.val (.int p1), .val (.int p2), .val (.int p3), .val (.int p4), .val (.int p5), .val (.int p6), .unset, .unset, .unset, .unset, .unset, .unset, .unset, .unset, .unset] [(.int p2), (.int p1), (.ref b69), (.ref b69)]))
  refine own_up ?_ fun t k => XS.iloadN X69.here hx rfl (hb hby at_6) rfl k
  show own_G p.tables e below s _ _ _ (T69.setTop (mkF m 7 #[.val (.int p1), .val (.int p2), .val (.int p3), .val (.int p4), .val (.int p5), .val (.int p6), .unset, .unset, .unset, .unset, .unset, .unset, .unset, .unset, .unset] [(.int p3), (.int p2), (.int p1), (.ref b69), (.ref b69)]))
  refine own_up ?_ fun t k => XS.iloadN X69.here hx rfl (hb hby at_7) rfl k
  show own_G p.tables e below s _ _ _ (T69.setTop (mkF m 8 #[.val (.int p1), .val (.int p2), .val (.int p3), .val (.int p4), .val (.int p5), .val (.int p6), .unset, .unset, .unset, .unset, .unset, .unset, .unset, .unset, .unset] [(.int p4), (.int p3), (.int p2), (.int p1), (.ref b69), (.ref b69)]))
  obtain ⟨_, _, ⟨T73, L73, k73, n73⟩, -, X73, ⟨Lc73, hQ73, l73, y73, z73⟩, st73⟩ := X69.specialBack hx (y := (⟨"mullion/Insets", "<init>", "(IIII)V"⟩ : MethodName)) rfl hown (mvT hZ (hw _ (List.mem_of_getElem? (i := 3) rfl))) (mvT hZ (hw _ (List.mem_of_getElem? (i := 4) rfl))) (mvT hZ (hw _ (List.mem_of_getElem? (i := 5) rfl))) (by decide) (backOf (W := 1) (rm1 l Z a0 hw [] b69 p1 p2 p3 p4 (.int (0 : Int32)) (.int (0 : Int32)) (.int (0 : Int32)) (.int (0 : Int32)) h69 n0 Zs72 A69 F_top_b69 F_left_b69 F_bottom_b69 F_right_b69 ge70) hZ (hw _ (List.mem_of_getElem? (i := 5) rfl)) (hw _ (List.mem_of_getElem? (i := 2) rfl)) (by decide) (by decide)) (g := (mkF m 8 #[.val (.int p1), .val (.int p2), .val (.int p3), .val (.int p4), .val (.int p5), .val (.int p6), .unset, .unset, .unset, .unset, .unset, .unset, .unset, .unset, .unset] [(.int p4), (.int p3), (.int p2), (.int p1), (.ref b69), (.ref b69)])) rfl (by rw [hml]; rfl) (Steps.refl _) (a := b69) (argsL := [(.int p1), (.int p2), (.int p3), (.int p4)]) (rest := [(.ref b69)]) (lenOf own_pd3 rfl) rfl (by show 2 * 0 + _ ≤ _; exact Nat.le_of_eq rfl) (hb hby at_8) (fun _ _ => ⟨rfl, e69, (by decide : 1 + 0 ≤ _), (by decide : 4 + 0 ≤ _)⟩)
  dsimp only [Pt.U, Pt.locs, Pt.cells, Pt.slots] at X73 l73 y73 z73 st73 hQ73
  subst l73 y73 z73
  obtain ⟨rfl, Nq73, Kq73, Fq73_0, Fq73_1, Fq73_2, Fq73_3⟩ := hQ73
  have N73 := Fr.app N0 Nq73
  have O_c74 := O_c71.keep Kq73 (allS ge70 all0)
  have A69_c74 := A69.keep Kq73
  have Zs75 : n0 ≤ T73.heap.size := Nat.le_trans Zs72 Kq73.1
  refine own_up ?_ (fun t k => st73.trans k)
  show own_G p.tables e below s _ _ _ (T73.setTop (mkF m 11 #[.val (.int p1), .val (.int p2), .val (.int p3), .val (.int p4), .val (.int p5), .val (.int p6), .unset, .unset, .unset, .unset, .unset, .unset, .unset, .unset, .unset] [(.ref b69)]))
  refine own_up ?_ fun t k => XS.astore X73.here hx rfl (hb hby at_11) rfl rfl (l' := #[.val (.int p1), .val (.int p2), .val (.int p3), .val (.int p4), .val (.int p5), .val (.int p6), .val (.ref b69), .unset, .unset, .unset, .unset, .unset, .unset, .unset, .unset]) rfl k
  show own_G p.tables e below s _ _ _ (T73.setTop (mkF m 13 #[.val (.int p1), .val (.int p2), .val (.int p3), .val (.int p4), .val (.int p5), .val (.int p6), .val (.ref b69), .unset, .unset, .unset, .unset, .unset, .unset, .unset, .unset] []))
  refine own_up ?_ fun t k => XS.iload X73.here hx rfl (hb hby at_13) rfl k
  show own_G p.tables e below s _ _ _ (T73.setTop (mkF m 15 #[.val (.int p1), .val (.int p2), .val (.int p3), .val (.int p4), .val (.int p5), .val (.int p6), .val (.ref b69), .unset, .unset, .unset, .unset, .unset, .unset, .unset, .unset] [(.int p6)]))
  refine own_up ?_ fun t k => XS.iconst X73.here hx rfl (hb hby at_15) k
  show own_G p.tables e below s _ _ _ (T73.setTop (mkF m 16 #[.val (.int p1), .val (.int p2), .val (.int p3), .val (.int p4), .val (.int p5), .val (.int p6), .val (.ref b69), .unset, .unset, .unset, .unset, .unset, .unset, .unset, .unset] [(.int (3 : Int32)), (.int p6)]))
  refine own_up ?_ fun t k => XS.iand X73.here hx rfl (hb hby at_16) rfl k
  show own_G p.tables e below s _ _ _ (T73.setTop (mkF m 17 #[.val (.int p1), .val (.int p2), .val (.int p3), .val (.int p4), .val (.int p5), .val (.int p6), .val (.ref b69), .unset, .unset, .unset, .unset, .unset, .unset, .unset, .unset] [(.int (p6 &&& (3 : Int32)))]))
  refine own_up ?_ fun t k => XS.istore X73.here hx rfl (hb hby at_17) rfl (l' := #[.val (.int p1), .val (.int p2), .val (.int p3), .val (.int p4), .val (.int p5), .val (.int p6), .val (.ref b69), .val (.int (p6 &&& (3 : Int32))), .unset, .unset, .unset, .unset, .unset, .unset, .unset]) rfl k
  show own_G p.tables e below s _ _ _ (T73.setTop (mkF m 19 #[.val (.int p1), .val (.int p2), .val (.int p3), .val (.int p4), .val (.int p5), .val (.int p6), .val (.ref b69), .val (.int (p6 &&& (3 : Int32))), .unset, .unset, .unset, .unset, .unset, .unset, .unset] []))
  refine own_up ?_ fun t k => XS.iload X73.here hx rfl (hb hby at_19) rfl k
  show own_G p.tables e below s _ _ _ (T73.setTop (mkF m 21 #[.val (.int p1), .val (.int p2), .val (.int p3), .val (.int p4), .val (.int p5), .val (.int p6), .val (.ref b69), .val (.int (p6 &&& (3 : Int32))), .unset, .unset, .unset, .unset, .unset, .unset, .unset] [(.int (p6 &&& (3 : Int32)))]))
  by_cases hc21_76 : (p6 &&& (3 : Int32)) = (0 : Int32)
  · refine own_up ?_ fun t k => XS.ifNo X73.here hx rfl (hb hby at_21) rfl ((if0 _ _).trans (teq hc21_76).2) k
    show own_G p.tables e below s _ _ _ (T73.setTop (mkF m 24 #[.val (.int p1), .val (.int p2), .val (.int p3), .val (.int p4), .val (.int p5), .val (.int p6), .val (.ref b69), .val (.int (p6 &&& (3 : Int32))), .unset, .unset, .unset, .unset, .unset, .unset, .unset] []))
    refine own_up ?_ fun t k => XS.aload X73.here hx rfl (hb hby at_24) rfl rfl k
    show own_G p.tables e below s _ _ _ (T73.setTop (mkF m 26 #[.val (.int p1), .val (.int p2), .val (.int p3), .val (.int p4), .val (.int p5), .val (.int p6), .val (.ref b69), .val (.int (p6 &&& (3 : Int32))), .unset, .unset, .unset, .unset, .unset, .unset, .unset] [(.ref b69)]))
    refine own_up ?_ fun t k => XS.aconstNull X73.here hx rfl (hb hby at_26) k
    show own_G p.tables e below s _ _ _ (T73.setTop (mkF m 27 #[.val (.int p1), .val (.int p2), .val (.int p3), .val (.int p4), .val (.int p5), .val (.int p6), .val (.ref b69), .val (.int (p6 &&& (3 : Int32))), .unset, .unset, .unset, .unset, .unset, .unset, .unset] [.null, (.ref b69)]))
    obtain ⟨cq77, kq77, q77a, q77b, q77c⟩ := isOf hZ rfl A69_c74
    obtain ⟨_, _, ⟨T77, L77, k77, n77⟩, -, X77, ⟨Lc77, hQ77, l77, y77, z77⟩, st77⟩ := X73.virtualBack hx (y := (⟨"mullion/Insets", "equals", "(Ljava/lang/Object;)Z"⟩ : MethodName)) (z := (⟨"mullion/Insets", "equals", "(Ljava/lang/Object;)Z"⟩ : MethodName)) hown (mvT hZ (hw _ (List.mem_of_getElem? (i := 17) rfl))) (mvT hZ (hw _ (List.mem_of_getElem? (i := 18) rfl))) (notFace_of_selects (args := #[]) (mvT hZ (hw _ (List.mem_of_getElem? (i := 20) rfl)))) (mvT hZ (hw _ (List.mem_of_getElem? (i := 20) rfl))) (mvT hZ (hw _ (List.mem_of_getElem? (i := 19) rfl))) (by decide) (backOf (W := 0) (rm3n l Z a0 hw [] b69  T73.heap n0 Zs75 ) hZ (hw _ (List.mem_of_getElem? (i := 21) rfl)) (hw _ (List.mem_of_getElem? (i := 2) rfl)) (by decide) (by decide)) q77a q77c (g := (mkF m 27 #[.val (.int p1), .val (.int p2), .val (.int p3), .val (.int p4), .val (.int p5), .val (.int p6), .val (.ref b69), .val (.int (p6 &&& (3 : Int32))), .unset, .unset, .unset, .unset, .unset, .unset, .unset] [.null, (.ref b69)])) rfl (by rw [hml]; rfl) (Steps.refl _) (argsL := [.null]) (rest := []) (lenOf own_pd4 rfl) rfl (by show 2 * 0 + _ ≤ _; exact Nat.le_of_eq rfl) (hb hby at_27) (fun _ _ => ⟨rfl, rfl, (by decide : 1 + 0 ≤ _), (by decide : 4 + 0 ≤ _)⟩)
    dsimp only [Pt.U, Pt.locs, Pt.cells, Pt.slots] at X77 l77 y77 z77 st77 hQ77
    subst l77 y77 z77
    obtain ⟨rfl, Nq77, e77⟩ := hQ77
    have N77 := Fr.app N73 Nq77
    refine own_up ?_ (fun t k => st77.trans k)
    show own_G p.tables e below s _ _ _ (T77.setTop (mkF m 30 #[.val (.int p1), .val (.int p2), .val (.int p3), .val (.int p4), .val (.int p5), .val (.int p6), .val (.ref b69), .val (.int (p6 &&& (3 : Int32))), .unset, .unset, .unset, .unset, .unset, .unset, .unset] [(.int (0 : Int32))]))
    refine own_up ?_ fun t k => XS.ifNo X77.here hx rfl (hb hby at_30) rfl ((if0 _ _).trans (teq (by decide : ((0 : Int32) = (0 : Int32)))).2) k
    show own_G p.tables e below s _ _ _ (T77.setTop (mkF m 33 #[.val (.int p1), .val (.int p2), .val (.int p3), .val (.int p4), .val (.int p5), .val (.int p6), .val (.ref b69), .val (.int (p6 &&& (3 : Int32))), .unset, .unset, .unset, .unset, .unset, .unset, .unset] []))
    refine own_up ?_ fun t k => XS.aload X77.here hx rfl (hb hby at_33) rfl rfl k
    show own_G p.tables e below s _ _ _ (T77.setTop (mkF m 35 #[.val (.int p1), .val (.int p2), .val (.int p3), .val (.int p4), .val (.int p5), .val (.int p6), .val (.ref b69), .val (.int (p6 &&& (3 : Int32))), .unset, .unset, .unset, .unset, .unset, .unset, .unset] [(.ref b69)]))
    refine own_up ?_ fun t k => XS.aload X77.here hx rfl (hb hby at_35) rfl rfl k
    show own_G p.tables e below s _ _ _ (T77.setTop (mkF m 37 #[.val (.int p1), .val (.int p2), .val (.int p3), .val (.int p4), .val (.int p5), .val (.int p6), .val (.ref b69), .val (.int (p6 &&& (3 : Int32))), .unset, .unset, .unset, .unset, .unset, .unset, .unset] [(.ref b69), (.ref b69)]))
    obtain ⟨cq78, kq78, q78a, q78b, q78c⟩ := isOf hZ e77 A69_c74
    obtain ⟨_, _, ⟨T78, L78, k78, n78⟩, -, X78, ⟨Lc78, hQ78, l78, y78, z78⟩, st78⟩ := X77.virtualBack hx (y := (⟨"mullion/Insets", "equals", "(Ljava/lang/Object;)Z"⟩ : MethodName)) (z := (⟨"mullion/Insets", "equals", "(Ljava/lang/Object;)Z"⟩ : MethodName)) hown (mvT hZ (hw _ (List.mem_of_getElem? (i := 17) rfl))) (mvT hZ (hw _ (List.mem_of_getElem? (i := 18) rfl))) (notFace_of_selects (args := #[]) (mvT hZ (hw _ (List.mem_of_getElem? (i := 20) rfl)))) (mvT hZ (hw _ (List.mem_of_getElem? (i := 20) rfl))) (mvT hZ (hw _ (List.mem_of_getElem? (i := 19) rfl))) (by decide) (backOf (W := 0) (rm3 l Z a0 hw [] b69 b69 p1 p2 p3 p4 p1 p2 p3 p4 T73.heap n0 Zs75 A69_c74 Fq73_0 Fq73_1 Fq73_2 Fq73_3 Fq73_0 Fq73_1 Fq73_2 Fq73_3) hZ (hw _ (List.mem_of_getElem? (i := 21) rfl)) (hw _ (List.mem_of_getElem? (i := 2) rfl)) (by decide) (by decide)) q78a q78c (g := (mkF m 37 #[.val (.int p1), .val (.int p2), .val (.int p3), .val (.int p4), .val (.int p5), .val (.int p6), .val (.ref b69), .val (.int (p6 &&& (3 : Int32))), .unset, .unset, .unset, .unset, .unset, .unset, .unset] [(.ref b69), (.ref b69)])) rfl (by rw [hml]; rfl) (Steps.refl _) (argsL := [(.ref b69)]) (rest := []) (lenOf own_pd4 rfl) rfl (by show 2 * 0 + _ ≤ _; exact Nat.le_of_eq rfl) (hb hby at_37) (fun _ _ => ⟨rfl, e77, (by decide : 1 + 0 ≤ _), (by decide : 4 + 0 ≤ _)⟩)
    dsimp only [Pt.U, Pt.locs, Pt.cells, Pt.slots] at X78 l78 y78 z78 st78 hQ78
    subst l78 y78 z78
    obtain ⟨rfl, Nq78, e78⟩ := hQ78
    have N78 := Fr.app N77 Nq78
    refine own_up ?_ (fun t k => st78.trans k)
    show own_G p.tables e below s _ _ _ (T78.setTop (mkF m 40 #[.val (.int p1), .val (.int p2), .val (.int p3), .val (.int p4), .val (.int p5), .val (.int p6), .val (.ref b69), .val (.int (p6 &&& (3 : Int32))), .unset, .unset, .unset, .unset, .unset, .unset, .unset] [(.int (own_eq p1 p2 p3 p4 p1 p2 p3 p4))]))
    refine own_up ?_ fun t k => XS.ifNo X78.here hx rfl (hb hby at_40) rfl ((if0 _ _).trans (feq (own_e3 p1 p2 p3 p4 : ¬ ((own_eq p1 p2 p3 p4 p1 p2 p3 p4) = (0 : Int32)))).1) k
    show own_G p.tables e below s _ _ _ (T78.setTop (mkF m 43 #[.val (.int p1), .val (.int p2), .val (.int p3), .val (.int p4), .val (.int p5), .val (.int p6), .val (.ref b69), .val (.int (p6 &&& (3 : Int32))), .unset, .unset, .unset, .unset, .unset, .unset, .unset] []))
    refine own_up ?_ fun t k => XS.iconst X78.here hx rfl (hb hby at_43) k
    show own_G p.tables e below s _ _ _ (T78.setTop (mkF m 44 #[.val (.int p1), .val (.int p2), .val (.int p3), .val (.int p4), .val (.int p5), .val (.int p6), .val (.ref b69), .val (.int (p6 &&& (3 : Int32))), .unset, .unset, .unset, .unset, .unset, .unset, .unset] [(.int (1 : Int32))]))
    refine own_up ?_ fun t k => XS.goto X78.here hx rfl (pc0 := 44) (pc' := 48) rfl (hb hby at_44) (by decide) (by decide) k
    show own_G p.tables e below s _ _ _ (T78.setTop (mkF m 48 #[.val (.int p1), .val (.int p2), .val (.int p3), .val (.int p4), .val (.int p5), .val (.int p6), .val (.ref b69), .val (.int (p6 &&& (3 : Int32))), .unset, .unset, .unset, .unset, .unset, .unset, .unset] [(.int (1 : Int32))]))
    exact own_retI X78 hx hlk Bd.returns (by simp) rfl (hb hby at_48) ⟨rfl, N78⟩ (by decide) (by decide)
  · refine own_up ?_ fun t k => XS.ifYes X73.here hx rfl (pc0 := 21) (pc' := 49) rfl (hb hby at_21) rfl ((if0 _ _).trans (feq hc21_76).2) (by decide) (by decide) k
    show own_G p.tables e below s _ _ _ (T73.setTop (mkF m 49 #[.val (.int p1), .val (.int p2), .val (.int p3), .val (.int p4), .val (.int p5), .val (.int p6), .val (.ref b69), .val (.int (p6 &&& (3 : Int32))), .unset, .unset, .unset, .unset, .unset, .unset, .unset] []))
    refine own_up ?_ fun t k => XS.iload X73.here hx rfl (hb hby at_49) rfl k
    show own_G p.tables e below s _ _ _ (T73.setTop (mkF m 51 #[.val (.int p1), .val (.int p2), .val (.int p3), .val (.int p4), .val (.int p5), .val (.int p6), .val (.ref b69), .val (.int (p6 &&& (3 : Int32))), .unset, .unset, .unset, .unset, .unset, .unset, .unset] [(.int (p6 &&& (3 : Int32)))]))
    refine own_up ?_ fun t k => XS.iconst X73.here hx rfl (hb hby at_51) k
    show own_G p.tables e below s _ _ _ (T73.setTop (mkF m 52 #[.val (.int p1), .val (.int p2), .val (.int p3), .val (.int p4), .val (.int p5), .val (.int p6), .val (.ref b69), .val (.int (p6 &&& (3 : Int32))), .unset, .unset, .unset, .unset, .unset, .unset, .unset] [(.int (1 : Int32)), (.int (p6 &&& (3 : Int32)))]))
    by_cases hc52_79 : (p6 &&& (3 : Int32)) = (1 : Int32)
    · refine own_up ?_ fun t k => XS.icmpNo X73.here hx rfl (hb hby at_52) rfl (teq hc52_79).2 k
      show own_G p.tables e below s _ _ _ (T73.setTop (mkF m 55 #[.val (.int p1), .val (.int p2), .val (.int p3), .val (.int p4), .val (.int p5), .val (.int p6), .val (.ref b69), .val (.int (p6 &&& (3 : Int32))), .unset, .unset, .unset, .unset, .unset, .unset, .unset] []))
      refine own_up ?_ fun t k => XS.iloadN X73.here hx rfl (hb hby at_55) rfl k
      show own_G p.tables e below s _ _ _ (T73.setTop (mkF m 56 #[.val (.int p1), .val (.int p2), .val (.int p3), .val (.int p4), .val (.int p5), .val (.int p6), .val (.ref b69), .val (.int (p6 &&& (3 : Int32))), .unset, .unset, .unset, .unset, .unset, .unset, .unset] [(.int p1)]))
      refine own_up ?_ fun t k => XS.sipush X73.here hx rfl (hb hby at_56) k
      show own_G p.tables e below s _ _ _ (T73.setTop (mkF m 59 #[.val (.int p1), .val (.int p2), .val (.int p3), .val (.int p4), .val (.int p5), .val (.int p6), .val (.ref b69), .val (.int (p6 &&& (3 : Int32))), .unset, .unset, .unset, .unset, .unset, .unset, .unset] [(.int (255 : Int32)), (.int p1)]))
      refine own_up ?_ fun t k => XS.iand X73.here hx rfl (hb hby at_59) rfl k
      show own_G p.tables e below s _ _ _ (T73.setTop (mkF m 60 #[.val (.int p1), .val (.int p2), .val (.int p3), .val (.int p4), .val (.int p5), .val (.int p6), .val (.ref b69), .val (.int (p6 &&& (3 : Int32))), .unset, .unset, .unset, .unset, .unset, .unset, .unset] [(.int (p1 &&& (255 : Int32)))]))
      refine own_up ?_ fun t k => XS.i2c X73.here hx rfl (hb hby at_60) rfl k
      show own_G p.tables e below s _ _ _ (T73.setTop (mkF m 61 #[.val (.int p1), .val (.int p2), .val (.int p3), .val (.int p4), .val (.int p5), .val (.int p6), .val (.ref b69), .val (.int (p6 &&& (3 : Int32))), .unset, .unset, .unset, .unset, .unset, .unset, .unset] [(.int ((p1 &&& (255 : Int32)).toUInt32.toUInt16.toUInt32.toInt32))]))
      obtain ⟨_, _, ⟨T80, L80, k80, n80⟩, -, X80, ⟨Lc80, hQ80, l80, y80, z80⟩, st80⟩ := Jvm.LawKit.callS X73 hx (y := (⟨"java/lang/String", "valueOf", "(C)Ljava/lang/String;"⟩ : MethodName)) hown (mvT hZ (hw _ (List.mem_of_getElem? (i := 24) rfl))) (mvT hZ (hw _ (List.mem_of_getElem? (i := 25) rfl))) (mvT hZ (hw _ (List.mem_of_getElem? (i := 26) rfl))) (mvT hZ (hw _ (List.mem_of_getElem? (i := 27) rfl))) (by decide) (backOf (W := 0) (rm4 l Z a0 hw [] ((p1 &&& (255 : Int32)).toUInt32.toUInt16.toUInt32.toInt32) ci T73.heap n0 Zs75 O_c74 S_c hci (own_chr p1)) hZ (hw _ (List.mem_of_getElem? (i := 27) rfl)) (hw _ (List.mem_of_getElem? (i := 26) rfl)) (by decide) (by decide)) (g := (mkF m 61 #[.val (.int p1), .val (.int p2), .val (.int p3), .val (.int p4), .val (.int p5), .val (.int p6), .val (.ref b69), .val (.int (p6 &&& (3 : Int32))), .unset, .unset, .unset, .unset, .unset, .unset, .unset] [(.int ((p1 &&& (255 : Int32)).toUInt32.toUInt16.toUInt32.toInt32))])) rfl (by rw [hml]; rfl) (argsL := [(.int ((p1 &&& (255 : Int32)).toUInt32.toUInt16.toUInt32.toInt32))]) (rest := []) (lenOf own_pd5 rfl) rfl (by show 2 * 0 + _ ≤ _; exact Nat.le_of_eq rfl) (hb hby at_61) (fun _ _ => ⟨rfl, rfl, (by decide : 1 + 2 ≤ _), (by decide : 4 + 5 ≤ _)⟩)
      dsimp only [Pt.U, Pt.locs, Pt.cells, Pt.slots] at X80 l80 y80 z80 st80 hQ80
      subst l80 y80 z80
      obtain ⟨bs80, rfl, Nq80, Kq80, Eb80⟩ := hQ80
      have N80 := Fr.app N73 Nq80
      have O_c81 := O_c74.keep Kq80 all0
      have A69_c81 := A69_c74.keep Kq80
      have Fq73_0_c81 := Fq73_0.keep Kq80 nin0
      have Fq73_1_c81 := Fq73_1.keep Kq80 nin0
      have Fq73_2_c81 := Fq73_2.keep Kq80 nin0
      have Fq73_3_c81 := Fq73_3.keep Kq80 nin0
      have Zs82 : n0 ≤ T80.heap.size := Nat.le_trans Zs75 Kq80.1
      refine own_up ?_ (st80)
      show own_G p.tables e below s _ _ _ (T80.setTop (mkF m 64 #[.val (.int p1), .val (.int p2), .val (.int p3), .val (.int p4), .val (.int p5), .val (.int p6), .val (.ref b69), .val (.int (p6 &&& (3 : Int32))), .unset, .unset, .unset, .unset, .unset, .unset, .unset] [(.ref bs80)]))
      refine own_up ?_ fun t k => XS.astore X80.here hx rfl (hb hby at_64) rfl rfl (l' := #[.val (.int p1), .val (.int p2), .val (.int p3), .val (.int p4), .val (.int p5), .val (.int p6), .val (.ref b69), .val (.int (p6 &&& (3 : Int32))), .val (.ref bs80), .unset, .unset, .unset, .unset, .unset, .unset]) rfl k
      show own_G p.tables e below s _ _ _ (T80.setTop (mkF m 66 #[.val (.int p1), .val (.int p2), .val (.int p3), .val (.int p4), .val (.int p5), .val (.int p6), .val (.ref b69), .val (.int (p6 &&& (3 : Int32))), .val (.ref bs80), .unset, .unset, .unset, .unset, .unset, .unset] []))
      refine own_up ?_ fun t k => XS.aload X80.here hx rfl (hb hby at_66) rfl rfl k
      show own_G p.tables e below s _ _ _ (T80.setTop (mkF m 68 #[.val (.int p1), .val (.int p2), .val (.int p3), .val (.int p4), .val (.int p5), .val (.int p6), .val (.ref b69), .val (.int (p6 &&& (3 : Int32))), .val (.ref bs80), .unset, .unset, .unset, .unset, .unset, .unset] [(.ref b69)]))
      refine own_up ?_ fun t k => XS.aload X80.here hx rfl (hb hby at_68) rfl rfl k
      show own_G p.tables e below s _ _ _ (T80.setTop (mkF m 70 #[.val (.int p1), .val (.int p2), .val (.int p3), .val (.int p4), .val (.int p5), .val (.int p6), .val (.ref b69), .val (.int (p6 &&& (3 : Int32))), .val (.ref bs80), .unset, .unset, .unset, .unset, .unset, .unset] [(.ref bs80), (.ref b69)]))
      obtain ⟨cq83, kq83, q83a, q83b, q83c⟩ := isOf hZ rfl A69_c81
      obtain ⟨_, _, ⟨T83, L83, k83, n83⟩, -, X83, ⟨Lc83, hQ83, l83, y83, z83⟩, st83⟩ := X80.virtualBack hx (y := (⟨"mullion/Insets", "equals", "(Ljava/lang/Object;)Z"⟩ : MethodName)) (z := (⟨"mullion/Insets", "equals", "(Ljava/lang/Object;)Z"⟩ : MethodName)) hown (mvT hZ (hw _ (List.mem_of_getElem? (i := 17) rfl))) (mvT hZ (hw _ (List.mem_of_getElem? (i := 18) rfl))) (notFace_of_selects (args := #[]) (mvT hZ (hw _ (List.mem_of_getElem? (i := 20) rfl)))) (mvT hZ (hw _ (List.mem_of_getElem? (i := 20) rfl))) (mvT hZ (hw _ (List.mem_of_getElem? (i := 19) rfl))) (by decide) (backOf (W := 0) (rm3x l Z a0 hw [] b69 bs80  T80.heap n0 Zs82 Eb80) hZ (hw _ (List.mem_of_getElem? (i := 21) rfl)) (hw _ (List.mem_of_getElem? (i := 2) rfl)) (by decide) (by decide)) q83a q83c (g := (mkF m 70 #[.val (.int p1), .val (.int p2), .val (.int p3), .val (.int p4), .val (.int p5), .val (.int p6), .val (.ref b69), .val (.int (p6 &&& (3 : Int32))), .val (.ref bs80), .unset, .unset, .unset, .unset, .unset, .unset] [(.ref bs80), (.ref b69)])) rfl (by rw [hml]; rfl) (Steps.refl _) (argsL := [(.ref bs80)]) (rest := []) (lenOf own_pd4 rfl) rfl (by show 2 * 0 + _ ≤ _; exact Nat.le_of_eq rfl) (hb hby at_70) (fun _ _ => ⟨rfl, rfl, (by decide : 3 + 0 ≤ _), (by decide : 9 + 0 ≤ _)⟩)
      dsimp only [Pt.U, Pt.locs, Pt.cells, Pt.slots] at X83 l83 y83 z83 st83 hQ83
      subst l83 y83 z83
      obtain ⟨rfl, Nq83, e83⟩ := hQ83
      have N83 := Fr.app N80 Nq83
      refine own_up ?_ (fun t k => st83.trans k)
      show own_G p.tables e below s _ _ _ (T83.setTop (mkF m 73 #[.val (.int p1), .val (.int p2), .val (.int p3), .val (.int p4), .val (.int p5), .val (.int p6), .val (.ref b69), .val (.int (p6 &&& (3 : Int32))), .val (.ref bs80), .unset, .unset, .unset, .unset, .unset, .unset] [(.int (0 : Int32))]))
      refine own_up ?_ fun t k => XS.ifNo X83.here hx rfl (hb hby at_73) rfl ((if0 _ _).trans (teq (by decide : ((0 : Int32) = (0 : Int32)))).2) k
      show own_G p.tables e below s _ _ _ (T83.setTop (mkF m 76 #[.val (.int p1), .val (.int p2), .val (.int p3), .val (.int p4), .val (.int p5), .val (.int p6), .val (.ref b69), .val (.int (p6 &&& (3 : Int32))), .val (.ref bs80), .unset, .unset, .unset, .unset, .unset, .unset] []))
      refine own_up ?_ fun t k => XS.aload X83.here hx rfl (hb hby at_76) rfl rfl k
      show own_G p.tables e below s _ _ _ (T83.setTop (mkF m 78 #[.val (.int p1), .val (.int p2), .val (.int p3), .val (.int p4), .val (.int p5), .val (.int p6), .val (.ref b69), .val (.int (p6 &&& (3 : Int32))), .val (.ref bs80), .unset, .unset, .unset, .unset, .unset, .unset] [(.ref b69)]))
      refine own_up ?_ fun t k => XS.aload X83.here hx rfl (hb hby at_78) rfl rfl k
      show own_G p.tables e below s _ _ _ (T83.setTop (mkF m 80 #[.val (.int p1), .val (.int p2), .val (.int p3), .val (.int p4), .val (.int p5), .val (.int p6), .val (.ref b69), .val (.int (p6 &&& (3 : Int32))), .val (.ref bs80), .unset, .unset, .unset, .unset, .unset, .unset] [(.ref b69), (.ref b69)]))
      obtain ⟨cq84, kq84, q84a, q84b, q84c⟩ := isOf hZ e83 A69_c81
      obtain ⟨_, _, ⟨T84, L84, k84, n84⟩, -, X84, ⟨Lc84, hQ84, l84, y84, z84⟩, st84⟩ := X83.virtualBack hx (y := (⟨"mullion/Insets", "equals", "(Ljava/lang/Object;)Z"⟩ : MethodName)) (z := (⟨"mullion/Insets", "equals", "(Ljava/lang/Object;)Z"⟩ : MethodName)) hown (mvT hZ (hw _ (List.mem_of_getElem? (i := 17) rfl))) (mvT hZ (hw _ (List.mem_of_getElem? (i := 18) rfl))) (notFace_of_selects (args := #[]) (mvT hZ (hw _ (List.mem_of_getElem? (i := 20) rfl)))) (mvT hZ (hw _ (List.mem_of_getElem? (i := 20) rfl))) (mvT hZ (hw _ (List.mem_of_getElem? (i := 19) rfl))) (by decide) (backOf (W := 0) (rm3 l Z a0 hw [] b69 b69 p1 p2 p3 p4 p1 p2 p3 p4 T80.heap n0 Zs82 A69_c81 Fq73_0_c81 Fq73_1_c81 Fq73_2_c81 Fq73_3_c81 Fq73_0_c81 Fq73_1_c81 Fq73_2_c81 Fq73_3_c81) hZ (hw _ (List.mem_of_getElem? (i := 21) rfl)) (hw _ (List.mem_of_getElem? (i := 2) rfl)) (by decide) (by decide)) q84a q84c (g := (mkF m 80 #[.val (.int p1), .val (.int p2), .val (.int p3), .val (.int p4), .val (.int p5), .val (.int p6), .val (.ref b69), .val (.int (p6 &&& (3 : Int32))), .val (.ref bs80), .unset, .unset, .unset, .unset, .unset, .unset] [(.ref b69), (.ref b69)])) rfl (by rw [hml]; rfl) (Steps.refl _) (argsL := [(.ref b69)]) (rest := []) (lenOf own_pd4 rfl) rfl (by show 2 * 0 + _ ≤ _; exact Nat.le_of_eq rfl) (hb hby at_80) (fun _ _ => ⟨rfl, e83, (by decide : 3 + 0 ≤ _), (by decide : 9 + 0 ≤ _)⟩)
      dsimp only [Pt.U, Pt.locs, Pt.cells, Pt.slots] at X84 l84 y84 z84 st84 hQ84
      subst l84 y84 z84
      obtain ⟨rfl, Nq84, e84⟩ := hQ84
      have N84 := Fr.app N83 Nq84
      refine own_up ?_ (fun t k => st84.trans k)
      show own_G p.tables e below s _ _ _ (T84.setTop (mkF m 83 #[.val (.int p1), .val (.int p2), .val (.int p3), .val (.int p4), .val (.int p5), .val (.int p6), .val (.ref b69), .val (.int (p6 &&& (3 : Int32))), .val (.ref bs80), .unset, .unset, .unset, .unset, .unset, .unset] [(.int (own_eq p1 p2 p3 p4 p1 p2 p3 p4))]))
      refine own_up ?_ fun t k => XS.ifNo X84.here hx rfl (hb hby at_83) rfl ((if0 _ _).trans (feq (own_e3 p1 p2 p3 p4 : ¬ ((own_eq p1 p2 p3 p4 p1 p2 p3 p4) = (0 : Int32)))).1) k
      show own_G p.tables e below s _ _ _ (T84.setTop (mkF m 86 #[.val (.int p1), .val (.int p2), .val (.int p3), .val (.int p4), .val (.int p5), .val (.int p6), .val (.ref b69), .val (.int (p6 &&& (3 : Int32))), .val (.ref bs80), .unset, .unset, .unset, .unset, .unset, .unset] []))
      refine own_up ?_ fun t k => XS.iconst X84.here hx rfl (hb hby at_86) k
      show own_G p.tables e below s _ _ _ (T84.setTop (mkF m 87 #[.val (.int p1), .val (.int p2), .val (.int p3), .val (.int p4), .val (.int p5), .val (.int p6), .val (.ref b69), .val (.int (p6 &&& (3 : Int32))), .val (.ref bs80), .unset, .unset, .unset, .unset, .unset, .unset] [(.int (1 : Int32))]))
      refine own_up ?_ fun t k => XS.goto X84.here hx rfl (pc0 := 87) (pc' := 91) rfl (hb hby at_87) (by decide) (by decide) k
      show own_G p.tables e below s _ _ _ (T84.setTop (mkF m 91 #[.val (.int p1), .val (.int p2), .val (.int p3), .val (.int p4), .val (.int p5), .val (.int p6), .val (.ref b69), .val (.int (p6 &&& (3 : Int32))), .val (.ref bs80), .unset, .unset, .unset, .unset, .unset, .unset] [(.int (1 : Int32))]))
      exact own_retI X84 hx hlk Bd.returns (by simp) rfl (hb hby at_91) ⟨rfl, N84⟩ (by decide) (by decide)
    · refine own_up ?_ fun t k => XS.icmpYes X73.here hx rfl (pc0 := 52) (pc' := 92) rfl (hb hby at_52) rfl (feq hc52_79).2 (by decide) (by decide) k
      show own_G p.tables e below s _ _ _ (T73.setTop (mkF m 92 #[.val (.int p1), .val (.int p2), .val (.int p3), .val (.int p4), .val (.int p5), .val (.int p6), .val (.ref b69), .val (.int (p6 &&& (3 : Int32))), .unset, .unset, .unset, .unset, .unset, .unset, .unset] []))
      refine own_up ?_ fun t k => XS.iload X73.here hx rfl (hb hby at_92) rfl k
      show own_G p.tables e below s _ _ _ (T73.setTop (mkF m 94 #[.val (.int p1), .val (.int p2), .val (.int p3), .val (.int p4), .val (.int p5), .val (.int p6), .val (.ref b69), .val (.int (p6 &&& (3 : Int32))), .unset, .unset, .unset, .unset, .unset, .unset, .unset] [(.int p6)]))
      refine own_up ?_ fun t k => XS.iconst X73.here hx rfl (hb hby at_94) k
      show own_G p.tables e below s _ _ _ (T73.setTop (mkF m 95 #[.val (.int p1), .val (.int p2), .val (.int p3), .val (.int p4), .val (.int p5), .val (.int p6), .val (.ref b69), .val (.int (p6 &&& (3 : Int32))), .unset, .unset, .unset, .unset, .unset, .unset, .unset] [(.int (2 : Int32)), (.int p6)]))
      refine own_up ?_ fun t k => XS.iushr X73.here hx rfl (hb hby at_95) rfl k
      show own_G p.tables e below s _ _ _ (T73.setTop (mkF m 96 #[.val (.int p1), .val (.int p2), .val (.int p3), .val (.int p4), .val (.int p5), .val (.int p6), .val (.ref b69), .val (.int (p6 &&& (3 : Int32))), .unset, .unset, .unset, .unset, .unset, .unset, .unset] [(.int ((p6.toUInt32 >>> ((2 : Int32) &&& 31).toUInt32).toInt32))]))
      refine own_up ?_ fun t k => XS.bipush X73.here hx rfl (hb hby at_96) k
      show own_G p.tables e below s _ _ _ (T73.setTop (mkF m 98 #[.val (.int p1), .val (.int p2), .val (.int p3), .val (.int p4), .val (.int p5), .val (.int p6), .val (.ref b69), .val (.int (p6 &&& (3 : Int32))), .unset, .unset, .unset, .unset, .unset, .unset, .unset] [(.int (15 : Int32)), (.int ((p6.toUInt32 >>> ((2 : Int32) &&& 31).toUInt32).toInt32))]))
      refine own_up ?_ fun t k => XS.iand X73.here hx rfl (hb hby at_98) rfl k
      show own_G p.tables e below s _ _ _ (T73.setTop (mkF m 99 #[.val (.int p1), .val (.int p2), .val (.int p3), .val (.int p4), .val (.int p5), .val (.int p6), .val (.ref b69), .val (.int (p6 &&& (3 : Int32))), .unset, .unset, .unset, .unset, .unset, .unset, .unset] [(.int (((p6.toUInt32 >>> ((2 : Int32) &&& 31).toUInt32).toInt32) &&& (15 : Int32)))]))
      refine own_up ?_ fun t k => XS.istore X73.here hx rfl (hb hby at_99) rfl (l' := #[.val (.int p1), .val (.int p2), .val (.int p3), .val (.int p4), .val (.int p5), .val (.int p6), .val (.ref b69), .val (.int (p6 &&& (3 : Int32))), .val (.int (((p6.toUInt32 >>> ((2 : Int32) &&& 31).toUInt32).toInt32) &&& (15 : Int32))), .unset, .unset, .unset, .unset, .unset, .unset]) rfl k
      show own_G p.tables e below s _ _ _ (T73.setTop (mkF m 101 #[.val (.int p1), .val (.int p2), .val (.int p3), .val (.int p4), .val (.int p5), .val (.int p6), .val (.ref b69), .val (.int (p6 &&& (3 : Int32))), .val (.int (((p6.toUInt32 >>> ((2 : Int32) &&& 31).toUInt32).toInt32) &&& (15 : Int32))), .unset, .unset, .unset, .unset, .unset, .unset] []))
      obtain ⟨mm, h_mm⟩ : ∃ z, z = (((p6.toUInt32 >>> ((2 : Int32) &&& 31).toUInt32).toInt32) &&& (15 : Int32)) := ⟨_, rfl⟩
      rw [← h_mm]
      show own_G p.tables e below s _ _ _ (T73.setTop (mkF m 101 #[.val (.int p1), .val (.int p2), .val (.int p3), .val (.int p4), .val (.int p5), .val (.int p6), .val (.ref b69), .val (.int (p6 &&& (3 : Int32))), .val (.int mm), .unset, .unset, .unset, .unset, .unset, .unset] []))
      refine own_up ?_ fun t k => XS.iload X73.here hx rfl (hb hby at_101) rfl k
      show own_G p.tables e below s _ _ _ (T73.setTop (mkF m 103 #[.val (.int p1), .val (.int p2), .val (.int p3), .val (.int p4), .val (.int p5), .val (.int p6), .val (.ref b69), .val (.int (p6 &&& (3 : Int32))), .val (.int mm), .unset, .unset, .unset, .unset, .unset, .unset] [(.int mm)]))
      refine own_up ?_ fun t k => XS.iconst X73.here hx rfl (hb hby at_103) k
      show own_G p.tables e below s _ _ _ (T73.setTop (mkF m 104 #[.val (.int p1), .val (.int p2), .val (.int p3), .val (.int p4), .val (.int p5), .val (.int p6), .val (.ref b69), .val (.int (p6 &&& (3 : Int32))), .val (.int mm), .unset, .unset, .unset, .unset, .unset, .unset] [(.int (1 : Int32)), (.int mm)]))
      refine own_up ?_ fun t k => XS.iand X73.here hx rfl (hb hby at_104) rfl k
      show own_G p.tables e below s _ _ _ (T73.setTop (mkF m 105 #[.val (.int p1), .val (.int p2), .val (.int p3), .val (.int p4), .val (.int p5), .val (.int p6), .val (.ref b69), .val (.int (p6 &&& (3 : Int32))), .val (.int mm), .unset, .unset, .unset, .unset, .unset, .unset] [(.int (mm &&& (1 : Int32)))]))
      have dm86 : ∀ t, Steps p.tables e below (T73.setTop (mkF m 116 #[.val (.int p1), .val (.int p2), .val (.int p3), .val (.int p4), .val (.int p5), .val (.int p6), .val (.ref b69), .val (.int (p6 &&& (3 : Int32))), .val (.int mm), .unset, .unset, .unset, .unset, .unset, .unset] [(.int (if (mm &&& (1 : Int32)) = (0 : Int32) then p1 else (p1 + p5)))])) t → Steps p.tables e below (T73.setTop (mkF m 105 #[.val (.int p1), .val (.int p2), .val (.int p3), .val (.int p4), .val (.int p5), .val (.int p6), .val (.ref b69), .val (.int (p6 &&& (3 : Int32))), .val (.int mm), .unset, .unset, .unset, .unset, .unset, .unset] [(.int (mm &&& (1 : Int32)))])) t := by
        intro t k
        by_cases hc105_85 : (mm &&& (1 : Int32)) = (0 : Int32)
        · refine XS.ifYes X73.here hx rfl (pc0 := 105) (pc' := 115) rfl (hb hby at_105) rfl ((if0 _ _).trans (teq hc105_85).1) (by decide) (by decide) ?_
          show Steps p.tables e below (T73.setTop (mkF m 115 #[.val (.int p1), .val (.int p2), .val (.int p3), .val (.int p4), .val (.int p5), .val (.int p6), .val (.ref b69), .val (.int (p6 &&& (3 : Int32))), .val (.int mm), .unset, .unset, .unset, .unset, .unset, .unset] [])) t
          refine XS.iloadN X73.here hx rfl (hb hby at_115) rfl ?_
          show Steps p.tables e below (T73.setTop (mkF m 116 #[.val (.int p1), .val (.int p2), .val (.int p3), .val (.int p4), .val (.int p5), .val (.int p6), .val (.ref b69), .val (.int (p6 &&& (3 : Int32))), .val (.int mm), .unset, .unset, .unset, .unset, .unset, .unset] [(.int p1)])) t
          simp only [if_pos hc105_85] at k
          exact k
        · refine XS.ifNo X73.here hx rfl (hb hby at_105) rfl ((if0 _ _).trans (feq hc105_85).1) ?_
          show Steps p.tables e below (T73.setTop (mkF m 108 #[.val (.int p1), .val (.int p2), .val (.int p3), .val (.int p4), .val (.int p5), .val (.int p6), .val (.ref b69), .val (.int (p6 &&& (3 : Int32))), .val (.int mm), .unset, .unset, .unset, .unset, .unset, .unset] [])) t
          refine XS.iloadN X73.here hx rfl (hb hby at_108) rfl ?_
          show Steps p.tables e below (T73.setTop (mkF m 109 #[.val (.int p1), .val (.int p2), .val (.int p3), .val (.int p4), .val (.int p5), .val (.int p6), .val (.ref b69), .val (.int (p6 &&& (3 : Int32))), .val (.int mm), .unset, .unset, .unset, .unset, .unset, .unset] [(.int p1)])) t
          refine XS.iload X73.here hx rfl (hb hby at_109) rfl ?_
          show Steps p.tables e below (T73.setTop (mkF m 111 #[.val (.int p1), .val (.int p2), .val (.int p3), .val (.int p4), .val (.int p5), .val (.int p6), .val (.ref b69), .val (.int (p6 &&& (3 : Int32))), .val (.int mm), .unset, .unset, .unset, .unset, .unset, .unset] [(.int p5), (.int p1)])) t
          refine XS.iadd X73.here hx rfl (hb hby at_111) rfl ?_
          show Steps p.tables e below (T73.setTop (mkF m 112 #[.val (.int p1), .val (.int p2), .val (.int p3), .val (.int p4), .val (.int p5), .val (.int p6), .val (.ref b69), .val (.int (p6 &&& (3 : Int32))), .val (.int mm), .unset, .unset, .unset, .unset, .unset, .unset] [(.int (p1 + p5))])) t
          refine XS.goto X73.here hx rfl (pc0 := 112) (pc' := 116) rfl (hb hby at_112) (by decide) (by decide) ?_
          show Steps p.tables e below (T73.setTop (mkF m 116 #[.val (.int p1), .val (.int p2), .val (.int p3), .val (.int p4), .val (.int p5), .val (.int p6), .val (.ref b69), .val (.int (p6 &&& (3 : Int32))), .val (.int mm), .unset, .unset, .unset, .unset, .unset, .unset] [(.int (p1 + p5))])) t
          simp only [if_neg hc105_85] at k
          exact k
      refine own_up ?_ dm86
      show own_G p.tables e below s _ _ _ (T73.setTop (mkF m 116 #[.val (.int p1), .val (.int p2), .val (.int p3), .val (.int p4), .val (.int p5), .val (.int p6), .val (.ref b69), .val (.int (p6 &&& (3 : Int32))), .val (.int mm), .unset, .unset, .unset, .unset, .unset, .unset] [(.int (if (mm &&& (1 : Int32)) = (0 : Int32) then p1 else (p1 + p5)))]))
      refine own_up ?_ fun t k => XS.istore X73.here hx rfl (hb hby at_116) rfl (l' := #[.val (.int p1), .val (.int p2), .val (.int p3), .val (.int p4), .val (.int p5), .val (.int p6), .val (.ref b69), .val (.int (p6 &&& (3 : Int32))), .val (.int mm), .val (.int (if (mm &&& (1 : Int32)) = (0 : Int32) then p1 else (p1 + p5))), .unset, .unset, .unset, .unset, .unset]) rfl k
      show own_G p.tables e below s _ _ _ (T73.setTop (mkF m 118 #[.val (.int p1), .val (.int p2), .val (.int p3), .val (.int p4), .val (.int p5), .val (.int p6), .val (.ref b69), .val (.int (p6 &&& (3 : Int32))), .val (.int mm), .val (.int (if (mm &&& (1 : Int32)) = (0 : Int32) then p1 else (p1 + p5))), .unset, .unset, .unset, .unset, .unset] []))
      obtain ⟨t2, h_t2⟩ : ∃ z, z = (if (mm &&& (1 : Int32)) = (0 : Int32) then p1 else (p1 + p5)) := ⟨_, rfl⟩
      rw [← h_t2]
      show own_G p.tables e below s _ _ _ (T73.setTop (mkF m 118 #[.val (.int p1), .val (.int p2), .val (.int p3), .val (.int p4), .val (.int p5), .val (.int p6), .val (.ref b69), .val (.int (p6 &&& (3 : Int32))), .val (.int mm), .val (.int t2), .unset, .unset, .unset, .unset, .unset] []))
      refine own_up ?_ fun t k => XS.iload X73.here hx rfl (hb hby at_118) rfl k
      show own_G p.tables e below s _ _ _ (T73.setTop (mkF m 120 #[.val (.int p1), .val (.int p2), .val (.int p3), .val (.int p4), .val (.int p5), .val (.int p6), .val (.ref b69), .val (.int (p6 &&& (3 : Int32))), .val (.int mm), .val (.int t2), .unset, .unset, .unset, .unset, .unset] [(.int mm)]))
      refine own_up ?_ fun t k => XS.iconst X73.here hx rfl (hb hby at_120) k
      show own_G p.tables e below s _ _ _ (T73.setTop (mkF m 121 #[.val (.int p1), .val (.int p2), .val (.int p3), .val (.int p4), .val (.int p5), .val (.int p6), .val (.ref b69), .val (.int (p6 &&& (3 : Int32))), .val (.int mm), .val (.int t2), .unset, .unset, .unset, .unset, .unset] [(.int (2 : Int32)), (.int mm)]))
      refine own_up ?_ fun t k => XS.iand X73.here hx rfl (hb hby at_121) rfl k
      show own_G p.tables e below s _ _ _ (T73.setTop (mkF m 122 #[.val (.int p1), .val (.int p2), .val (.int p3), .val (.int p4), .val (.int p5), .val (.int p6), .val (.ref b69), .val (.int (p6 &&& (3 : Int32))), .val (.int mm), .val (.int t2), .unset, .unset, .unset, .unset, .unset] [(.int (mm &&& (2 : Int32)))]))
      have dm88 : ∀ t, Steps p.tables e below (T73.setTop (mkF m 133 #[.val (.int p1), .val (.int p2), .val (.int p3), .val (.int p4), .val (.int p5), .val (.int p6), .val (.ref b69), .val (.int (p6 &&& (3 : Int32))), .val (.int mm), .val (.int t2), .unset, .unset, .unset, .unset, .unset] [(.int (if (mm &&& (2 : Int32)) = (0 : Int32) then p2 else (p2 + p5)))])) t → Steps p.tables e below (T73.setTop (mkF m 122 #[.val (.int p1), .val (.int p2), .val (.int p3), .val (.int p4), .val (.int p5), .val (.int p6), .val (.ref b69), .val (.int (p6 &&& (3 : Int32))), .val (.int mm), .val (.int t2), .unset, .unset, .unset, .unset, .unset] [(.int (mm &&& (2 : Int32)))])) t := by
        intro t k
        by_cases hc122_87 : (mm &&& (2 : Int32)) = (0 : Int32)
        · refine XS.ifYes X73.here hx rfl (pc0 := 122) (pc' := 132) rfl (hb hby at_122) rfl ((if0 _ _).trans (teq hc122_87).1) (by decide) (by decide) ?_
          show Steps p.tables e below (T73.setTop (mkF m 132 #[.val (.int p1), .val (.int p2), .val (.int p3), .val (.int p4), .val (.int p5), .val (.int p6), .val (.ref b69), .val (.int (p6 &&& (3 : Int32))), .val (.int mm), .val (.int t2), .unset, .unset, .unset, .unset, .unset] [])) t
          refine XS.iloadN X73.here hx rfl (hb hby at_132) rfl ?_
          show Steps p.tables e below (T73.setTop (mkF m 133 #[.val (.int p1), .val (.int p2), .val (.int p3), .val (.int p4), .val (.int p5), .val (.int p6), .val (.ref b69), .val (.int (p6 &&& (3 : Int32))), .val (.int mm), .val (.int t2), .unset, .unset, .unset, .unset, .unset] [(.int p2)])) t
          simp only [if_pos hc122_87] at k
          exact k
        · refine XS.ifNo X73.here hx rfl (hb hby at_122) rfl ((if0 _ _).trans (feq hc122_87).1) ?_
          show Steps p.tables e below (T73.setTop (mkF m 125 #[.val (.int p1), .val (.int p2), .val (.int p3), .val (.int p4), .val (.int p5), .val (.int p6), .val (.ref b69), .val (.int (p6 &&& (3 : Int32))), .val (.int mm), .val (.int t2), .unset, .unset, .unset, .unset, .unset] [])) t
          refine XS.iloadN X73.here hx rfl (hb hby at_125) rfl ?_
          show Steps p.tables e below (T73.setTop (mkF m 126 #[.val (.int p1), .val (.int p2), .val (.int p3), .val (.int p4), .val (.int p5), .val (.int p6), .val (.ref b69), .val (.int (p6 &&& (3 : Int32))), .val (.int mm), .val (.int t2), .unset, .unset, .unset, .unset, .unset] [(.int p2)])) t
          refine XS.iload X73.here hx rfl (hb hby at_126) rfl ?_
          show Steps p.tables e below (T73.setTop (mkF m 128 #[.val (.int p1), .val (.int p2), .val (.int p3), .val (.int p4), .val (.int p5), .val (.int p6), .val (.ref b69), .val (.int (p6 &&& (3 : Int32))), .val (.int mm), .val (.int t2), .unset, .unset, .unset, .unset, .unset] [(.int p5), (.int p2)])) t
          refine XS.iadd X73.here hx rfl (hb hby at_128) rfl ?_
          show Steps p.tables e below (T73.setTop (mkF m 129 #[.val (.int p1), .val (.int p2), .val (.int p3), .val (.int p4), .val (.int p5), .val (.int p6), .val (.ref b69), .val (.int (p6 &&& (3 : Int32))), .val (.int mm), .val (.int t2), .unset, .unset, .unset, .unset, .unset] [(.int (p2 + p5))])) t
          refine XS.goto X73.here hx rfl (pc0 := 129) (pc' := 133) rfl (hb hby at_129) (by decide) (by decide) ?_
          show Steps p.tables e below (T73.setTop (mkF m 133 #[.val (.int p1), .val (.int p2), .val (.int p3), .val (.int p4), .val (.int p5), .val (.int p6), .val (.ref b69), .val (.int (p6 &&& (3 : Int32))), .val (.int mm), .val (.int t2), .unset, .unset, .unset, .unset, .unset] [(.int (p2 + p5))])) t
          simp only [if_neg hc122_87] at k
          exact k
      refine own_up ?_ dm88
      show own_G p.tables e below s _ _ _ (T73.setTop (mkF m 133 #[.val (.int p1), .val (.int p2), .val (.int p3), .val (.int p4), .val (.int p5), .val (.int p6), .val (.ref b69), .val (.int (p6 &&& (3 : Int32))), .val (.int mm), .val (.int t2), .unset, .unset, .unset, .unset, .unset] [(.int (if (mm &&& (2 : Int32)) = (0 : Int32) then p2 else (p2 + p5)))]))
      refine own_up ?_ fun t k => XS.istore X73.here hx rfl (hb hby at_133) rfl (l' := #[.val (.int p1), .val (.int p2), .val (.int p3), .val (.int p4), .val (.int p5), .val (.int p6), .val (.ref b69), .val (.int (p6 &&& (3 : Int32))), .val (.int mm), .val (.int t2), .val (.int (if (mm &&& (2 : Int32)) = (0 : Int32) then p2 else (p2 + p5))), .unset, .unset, .unset, .unset]) rfl k
      show own_G p.tables e below s _ _ _ (T73.setTop (mkF m 135 #[.val (.int p1), .val (.int p2), .val (.int p3), .val (.int p4), .val (.int p5), .val (.int p6), .val (.ref b69), .val (.int (p6 &&& (3 : Int32))), .val (.int mm), .val (.int t2), .val (.int (if (mm &&& (2 : Int32)) = (0 : Int32) then p2 else (p2 + p5))), .unset, .unset, .unset, .unset] []))
      obtain ⟨l2, h_l2⟩ : ∃ z, z = (if (mm &&& (2 : Int32)) = (0 : Int32) then p2 else (p2 + p5)) := ⟨_, rfl⟩
      rw [← h_l2]
      show own_G p.tables e below s _ _ _ (T73.setTop (mkF m 135 #[.val (.int p1), .val (.int p2), .val (.int p3), .val (.int p4), .val (.int p5), .val (.int p6), .val (.ref b69), .val (.int (p6 &&& (3 : Int32))), .val (.int mm), .val (.int t2), .val (.int l2), .unset, .unset, .unset, .unset] []))
      refine own_up ?_ fun t k => XS.iload X73.here hx rfl (hb hby at_135) rfl k
      show own_G p.tables e below s _ _ _ (T73.setTop (mkF m 137 #[.val (.int p1), .val (.int p2), .val (.int p3), .val (.int p4), .val (.int p5), .val (.int p6), .val (.ref b69), .val (.int (p6 &&& (3 : Int32))), .val (.int mm), .val (.int t2), .val (.int l2), .unset, .unset, .unset, .unset] [(.int mm)]))
      refine own_up ?_ fun t k => XS.iconst X73.here hx rfl (hb hby at_137) k
      show own_G p.tables e below s _ _ _ (T73.setTop (mkF m 138 #[.val (.int p1), .val (.int p2), .val (.int p3), .val (.int p4), .val (.int p5), .val (.int p6), .val (.ref b69), .val (.int (p6 &&& (3 : Int32))), .val (.int mm), .val (.int t2), .val (.int l2), .unset, .unset, .unset, .unset] [(.int (4 : Int32)), (.int mm)]))
      refine own_up ?_ fun t k => XS.iand X73.here hx rfl (hb hby at_138) rfl k
      show own_G p.tables e below s _ _ _ (T73.setTop (mkF m 139 #[.val (.int p1), .val (.int p2), .val (.int p3), .val (.int p4), .val (.int p5), .val (.int p6), .val (.ref b69), .val (.int (p6 &&& (3 : Int32))), .val (.int mm), .val (.int t2), .val (.int l2), .unset, .unset, .unset, .unset] [(.int (mm &&& (4 : Int32)))]))
      have dm90 : ∀ t, Steps p.tables e below (T73.setTop (mkF m 150 #[.val (.int p1), .val (.int p2), .val (.int p3), .val (.int p4), .val (.int p5), .val (.int p6), .val (.ref b69), .val (.int (p6 &&& (3 : Int32))), .val (.int mm), .val (.int t2), .val (.int l2), .unset, .unset, .unset, .unset] [(.int (if (mm &&& (4 : Int32)) = (0 : Int32) then p3 else (p3 + p5)))])) t → Steps p.tables e below (T73.setTop (mkF m 139 #[.val (.int p1), .val (.int p2), .val (.int p3), .val (.int p4), .val (.int p5), .val (.int p6), .val (.ref b69), .val (.int (p6 &&& (3 : Int32))), .val (.int mm), .val (.int t2), .val (.int l2), .unset, .unset, .unset, .unset] [(.int (mm &&& (4 : Int32)))])) t := by
        intro t k
        by_cases hc139_89 : (mm &&& (4 : Int32)) = (0 : Int32)
        · refine XS.ifYes X73.here hx rfl (pc0 := 139) (pc' := 149) rfl (hb hby at_139) rfl ((if0 _ _).trans (teq hc139_89).1) (by decide) (by decide) ?_
          show Steps p.tables e below (T73.setTop (mkF m 149 #[.val (.int p1), .val (.int p2), .val (.int p3), .val (.int p4), .val (.int p5), .val (.int p6), .val (.ref b69), .val (.int (p6 &&& (3 : Int32))), .val (.int mm), .val (.int t2), .val (.int l2), .unset, .unset, .unset, .unset] [])) t
          refine XS.iloadN X73.here hx rfl (hb hby at_149) rfl ?_
          show Steps p.tables e below (T73.setTop (mkF m 150 #[.val (.int p1), .val (.int p2), .val (.int p3), .val (.int p4), .val (.int p5), .val (.int p6), .val (.ref b69), .val (.int (p6 &&& (3 : Int32))), .val (.int mm), .val (.int t2), .val (.int l2), .unset, .unset, .unset, .unset] [(.int p3)])) t
          simp only [if_pos hc139_89] at k
          exact k
        · refine XS.ifNo X73.here hx rfl (hb hby at_139) rfl ((if0 _ _).trans (feq hc139_89).1) ?_
          show Steps p.tables e below (T73.setTop (mkF m 142 #[.val (.int p1), .val (.int p2), .val (.int p3), .val (.int p4), .val (.int p5), .val (.int p6), .val (.ref b69), .val (.int (p6 &&& (3 : Int32))), .val (.int mm), .val (.int t2), .val (.int l2), .unset, .unset, .unset, .unset] [])) t
          refine XS.iloadN X73.here hx rfl (hb hby at_142) rfl ?_
          show Steps p.tables e below (T73.setTop (mkF m 143 #[.val (.int p1), .val (.int p2), .val (.int p3), .val (.int p4), .val (.int p5), .val (.int p6), .val (.ref b69), .val (.int (p6 &&& (3 : Int32))), .val (.int mm), .val (.int t2), .val (.int l2), .unset, .unset, .unset, .unset] [(.int p3)])) t
          refine XS.iload X73.here hx rfl (hb hby at_143) rfl ?_
          show Steps p.tables e below (T73.setTop (mkF m 145 #[.val (.int p1), .val (.int p2), .val (.int p3), .val (.int p4), .val (.int p5), .val (.int p6), .val (.ref b69), .val (.int (p6 &&& (3 : Int32))), .val (.int mm), .val (.int t2), .val (.int l2), .unset, .unset, .unset, .unset] [(.int p5), (.int p3)])) t
          refine XS.iadd X73.here hx rfl (hb hby at_145) rfl ?_
          show Steps p.tables e below (T73.setTop (mkF m 146 #[.val (.int p1), .val (.int p2), .val (.int p3), .val (.int p4), .val (.int p5), .val (.int p6), .val (.ref b69), .val (.int (p6 &&& (3 : Int32))), .val (.int mm), .val (.int t2), .val (.int l2), .unset, .unset, .unset, .unset] [(.int (p3 + p5))])) t
          refine XS.goto X73.here hx rfl (pc0 := 146) (pc' := 150) rfl (hb hby at_146) (by decide) (by decide) ?_
          show Steps p.tables e below (T73.setTop (mkF m 150 #[.val (.int p1), .val (.int p2), .val (.int p3), .val (.int p4), .val (.int p5), .val (.int p6), .val (.ref b69), .val (.int (p6 &&& (3 : Int32))), .val (.int mm), .val (.int t2), .val (.int l2), .unset, .unset, .unset, .unset] [(.int (p3 + p5))])) t
          simp only [if_neg hc139_89] at k
          exact k
      refine own_up ?_ dm90
      show own_G p.tables e below s _ _ _ (T73.setTop (mkF m 150 #[.val (.int p1), .val (.int p2), .val (.int p3), .val (.int p4), .val (.int p5), .val (.int p6), .val (.ref b69), .val (.int (p6 &&& (3 : Int32))), .val (.int mm), .val (.int t2), .val (.int l2), .unset, .unset, .unset, .unset] [(.int (if (mm &&& (4 : Int32)) = (0 : Int32) then p3 else (p3 + p5)))]))
      refine own_up ?_ fun t k => XS.istore X73.here hx rfl (hb hby at_150) rfl (l' := #[.val (.int p1), .val (.int p2), .val (.int p3), .val (.int p4), .val (.int p5), .val (.int p6), .val (.ref b69), .val (.int (p6 &&& (3 : Int32))), .val (.int mm), .val (.int t2), .val (.int l2), .val (.int (if (mm &&& (4 : Int32)) = (0 : Int32) then p3 else (p3 + p5))), .unset, .unset, .unset]) rfl k
      show own_G p.tables e below s _ _ _ (T73.setTop (mkF m 152 #[.val (.int p1), .val (.int p2), .val (.int p3), .val (.int p4), .val (.int p5), .val (.int p6), .val (.ref b69), .val (.int (p6 &&& (3 : Int32))), .val (.int mm), .val (.int t2), .val (.int l2), .val (.int (if (mm &&& (4 : Int32)) = (0 : Int32) then p3 else (p3 + p5))), .unset, .unset, .unset] []))
      obtain ⟨b2, h_b2⟩ : ∃ z, z = (if (mm &&& (4 : Int32)) = (0 : Int32) then p3 else (p3 + p5)) := ⟨_, rfl⟩
      rw [← h_b2]
      show own_G p.tables e below s _ _ _ (T73.setTop (mkF m 152 #[.val (.int p1), .val (.int p2), .val (.int p3), .val (.int p4), .val (.int p5), .val (.int p6), .val (.ref b69), .val (.int (p6 &&& (3 : Int32))), .val (.int mm), .val (.int t2), .val (.int l2), .val (.int b2), .unset, .unset, .unset] []))
      refine own_up ?_ fun t k => XS.iload X73.here hx rfl (hb hby at_152) rfl k
      show own_G p.tables e below s _ _ _ (T73.setTop (mkF m 154 #[.val (.int p1), .val (.int p2), .val (.int p3), .val (.int p4), .val (.int p5), .val (.int p6), .val (.ref b69), .val (.int (p6 &&& (3 : Int32))), .val (.int mm), .val (.int t2), .val (.int l2), .val (.int b2), .unset, .unset, .unset] [(.int mm)]))
      refine own_up ?_ fun t k => XS.bipush X73.here hx rfl (hb hby at_154) k
      show own_G p.tables e below s _ _ _ (T73.setTop (mkF m 156 #[.val (.int p1), .val (.int p2), .val (.int p3), .val (.int p4), .val (.int p5), .val (.int p6), .val (.ref b69), .val (.int (p6 &&& (3 : Int32))), .val (.int mm), .val (.int t2), .val (.int l2), .val (.int b2), .unset, .unset, .unset] [(.int (8 : Int32)), (.int mm)]))
      refine own_up ?_ fun t k => XS.iand X73.here hx rfl (hb hby at_156) rfl k
      show own_G p.tables e below s _ _ _ (T73.setTop (mkF m 157 #[.val (.int p1), .val (.int p2), .val (.int p3), .val (.int p4), .val (.int p5), .val (.int p6), .val (.ref b69), .val (.int (p6 &&& (3 : Int32))), .val (.int mm), .val (.int t2), .val (.int l2), .val (.int b2), .unset, .unset, .unset] [(.int (mm &&& (8 : Int32)))]))
      have dm92 : ∀ t, Steps p.tables e below (T73.setTop (mkF m 168 #[.val (.int p1), .val (.int p2), .val (.int p3), .val (.int p4), .val (.int p5), .val (.int p6), .val (.ref b69), .val (.int (p6 &&& (3 : Int32))), .val (.int mm), .val (.int t2), .val (.int l2), .val (.int b2), .unset, .unset, .unset] [(.int (if (mm &&& (8 : Int32)) = (0 : Int32) then p4 else (p4 + p5)))])) t → Steps p.tables e below (T73.setTop (mkF m 157 #[.val (.int p1), .val (.int p2), .val (.int p3), .val (.int p4), .val (.int p5), .val (.int p6), .val (.ref b69), .val (.int (p6 &&& (3 : Int32))), .val (.int mm), .val (.int t2), .val (.int l2), .val (.int b2), .unset, .unset, .unset] [(.int (mm &&& (8 : Int32)))])) t := by
        intro t k
        by_cases hc157_91 : (mm &&& (8 : Int32)) = (0 : Int32)
        · refine XS.ifYes X73.here hx rfl (pc0 := 157) (pc' := 167) rfl (hb hby at_157) rfl ((if0 _ _).trans (teq hc157_91).1) (by decide) (by decide) ?_
          show Steps p.tables e below (T73.setTop (mkF m 167 #[.val (.int p1), .val (.int p2), .val (.int p3), .val (.int p4), .val (.int p5), .val (.int p6), .val (.ref b69), .val (.int (p6 &&& (3 : Int32))), .val (.int mm), .val (.int t2), .val (.int l2), .val (.int b2), .unset, .unset, .unset] [])) t
          refine XS.iloadN X73.here hx rfl (hb hby at_167) rfl ?_
          show Steps p.tables e below (T73.setTop (mkF m 168 #[.val (.int p1), .val (.int p2), .val (.int p3), .val (.int p4), .val (.int p5), .val (.int p6), .val (.ref b69), .val (.int (p6 &&& (3 : Int32))), .val (.int mm), .val (.int t2), .val (.int l2), .val (.int b2), .unset, .unset, .unset] [(.int p4)])) t
          simp only [if_pos hc157_91] at k
          exact k
        · refine XS.ifNo X73.here hx rfl (hb hby at_157) rfl ((if0 _ _).trans (feq hc157_91).1) ?_
          show Steps p.tables e below (T73.setTop (mkF m 160 #[.val (.int p1), .val (.int p2), .val (.int p3), .val (.int p4), .val (.int p5), .val (.int p6), .val (.ref b69), .val (.int (p6 &&& (3 : Int32))), .val (.int mm), .val (.int t2), .val (.int l2), .val (.int b2), .unset, .unset, .unset] [])) t
          refine XS.iloadN X73.here hx rfl (hb hby at_160) rfl ?_
          show Steps p.tables e below (T73.setTop (mkF m 161 #[.val (.int p1), .val (.int p2), .val (.int p3), .val (.int p4), .val (.int p5), .val (.int p6), .val (.ref b69), .val (.int (p6 &&& (3 : Int32))), .val (.int mm), .val (.int t2), .val (.int l2), .val (.int b2), .unset, .unset, .unset] [(.int p4)])) t
          refine XS.iload X73.here hx rfl (hb hby at_161) rfl ?_
          show Steps p.tables e below (T73.setTop (mkF m 163 #[.val (.int p1), .val (.int p2), .val (.int p3), .val (.int p4), .val (.int p5), .val (.int p6), .val (.ref b69), .val (.int (p6 &&& (3 : Int32))), .val (.int mm), .val (.int t2), .val (.int l2), .val (.int b2), .unset, .unset, .unset] [(.int p5), (.int p4)])) t
          refine XS.iadd X73.here hx rfl (hb hby at_163) rfl ?_
          show Steps p.tables e below (T73.setTop (mkF m 164 #[.val (.int p1), .val (.int p2), .val (.int p3), .val (.int p4), .val (.int p5), .val (.int p6), .val (.ref b69), .val (.int (p6 &&& (3 : Int32))), .val (.int mm), .val (.int t2), .val (.int l2), .val (.int b2), .unset, .unset, .unset] [(.int (p4 + p5))])) t
          refine XS.goto X73.here hx rfl (pc0 := 164) (pc' := 168) rfl (hb hby at_164) (by decide) (by decide) ?_
          show Steps p.tables e below (T73.setTop (mkF m 168 #[.val (.int p1), .val (.int p2), .val (.int p3), .val (.int p4), .val (.int p5), .val (.int p6), .val (.ref b69), .val (.int (p6 &&& (3 : Int32))), .val (.int mm), .val (.int t2), .val (.int l2), .val (.int b2), .unset, .unset, .unset] [(.int (p4 + p5))])) t
          simp only [if_neg hc157_91] at k
          exact k
      refine own_up ?_ dm92
      show own_G p.tables e below s _ _ _ (T73.setTop (mkF m 168 #[.val (.int p1), .val (.int p2), .val (.int p3), .val (.int p4), .val (.int p5), .val (.int p6), .val (.ref b69), .val (.int (p6 &&& (3 : Int32))), .val (.int mm), .val (.int t2), .val (.int l2), .val (.int b2), .unset, .unset, .unset] [(.int (if (mm &&& (8 : Int32)) = (0 : Int32) then p4 else (p4 + p5)))]))
      refine own_up ?_ fun t k => XS.istore X73.here hx rfl (hb hby at_168) rfl (l' := #[.val (.int p1), .val (.int p2), .val (.int p3), .val (.int p4), .val (.int p5), .val (.int p6), .val (.ref b69), .val (.int (p6 &&& (3 : Int32))), .val (.int mm), .val (.int t2), .val (.int l2), .val (.int b2), .val (.int (if (mm &&& (8 : Int32)) = (0 : Int32) then p4 else (p4 + p5))), .unset, .unset]) rfl k
      show own_G p.tables e below s _ _ _ (T73.setTop (mkF m 170 #[.val (.int p1), .val (.int p2), .val (.int p3), .val (.int p4), .val (.int p5), .val (.int p6), .val (.ref b69), .val (.int (p6 &&& (3 : Int32))), .val (.int mm), .val (.int t2), .val (.int l2), .val (.int b2), .val (.int (if (mm &&& (8 : Int32)) = (0 : Int32) then p4 else (p4 + p5))), .unset, .unset] []))
      obtain ⟨r2, h_r2⟩ : ∃ z, z = (if (mm &&& (8 : Int32)) = (0 : Int32) then p4 else (p4 + p5)) := ⟨_, rfl⟩
      rw [← h_r2]
      show own_G p.tables e below s _ _ _ (T73.setTop (mkF m 170 #[.val (.int p1), .val (.int p2), .val (.int p3), .val (.int p4), .val (.int p5), .val (.int p6), .val (.ref b69), .val (.int (p6 &&& (3 : Int32))), .val (.int mm), .val (.int t2), .val (.int l2), .val (.int b2), .val (.int r2), .unset, .unset] []))
      obtain ⟨T93, h93, X93, e93, E93, A93, D93, -, st93⟩ := newO X73 hx hZ hown (hw _ (List.mem_of_getElem? (i := 0) rfl)) (hw _ (List.mem_of_getElem? (i := 1) rfl)) (hw _ (List.mem_of_getElem? (i := 2) rfl)) rfl (g := (mkF m 170 #[.val (.int p1), .val (.int p2), .val (.int p3), .val (.int p4), .val (.int p5), .val (.int p6), .val (.ref b69), .val (.int (p6 &&& (3 : Int32))), .val (.int mm), .val (.int t2), .val (.int l2), .val (.int b2), .val (.int r2), .unset, .unset] [])) rfl (hb hby at_170) (by decide) (by decide)
      obtain ⟨b93, g93⟩ : ∃ z, z = T73.heap.size := ⟨_, rfl⟩
      rw [← g93] at A93 D93 st93
      refine own_up ?_ st93
      have ne94 : b69 ≠ b93 := Nat.ne_of_lt (Nat.lt_of_lt_of_le A69_c74.lt (Nat.le_of_eq g93.symm))
      have ge95 : n0 ≤ b93 := Nat.le_trans Zs75 (Nat.le_of_eq g93.symm)
      have O_c96 := O_c74.ext E93
      have A69_c96 := A69_c74.ext E93
      have Fq73_0_c96 := Fq73_0.ext E93
      have Fq73_1_c96 := Fq73_1.ext E93
      have Fq73_2_c96 := Fq73_2.ext E93
      have Fq73_3_c96 := Fq73_3.ext E93
      have Zs97 : n0 ≤ h93.size := Nat.le_trans Zs75 E93.1
      have F_top_b93 : Fld Z h93 b93 "mullion/Insets" "top" "I" (.int (0 : Int32)) := D93 (Or.inl (hw _ (List.mem_of_getElem? (i := 10) rfl))) (ty := .int) (by decide)
      have F_left_b93 : Fld Z h93 b93 "mullion/Insets" "left" "I" (.int (0 : Int32)) := D93 (Or.inl (hw _ (List.mem_of_getElem? (i := 12) rfl))) (ty := .int) (by decide)
      have F_bottom_b93 : Fld Z h93 b93 "mullion/Insets" "bottom" "I" (.int (0 : Int32)) := D93 (Or.inl (hw _ (List.mem_of_getElem? (i := 14) rfl))) (ty := .int) (by decide)
      have F_right_b93 : Fld Z h93 b93 "mullion/Insets" "right" "I" (.int (0 : Int32)) := D93 (Or.inl (hw _ (List.mem_of_getElem? (i := 16) rfl))) (ty := .int) (by decide)
      show own_G p.tables e below s _ _ _ (T93.setTop (mkF m 173 #[.val (.int p1), .val (.int p2), .val (.int p3), .val (.int p4), .val (.int p5), .val (.int p6), .val (.ref b69), .val (.int (p6 &&& (3 : Int32))), .val (.int mm), .val (.int t2), .val (.int l2), .val (.int b2), .val (.int r2), .unset, .unset] [(.ref b93)]))
      refine own_up ?_ fun t k => XS.dup X93.here hx rfl (hb hby at_173) rfl rfl k
      show own_G p.tables e below s _ _ _ (T93.setTop (mkF m 174 #[.val (.int p1), .val (.int p2), .val (.int p3), .val (.int p4), .val (.int p5), .val (.int p6), .val (.ref b69), .val (.int (p6 &&& (3 : Int32))), .val (.int mm), .val (.int t2), .val (.int l2), .val (.int b2), .val (.int r2), .unset, .unset] [(.ref b93), (.ref b93)]))
      refine own_up ?_ fun t k => XS.iload X93.here hx rfl (hb hby at_174) rfl k
      show own_G p.tables e below s _ _ _ (T93.setTop (mkF m 176 #[.val (.int p1), .val (.int p2), .val (.int p3), .val (.int p4), .val (.int p5), .val (.int p6), .val (.ref b69), .val (.int (p6 &&& (3 : Int32))), .val (.int mm), .val (.int t2), .val (.int l2), .val (.int b2), .val (.int r2), .unset, .unset] [(.int t2), (.ref b93), (.ref b93)]))
      refine own_up ?_ fun t k => XS.iload X93.here hx rfl (hb hby at_176) rfl k
      show own_G p.tables e below s _ _ _ (T93.setTop (mkF m 178 #[.val (.int p1), .val (.int p2), .val (.int p3), .val (.int p4), .val (.int p5), .val (.int p6), .val (.ref b69), .val (.int (p6 &&& (3 : Int32))), .val (.int mm), .val (.int t2), .val (.int l2), .val (.int b2), .val (.int r2), .unset, .unset] [(.int l2), (.int t2), (.ref b93), (.ref b93)]))
      refine own_up ?_ fun t k => XS.iload X93.here hx rfl (hb hby at_178) rfl k
      show own_G p.tables e below s _ _ _ (T93.setTop (mkF m 180 #[.val (.int p1), .val (.int p2), .val (.int p3), .val (.int p4), .val (.int p5), .val (.int p6), .val (.ref b69), .val (.int (p6 &&& (3 : Int32))), .val (.int mm), .val (.int t2), .val (.int l2), .val (.int b2), .val (.int r2), .unset, .unset] [(.int b2), (.int l2), (.int t2), (.ref b93), (.ref b93)]))
      refine own_up ?_ fun t k => XS.iload X93.here hx rfl (hb hby at_180) rfl k
      show own_G p.tables e below s _ _ _ (T93.setTop (mkF m 182 #[.val (.int p1), .val (.int p2), .val (.int p3), .val (.int p4), .val (.int p5), .val (.int p6), .val (.ref b69), .val (.int (p6 &&& (3 : Int32))), .val (.int mm), .val (.int t2), .val (.int l2), .val (.int b2), .val (.int r2), .unset, .unset] [(.int r2), (.int b2), (.int l2), (.int t2), (.ref b93), (.ref b93)]))
      obtain ⟨_, _, ⟨T98, L98, k98, n98⟩, -, X98, ⟨Lc98, hQ98, l98, y98, z98⟩, st98⟩ := X93.specialBack hx (y := (⟨"mullion/Insets", "<init>", "(IIII)V"⟩ : MethodName)) rfl hown (mvT hZ (hw _ (List.mem_of_getElem? (i := 3) rfl))) (mvT hZ (hw _ (List.mem_of_getElem? (i := 4) rfl))) (mvT hZ (hw _ (List.mem_of_getElem? (i := 5) rfl))) (by decide) (backOf (W := 1) (rm1 l Z a0 hw [] b93 t2 l2 b2 r2 (.int (0 : Int32)) (.int (0 : Int32)) (.int (0 : Int32)) (.int (0 : Int32)) h93 n0 Zs97 A93 F_top_b93 F_left_b93 F_bottom_b93 F_right_b93 ge95) hZ (hw _ (List.mem_of_getElem? (i := 5) rfl)) (hw _ (List.mem_of_getElem? (i := 2) rfl)) (by decide) (by decide)) (g := (mkF m 182 #[.val (.int p1), .val (.int p2), .val (.int p3), .val (.int p4), .val (.int p5), .val (.int p6), .val (.ref b69), .val (.int (p6 &&& (3 : Int32))), .val (.int mm), .val (.int t2), .val (.int l2), .val (.int b2), .val (.int r2), .unset, .unset] [(.int r2), (.int b2), (.int l2), (.int t2), (.ref b93), (.ref b93)])) rfl (by rw [hml]; rfl) (Steps.refl _) (a := b93) (argsL := [(.int t2), (.int l2), (.int b2), (.int r2)]) (rest := [(.ref b93)]) (lenOf own_pd3 rfl) rfl (by show 2 * 0 + _ ≤ _; exact Nat.le_of_eq rfl) (hb hby at_182) (fun _ _ => ⟨rfl, e93, (by decide : 2 + 0 ≤ _), (by decide : 8 + 0 ≤ _)⟩)
      dsimp only [Pt.U, Pt.locs, Pt.cells, Pt.slots] at X98 l98 y98 z98 st98 hQ98
      subst l98 y98 z98
      obtain ⟨rfl, Nq98, Kq98, Fq98_0, Fq98_1, Fq98_2, Fq98_3⟩ := hQ98
      have N98 := Fr.app N73 Nq98
      have O_c99 := O_c96.keep Kq98 (allS ge95 all0)
      have A69_c99 := A69_c96.keep Kq98
      have Fq73_0_c99 := Fq73_0_c96.keep Kq98 (ninS ne94 nin0)
      have Fq73_1_c99 := Fq73_1_c96.keep Kq98 (ninS ne94 nin0)
      have Fq73_2_c99 := Fq73_2_c96.keep Kq98 (ninS ne94 nin0)
      have Fq73_3_c99 := Fq73_3_c96.keep Kq98 (ninS ne94 nin0)
      have A93_c99 := A93.keep Kq98
      have Zs100 : n0 ≤ T98.heap.size := Nat.le_trans Zs97 Kq98.1
      refine own_up ?_ (fun t k => st98.trans k)
      show own_G p.tables e below s _ _ _ (T98.setTop (mkF m 185 #[.val (.int p1), .val (.int p2), .val (.int p3), .val (.int p4), .val (.int p5), .val (.int p6), .val (.ref b69), .val (.int (p6 &&& (3 : Int32))), .val (.int mm), .val (.int t2), .val (.int l2), .val (.int b2), .val (.int r2), .unset, .unset] [(.ref b93)]))
      refine own_up ?_ fun t k => XS.astore X98.here hx rfl (hb hby at_185) rfl rfl (l' := #[.val (.int p1), .val (.int p2), .val (.int p3), .val (.int p4), .val (.int p5), .val (.int p6), .val (.ref b69), .val (.int (p6 &&& (3 : Int32))), .val (.int mm), .val (.int t2), .val (.int l2), .val (.int b2), .val (.int r2), .val (.ref b93), .unset]) rfl k
      show own_G p.tables e below s _ _ _ (T98.setTop (mkF m 187 #[.val (.int p1), .val (.int p2), .val (.int p3), .val (.int p4), .val (.int p5), .val (.int p6), .val (.ref b69), .val (.int (p6 &&& (3 : Int32))), .val (.int mm), .val (.int t2), .val (.int l2), .val (.int b2), .val (.int r2), .val (.ref b93), .unset] []))
      refine own_up ?_ fun t k => XS.iload X98.here hx rfl (hb hby at_187) rfl k
      show own_G p.tables e below s _ _ _ (T98.setTop (mkF m 189 #[.val (.int p1), .val (.int p2), .val (.int p3), .val (.int p4), .val (.int p5), .val (.int p6), .val (.ref b69), .val (.int (p6 &&& (3 : Int32))), .val (.int mm), .val (.int t2), .val (.int l2), .val (.int b2), .val (.int r2), .val (.ref b93), .unset] [(.int mm)]))
      have dm103 : ∀ t, Steps p.tables e below (T98.setTop (mkF m 202 #[.val (.int p1), .val (.int p2), .val (.int p3), .val (.int p4), .val (.int p5), .val (.int p6), .val (.ref b69), .val (.int (p6 &&& (3 : Int32))), .val (.int mm), .val (.int t2), .val (.int l2), .val (.int b2), .val (.int r2), .val (.ref b93), .unset] [(.int (if mm = (0 : Int32) then (1 : Int32) else (if p5 = (0 : Int32) then (1 : Int32) else (0 : Int32))))])) t → Steps p.tables e below (T98.setTop (mkF m 189 #[.val (.int p1), .val (.int p2), .val (.int p3), .val (.int p4), .val (.int p5), .val (.int p6), .val (.ref b69), .val (.int (p6 &&& (3 : Int32))), .val (.int mm), .val (.int t2), .val (.int l2), .val (.int b2), .val (.int r2), .val (.ref b93), .unset] [(.int mm)])) t := by
        intro t k
        by_cases hc189_101 : mm = (0 : Int32)
        · refine XS.ifYes X98.here hx rfl (pc0 := 189) (pc' := 197) rfl (hb hby at_189) rfl ((if0 _ _).trans (teq hc189_101).1) (by decide) (by decide) ?_
          show Steps p.tables e below (T98.setTop (mkF m 197 #[.val (.int p1), .val (.int p2), .val (.int p3), .val (.int p4), .val (.int p5), .val (.int p6), .val (.ref b69), .val (.int (p6 &&& (3 : Int32))), .val (.int mm), .val (.int t2), .val (.int l2), .val (.int b2), .val (.int r2), .val (.ref b93), .unset] [])) t
          refine XS.iconst X98.here hx rfl (hb hby at_197) ?_
          show Steps p.tables e below (T98.setTop (mkF m 198 #[.val (.int p1), .val (.int p2), .val (.int p3), .val (.int p4), .val (.int p5), .val (.int p6), .val (.ref b69), .val (.int (p6 &&& (3 : Int32))), .val (.int mm), .val (.int t2), .val (.int l2), .val (.int b2), .val (.int r2), .val (.ref b93), .unset] [(.int (1 : Int32))])) t
          refine XS.goto X98.here hx rfl (pc0 := 198) (pc' := 202) rfl (hb hby at_198) (by decide) (by decide) ?_
          show Steps p.tables e below (T98.setTop (mkF m 202 #[.val (.int p1), .val (.int p2), .val (.int p3), .val (.int p4), .val (.int p5), .val (.int p6), .val (.ref b69), .val (.int (p6 &&& (3 : Int32))), .val (.int mm), .val (.int t2), .val (.int l2), .val (.int b2), .val (.int r2), .val (.ref b93), .unset] [(.int (1 : Int32))])) t
          simp only [if_pos hc189_101] at k
          exact k
        · refine XS.ifNo X98.here hx rfl (hb hby at_189) rfl ((if0 _ _).trans (feq hc189_101).1) ?_
          show Steps p.tables e below (T98.setTop (mkF m 192 #[.val (.int p1), .val (.int p2), .val (.int p3), .val (.int p4), .val (.int p5), .val (.int p6), .val (.ref b69), .val (.int (p6 &&& (3 : Int32))), .val (.int mm), .val (.int t2), .val (.int l2), .val (.int b2), .val (.int r2), .val (.ref b93), .unset] [])) t
          refine XS.iload X98.here hx rfl (hb hby at_192) rfl ?_
          show Steps p.tables e below (T98.setTop (mkF m 194 #[.val (.int p1), .val (.int p2), .val (.int p3), .val (.int p4), .val (.int p5), .val (.int p6), .val (.ref b69), .val (.int (p6 &&& (3 : Int32))), .val (.int mm), .val (.int t2), .val (.int l2), .val (.int b2), .val (.int r2), .val (.ref b93), .unset] [(.int p5)])) t
          by_cases hc194_102 : p5 = (0 : Int32)
          · refine XS.ifNo X98.here hx rfl (hb hby at_194) rfl ((if0 _ _).trans (teq hc194_102).2) ?_
            show Steps p.tables e below (T98.setTop (mkF m 197 #[.val (.int p1), .val (.int p2), .val (.int p3), .val (.int p4), .val (.int p5), .val (.int p6), .val (.ref b69), .val (.int (p6 &&& (3 : Int32))), .val (.int mm), .val (.int t2), .val (.int l2), .val (.int b2), .val (.int r2), .val (.ref b93), .unset] [])) t
            refine XS.iconst X98.here hx rfl (hb hby at_197) ?_
            show Steps p.tables e below (T98.setTop (mkF m 198 #[.val (.int p1), .val (.int p2), .val (.int p3), .val (.int p4), .val (.int p5), .val (.int p6), .val (.ref b69), .val (.int (p6 &&& (3 : Int32))), .val (.int mm), .val (.int t2), .val (.int l2), .val (.int b2), .val (.int r2), .val (.ref b93), .unset] [(.int (1 : Int32))])) t
            refine XS.goto X98.here hx rfl (pc0 := 198) (pc' := 202) rfl (hb hby at_198) (by decide) (by decide) ?_
            show Steps p.tables e below (T98.setTop (mkF m 202 #[.val (.int p1), .val (.int p2), .val (.int p3), .val (.int p4), .val (.int p5), .val (.int p6), .val (.ref b69), .val (.int (p6 &&& (3 : Int32))), .val (.int mm), .val (.int t2), .val (.int l2), .val (.int b2), .val (.int r2), .val (.ref b93), .unset] [(.int (1 : Int32))])) t
            simp only [if_neg hc189_101, if_pos hc194_102] at k
            exact k
          · refine XS.ifYes X98.here hx rfl (pc0 := 194) (pc' := 201) rfl (hb hby at_194) rfl ((if0 _ _).trans (feq hc194_102).2) (by decide) (by decide) ?_
            show Steps p.tables e below (T98.setTop (mkF m 201 #[.val (.int p1), .val (.int p2), .val (.int p3), .val (.int p4), .val (.int p5), .val (.int p6), .val (.ref b69), .val (.int (p6 &&& (3 : Int32))), .val (.int mm), .val (.int t2), .val (.int l2), .val (.int b2), .val (.int r2), .val (.ref b93), .unset] [])) t
            refine XS.iconst X98.here hx rfl (hb hby at_201) ?_
            show Steps p.tables e below (T98.setTop (mkF m 202 #[.val (.int p1), .val (.int p2), .val (.int p3), .val (.int p4), .val (.int p5), .val (.int p6), .val (.ref b69), .val (.int (p6 &&& (3 : Int32))), .val (.int mm), .val (.int t2), .val (.int l2), .val (.int b2), .val (.int r2), .val (.ref b93), .unset] [(.int (0 : Int32))])) t
            simp only [if_neg hc189_101, if_neg hc194_102] at k
            exact k
      refine own_up ?_ dm103
      show own_G p.tables e below s _ _ _ (T98.setTop (mkF m 202 #[.val (.int p1), .val (.int p2), .val (.int p3), .val (.int p4), .val (.int p5), .val (.int p6), .val (.ref b69), .val (.int (p6 &&& (3 : Int32))), .val (.int mm), .val (.int t2), .val (.int l2), .val (.int b2), .val (.int r2), .val (.ref b93), .unset] [(.int (if mm = (0 : Int32) then (1 : Int32) else (if p5 = (0 : Int32) then (1 : Int32) else (0 : Int32))))]))
      refine own_up ?_ fun t k => XS.istore X98.here hx rfl (hb hby at_202) rfl (l' := #[.val (.int p1), .val (.int p2), .val (.int p3), .val (.int p4), .val (.int p5), .val (.int p6), .val (.ref b69), .val (.int (p6 &&& (3 : Int32))), .val (.int mm), .val (.int t2), .val (.int l2), .val (.int b2), .val (.int r2), .val (.ref b93), .val (.int (if mm = (0 : Int32) then (1 : Int32) else (if p5 = (0 : Int32) then (1 : Int32) else (0 : Int32))))]) rfl k
      show own_G p.tables e below s _ _ _ (T98.setTop (mkF m 204 #[.val (.int p1), .val (.int p2), .val (.int p3), .val (.int p4), .val (.int p5), .val (.int p6), .val (.ref b69), .val (.int (p6 &&& (3 : Int32))), .val (.int mm), .val (.int t2), .val (.int l2), .val (.int b2), .val (.int r2), .val (.ref b93), .val (.int (if mm = (0 : Int32) then (1 : Int32) else (if p5 = (0 : Int32) then (1 : Int32) else (0 : Int32))))] []))
      obtain ⟨ex, h_ex⟩ : ∃ z, z = (if mm = (0 : Int32) then (1 : Int32) else (if p5 = (0 : Int32) then (1 : Int32) else (0 : Int32))) := ⟨_, rfl⟩
      rw [← h_ex]
      show own_G p.tables e below s _ _ _ (T98.setTop (mkF m 204 #[.val (.int p1), .val (.int p2), .val (.int p3), .val (.int p4), .val (.int p5), .val (.int p6), .val (.ref b69), .val (.int (p6 &&& (3 : Int32))), .val (.int mm), .val (.int t2), .val (.int l2), .val (.int b2), .val (.int r2), .val (.ref b93), .val (.int ex)] []))
      refine own_up ?_ fun t k => XS.aload X98.here hx rfl (hb hby at_204) rfl rfl k
      show own_G p.tables e below s _ _ _ (T98.setTop (mkF m 206 #[.val (.int p1), .val (.int p2), .val (.int p3), .val (.int p4), .val (.int p5), .val (.int p6), .val (.ref b69), .val (.int (p6 &&& (3 : Int32))), .val (.int mm), .val (.int t2), .val (.int l2), .val (.int b2), .val (.int r2), .val (.ref b93), .val (.int ex)] [(.ref b69)]))
      refine own_up ?_ fun t k => XS.aload X98.here hx rfl (hb hby at_206) rfl rfl k
      show own_G p.tables e below s _ _ _ (T98.setTop (mkF m 208 #[.val (.int p1), .val (.int p2), .val (.int p3), .val (.int p4), .val (.int p5), .val (.int p6), .val (.ref b69), .val (.int (p6 &&& (3 : Int32))), .val (.int mm), .val (.int t2), .val (.int l2), .val (.int b2), .val (.int r2), .val (.ref b93), .val (.int ex)] [(.ref b93), (.ref b69)]))
      obtain ⟨cq104, kq104, q104a, q104b, q104c⟩ := isOf hZ rfl A69_c99
      obtain ⟨_, _, ⟨T104, L104, k104, n104⟩, -, X104, ⟨Lc104, hQ104, l104, y104, z104⟩, st104⟩ := X98.virtualBack hx (y := (⟨"mullion/Insets", "equals", "(Ljava/lang/Object;)Z"⟩ : MethodName)) (z := (⟨"mullion/Insets", "equals", "(Ljava/lang/Object;)Z"⟩ : MethodName)) hown (mvT hZ (hw _ (List.mem_of_getElem? (i := 17) rfl))) (mvT hZ (hw _ (List.mem_of_getElem? (i := 18) rfl))) (notFace_of_selects (args := #[]) (mvT hZ (hw _ (List.mem_of_getElem? (i := 20) rfl)))) (mvT hZ (hw _ (List.mem_of_getElem? (i := 20) rfl))) (mvT hZ (hw _ (List.mem_of_getElem? (i := 19) rfl))) (by decide) (backOf (W := 0) (rm3 l Z a0 hw [] b69 b93 p1 p2 p3 p4 t2 l2 b2 r2 T98.heap n0 Zs100 A93_c99 Fq73_0_c99 Fq73_1_c99 Fq73_2_c99 Fq73_3_c99 Fq98_0 Fq98_1 Fq98_2 Fq98_3) hZ (hw _ (List.mem_of_getElem? (i := 21) rfl)) (hw _ (List.mem_of_getElem? (i := 2) rfl)) (by decide) (by decide)) q104a q104c (g := (mkF m 208 #[.val (.int p1), .val (.int p2), .val (.int p3), .val (.int p4), .val (.int p5), .val (.int p6), .val (.ref b69), .val (.int (p6 &&& (3 : Int32))), .val (.int mm), .val (.int t2), .val (.int l2), .val (.int b2), .val (.int r2), .val (.ref b93), .val (.int ex)] [(.ref b93), (.ref b69)])) rfl (by rw [hml]; rfl) (Steps.refl _) (argsL := [(.ref b93)]) (rest := []) (lenOf own_pd4 rfl) rfl (by show 2 * 0 + _ ≤ _; exact Nat.le_of_eq rfl) (hb hby at_208) (fun _ _ => ⟨rfl, rfl, (by decide : 2 + 0 ≤ _), (by decide : 8 + 0 ≤ _)⟩)
      dsimp only [Pt.U, Pt.locs, Pt.cells, Pt.slots] at X104 l104 y104 z104 st104 hQ104
      subst l104 y104 z104
      obtain ⟨rfl, Nq104, e104⟩ := hQ104
      have N104 := Fr.app N98 Nq104
      refine own_up ?_ (fun t k => st104.trans k)
      show own_G p.tables e below s _ _ _ (T104.setTop (mkF m 211 #[.val (.int p1), .val (.int p2), .val (.int p3), .val (.int p4), .val (.int p5), .val (.int p6), .val (.ref b69), .val (.int (p6 &&& (3 : Int32))), .val (.int mm), .val (.int t2), .val (.int l2), .val (.int b2), .val (.int r2), .val (.ref b93), .val (.int ex)] [(.int (own_eq p1 p2 p3 p4 t2 l2 b2 r2))]))
      refine own_up ?_ fun t k => XS.iload X104.here hx rfl (hb hby at_211) rfl k
      show own_G p.tables e below s _ _ _ (T104.setTop (mkF m 213 #[.val (.int p1), .val (.int p2), .val (.int p3), .val (.int p4), .val (.int p5), .val (.int p6), .val (.ref b69), .val (.int (p6 &&& (3 : Int32))), .val (.int mm), .val (.int t2), .val (.int l2), .val (.int b2), .val (.int r2), .val (.ref b93), .val (.int ex)] [(.int ex), (.int (own_eq p1 p2 p3 p4 t2 l2 b2 r2))]))
      refine own_up ?_ fun t k => XS.icmpNo X104.here hx rfl (hb hby at_213) rfl (teq ((own_l1 h_mm h_t2 h_l2 h_b2 h_r2).trans h_ex.symm : ((own_eq p1 p2 p3 p4 t2 l2 b2 r2) = ex))).2 k
      show own_G p.tables e below s _ _ _ (T104.setTop (mkF m 216 #[.val (.int p1), .val (.int p2), .val (.int p3), .val (.int p4), .val (.int p5), .val (.int p6), .val (.ref b69), .val (.int (p6 &&& (3 : Int32))), .val (.int mm), .val (.int t2), .val (.int l2), .val (.int b2), .val (.int r2), .val (.ref b93), .val (.int ex)] []))
      refine own_up ?_ fun t k => XS.aload X104.here hx rfl (hb hby at_216) rfl rfl k
      show own_G p.tables e below s _ _ _ (T104.setTop (mkF m 218 #[.val (.int p1), .val (.int p2), .val (.int p3), .val (.int p4), .val (.int p5), .val (.int p6), .val (.ref b69), .val (.int (p6 &&& (3 : Int32))), .val (.int mm), .val (.int t2), .val (.int l2), .val (.int b2), .val (.int r2), .val (.ref b93), .val (.int ex)] [(.ref b93)]))
      refine own_up ?_ fun t k => XS.aload X104.here hx rfl (hb hby at_218) rfl rfl k
      show own_G p.tables e below s _ _ _ (T104.setTop (mkF m 220 #[.val (.int p1), .val (.int p2), .val (.int p3), .val (.int p4), .val (.int p5), .val (.int p6), .val (.ref b69), .val (.int (p6 &&& (3 : Int32))), .val (.int mm), .val (.int t2), .val (.int l2), .val (.int b2), .val (.int r2), .val (.ref b93), .val (.int ex)] [(.ref b69), (.ref b93)]))
      obtain ⟨cq105, kq105, q105a, q105b, q105c⟩ := isOf hZ e104 A93_c99
      obtain ⟨_, _, ⟨T105, L105, k105, n105⟩, -, X105, ⟨Lc105, hQ105, l105, y105, z105⟩, st105⟩ := X104.virtualBack hx (y := (⟨"mullion/Insets", "equals", "(Ljava/lang/Object;)Z"⟩ : MethodName)) (z := (⟨"mullion/Insets", "equals", "(Ljava/lang/Object;)Z"⟩ : MethodName)) hown (mvT hZ (hw _ (List.mem_of_getElem? (i := 17) rfl))) (mvT hZ (hw _ (List.mem_of_getElem? (i := 18) rfl))) (notFace_of_selects (args := #[]) (mvT hZ (hw _ (List.mem_of_getElem? (i := 20) rfl)))) (mvT hZ (hw _ (List.mem_of_getElem? (i := 20) rfl))) (mvT hZ (hw _ (List.mem_of_getElem? (i := 19) rfl))) (by decide) (backOf (W := 0) (rm3 l Z a0 hw [] b93 b69 t2 l2 b2 r2 p1 p2 p3 p4 T98.heap n0 Zs100 A69_c99 Fq98_0 Fq98_1 Fq98_2 Fq98_3 Fq73_0_c99 Fq73_1_c99 Fq73_2_c99 Fq73_3_c99) hZ (hw _ (List.mem_of_getElem? (i := 21) rfl)) (hw _ (List.mem_of_getElem? (i := 2) rfl)) (by decide) (by decide)) q105a q105c (g := (mkF m 220 #[.val (.int p1), .val (.int p2), .val (.int p3), .val (.int p4), .val (.int p5), .val (.int p6), .val (.ref b69), .val (.int (p6 &&& (3 : Int32))), .val (.int mm), .val (.int t2), .val (.int l2), .val (.int b2), .val (.int r2), .val (.ref b93), .val (.int ex)] [(.ref b69), (.ref b93)])) rfl (by rw [hml]; rfl) (Steps.refl _) (argsL := [(.ref b69)]) (rest := []) (lenOf own_pd4 rfl) rfl (by show 2 * 0 + _ ≤ _; exact Nat.le_of_eq rfl) (hb hby at_220) (fun _ _ => ⟨rfl, e104, (by decide : 2 + 0 ≤ _), (by decide : 8 + 0 ≤ _)⟩)
      dsimp only [Pt.U, Pt.locs, Pt.cells, Pt.slots] at X105 l105 y105 z105 st105 hQ105
      subst l105 y105 z105
      obtain ⟨rfl, Nq105, e105⟩ := hQ105
      have N105 := Fr.app N104 Nq105
      refine own_up ?_ (fun t k => st105.trans k)
      show own_G p.tables e below s _ _ _ (T105.setTop (mkF m 223 #[.val (.int p1), .val (.int p2), .val (.int p3), .val (.int p4), .val (.int p5), .val (.int p6), .val (.ref b69), .val (.int (p6 &&& (3 : Int32))), .val (.int mm), .val (.int t2), .val (.int l2), .val (.int b2), .val (.int r2), .val (.ref b93), .val (.int ex)] [(.int (own_eq t2 l2 b2 r2 p1 p2 p3 p4))]))
      refine own_up ?_ fun t k => XS.iload X105.here hx rfl (hb hby at_223) rfl k
      show own_G p.tables e below s _ _ _ (T105.setTop (mkF m 225 #[.val (.int p1), .val (.int p2), .val (.int p3), .val (.int p4), .val (.int p5), .val (.int p6), .val (.ref b69), .val (.int (p6 &&& (3 : Int32))), .val (.int mm), .val (.int t2), .val (.int l2), .val (.int b2), .val (.int r2), .val (.ref b93), .val (.int ex)] [(.int ex), (.int (own_eq t2 l2 b2 r2 p1 p2 p3 p4))]))
      refine own_up ?_ fun t k => XS.icmpNo X105.here hx rfl (hb hby at_225) rfl (teq ((own_l2 h_mm h_t2 h_l2 h_b2 h_r2).trans h_ex.symm : ((own_eq t2 l2 b2 r2 p1 p2 p3 p4) = ex))).2 k
      show own_G p.tables e below s _ _ _ (T105.setTop (mkF m 228 #[.val (.int p1), .val (.int p2), .val (.int p3), .val (.int p4), .val (.int p5), .val (.int p6), .val (.ref b69), .val (.int (p6 &&& (3 : Int32))), .val (.int mm), .val (.int t2), .val (.int l2), .val (.int b2), .val (.int r2), .val (.ref b93), .val (.int ex)] []))
      refine own_up ?_ fun t k => XS.aload X105.here hx rfl (hb hby at_228) rfl rfl k
      show own_G p.tables e below s _ _ _ (T105.setTop (mkF m 230 #[.val (.int p1), .val (.int p2), .val (.int p3), .val (.int p4), .val (.int p5), .val (.int p6), .val (.ref b69), .val (.int (p6 &&& (3 : Int32))), .val (.int mm), .val (.int t2), .val (.int l2), .val (.int b2), .val (.int r2), .val (.ref b93), .val (.int ex)] [(.ref b69)]))
      refine own_up ?_ fun t k => XS.aload X105.here hx rfl (hb hby at_230) rfl rfl k
      show own_G p.tables e below s _ _ _ (T105.setTop (mkF m 232 #[.val (.int p1), .val (.int p2), .val (.int p3), .val (.int p4), .val (.int p5), .val (.int p6), .val (.ref b69), .val (.int (p6 &&& (3 : Int32))), .val (.int mm), .val (.int t2), .val (.int l2), .val (.int b2), .val (.int r2), .val (.ref b93), .val (.int ex)] [(.ref b69), (.ref b69)]))
      obtain ⟨cq106, kq106, q106a, q106b, q106c⟩ := isOf hZ e105 A69_c99
      obtain ⟨_, _, ⟨T106, L106, k106, n106⟩, -, X106, ⟨Lc106, hQ106, l106, y106, z106⟩, st106⟩ := X105.virtualBack hx (y := (⟨"mullion/Insets", "equals", "(Ljava/lang/Object;)Z"⟩ : MethodName)) (z := (⟨"mullion/Insets", "equals", "(Ljava/lang/Object;)Z"⟩ : MethodName)) hown (mvT hZ (hw _ (List.mem_of_getElem? (i := 17) rfl))) (mvT hZ (hw _ (List.mem_of_getElem? (i := 18) rfl))) (notFace_of_selects (args := #[]) (mvT hZ (hw _ (List.mem_of_getElem? (i := 20) rfl)))) (mvT hZ (hw _ (List.mem_of_getElem? (i := 20) rfl))) (mvT hZ (hw _ (List.mem_of_getElem? (i := 19) rfl))) (by decide) (backOf (W := 0) (rm3 l Z a0 hw [] b69 b69 p1 p2 p3 p4 p1 p2 p3 p4 T98.heap n0 Zs100 A69_c99 Fq73_0_c99 Fq73_1_c99 Fq73_2_c99 Fq73_3_c99 Fq73_0_c99 Fq73_1_c99 Fq73_2_c99 Fq73_3_c99) hZ (hw _ (List.mem_of_getElem? (i := 21) rfl)) (hw _ (List.mem_of_getElem? (i := 2) rfl)) (by decide) (by decide)) q106a q106c (g := (mkF m 232 #[.val (.int p1), .val (.int p2), .val (.int p3), .val (.int p4), .val (.int p5), .val (.int p6), .val (.ref b69), .val (.int (p6 &&& (3 : Int32))), .val (.int mm), .val (.int t2), .val (.int l2), .val (.int b2), .val (.int r2), .val (.ref b93), .val (.int ex)] [(.ref b69), (.ref b69)])) rfl (by rw [hml]; rfl) (Steps.refl _) (argsL := [(.ref b69)]) (rest := []) (lenOf own_pd4 rfl) rfl (by show 2 * 0 + _ ≤ _; exact Nat.le_of_eq rfl) (hb hby at_232) (fun _ _ => ⟨rfl, e105, (by decide : 2 + 0 ≤ _), (by decide : 8 + 0 ≤ _)⟩)
      dsimp only [Pt.U, Pt.locs, Pt.cells, Pt.slots] at X106 l106 y106 z106 st106 hQ106
      subst l106 y106 z106
      obtain ⟨rfl, Nq106, e106⟩ := hQ106
      have N106 := Fr.app N105 Nq106
      refine own_up ?_ (fun t k => st106.trans k)
      show own_G p.tables e below s _ _ _ (T106.setTop (mkF m 235 #[.val (.int p1), .val (.int p2), .val (.int p3), .val (.int p4), .val (.int p5), .val (.int p6), .val (.ref b69), .val (.int (p6 &&& (3 : Int32))), .val (.int mm), .val (.int t2), .val (.int l2), .val (.int b2), .val (.int r2), .val (.ref b93), .val (.int ex)] [(.int (own_eq p1 p2 p3 p4 p1 p2 p3 p4))]))
      refine own_up ?_ fun t k => XS.ifNo X106.here hx rfl (hb hby at_235) rfl ((if0 _ _).trans (feq (own_e3 p1 p2 p3 p4 : ¬ ((own_eq p1 p2 p3 p4 p1 p2 p3 p4) = (0 : Int32)))).1) k
      show own_G p.tables e below s _ _ _ (T106.setTop (mkF m 238 #[.val (.int p1), .val (.int p2), .val (.int p3), .val (.int p4), .val (.int p5), .val (.int p6), .val (.ref b69), .val (.int (p6 &&& (3 : Int32))), .val (.int mm), .val (.int t2), .val (.int l2), .val (.int b2), .val (.int r2), .val (.ref b93), .val (.int ex)] []))
      refine own_up ?_ fun t k => XS.iconst X106.here hx rfl (hb hby at_238) k
      show own_G p.tables e below s _ _ _ (T106.setTop (mkF m 239 #[.val (.int p1), .val (.int p2), .val (.int p3), .val (.int p4), .val (.int p5), .val (.int p6), .val (.ref b69), .val (.int (p6 &&& (3 : Int32))), .val (.int mm), .val (.int t2), .val (.int l2), .val (.int b2), .val (.int r2), .val (.ref b93), .val (.int ex)] [(.int (1 : Int32))]))
      refine own_up ?_ fun t k => XS.goto X106.here hx rfl (pc0 := 239) (pc' := 243) rfl (hb hby at_239) (by decide) (by decide) k
      show own_G p.tables e below s _ _ _ (T106.setTop (mkF m 243 #[.val (.int p1), .val (.int p2), .val (.int p3), .val (.int p4), .val (.int p5), .val (.int p6), .val (.ref b69), .val (.int (p6 &&& (3 : Int32))), .val (.int mm), .val (.int t2), .val (.int l2), .val (.int b2), .val (.int r2), .val (.ref b93), .val (.int ex)] [(.int (1 : Int32))]))
      exact own_retI X106 hx hlk Bd.returns (by simp) rfl (hb hby at_243) ⟨rfl, N106⟩ (by decide) (by decide)
set_option maxRecDepth 65536 in
set_option maxHeartbeats 40000000 in
theorem comes_1 {Post : Tables → Env → Array Value → State → Outcome → State → Prop} (hpost : ∀ tb e args s v u, (limb_1_1.after args s (.returned v) u = true ∧ limb_1_2.after args s (.returned v) u = true ∧ True) → FrameEnd s (.returned v) u (Jvm.fieldLocs frame_1_writes args s ++ Jvm.arrayLocs frame_1_arrays args s ++ Jvm.staticLocs frame_1_statics s) 16 128 → Post tb e args s (.returned v) u) :
    ArmFor flags0 classFile x code maxLocals ret World_1 tables_1 room_1 Calls_1 rest_1 Pre_1 Post := by
  intro l hfl _ _ p e ha hc hk s m args below hf hA hF happ hP
  obtain ⟨hcalls, hrest, hpre⟩ := hP
  obtain ⟨-, -, -, hnamed, -, -, -, hat⟩ := (Spec.applies_iff hf).mp happ
  obtain ⟨hg, hn⟩ := and_e (Cond.before_iff.mp (show (Jvm.Cond.and given_1 narrow_1).before args s = true from hpre))
  obtain ⟨gc, g0⟩ := and_e hg
  obtain ⟨gv0, g1⟩ := and_e g0
  obtain ⟨gv1, g2⟩ := and_e g1
  obtain ⟨gv2, g3⟩ := and_e g2
  obtain ⟨gv3, g4⟩ := and_e g3
  obtain ⟨gv4, g5⟩ := and_e g4
  obtain ⟨w0, w1, w2, w3, w4, w5, rfl⟩ : ∃ w0 w1 w2 w3 w4 w5 : Value, args = #[w0, w1, w2, w3, w4, w5] := by
    have hs : args.size = 6 := by simpa [Cond.value, given_1] using gc
    obtain ⟨L⟩ := args
    match L, hs with
    | [w0, w1, w2, w3, w4, w5], _ => exact ⟨w0, w1, w2, w3, w4, w5, rfl⟩
  have hw := fun d (hd : d ∈ tables_1) => atoms_spec (ws := Jvm.Cond.code x code maxLocals ret :: tables_1) hat d (List.mem_cons_of_mem _ hd)
  have hfit : Fit s := fun {y c} hc i hi => by
    obtain ⟨ha, rfl⟩ := Array.getElem?_eq_some_iff.mp hc
    have q := List.all_eq_true.mp ((Array.all_eq_true_iff_forall_mem.mp hF) _ (Array.getElem_mem ha)) i (List.mem_range.mpr hi)
    simpa [Array.getElem?_eq_getElem hi] using q
  obtain ⟨hsets, hown0⟩ := atoms_of _ (rest_1_c_eq ▸ (show rest_1_c.before _ s = true from hrest))
  have hr0 := Cond.before_iff.mp hown0
  obtain ⟨i0, ei0⟩ := is_v gv0
  obtain rfl : w0 = (.int i0) := Option.some.inj ei0
  obtain ⟨i1, ei1⟩ := is_v gv1
  obtain rfl : w1 = (.int i1) := Option.some.inj ei1
  obtain ⟨i2, ei2⟩ := is_v gv2
  obtain rfl : w2 = (.int i2) := Option.some.inj ei2
  obtain ⟨i3, ei3⟩ := is_v gv3
  obtain rfl : w3 = (.int i3) := Option.some.inj ei3
  obtain ⟨i4, ei4⟩ := is_v gv4
  obtain rfl : w4 = (.int i4) := Option.some.inj ei4
  obtain ⟨i5, ei5⟩ := is_v g5
  obtain rfl : w5 = (.int i5) := Option.some.inj ei5
  obtain ⟨ci, eci⟩ := is_v (Cond.before_iff.mp (hsets _ (List.mem_of_getElem? (i := 1) rfl)))
  have S_c : Sta s s.heap "java/lang/String" "COMPACT_STRINGS" "Z" (.int ci) := Sta.start eci (Or.inl (hsets _ (List.mem_of_getElem? (i := 0) rfl)))
  have nc := not_v (Cond.before_iff.mp (hsets _ (List.mem_of_getElem? (i := 2) rfl)))
  have hci : ¬ (ci = (0 : Int32)) := gotF (Cond.eq_ints eci (Term.int_eval (0))) nc
  obtain ⟨n, o, h1, h2, h3, _, L, rfl, ⟨rfl, N⟩, hq⟩ := rm0 l s _ hw tables_1 i0 i1 i2 i3 i4 i5 ci s.heap s.heap.size (Nat.le_refl _) (Old.start s) S_c hci p e ha hc hk s m _ below hf ((Spec.applies_iff_loose hf).mp happ).1 ⟨rfl, State.Warmed39.refl s, rfl⟩ trivial
  refine ⟨n, _, h1, h2, h3, hpost _ _ _ _ _ _ ⟨Cond.after_iff.mpr rfl, Cond.after_iff.mpr (eq_i res_at (Term.int_eval (1)) rfl), trivial⟩ ⟨hq.1, hq.2.1, (hq.2.2.sift fun y hy => Or.inr (N y hy)).mono (by decide) (by decide)⟩⟩
theorem main_1_1 : Claimed_1_1 := comes_1 fun _ _ _ _ _ _ h hF => ⟨h.1, hF⟩
theorem main_1_2 : Claimed_1_2 := comes_1 fun _ _ _ _ _ _ h hF => ⟨h.2.1, hF⟩
end Jvm.Pilot.@@N@@
namespace Jvm.Pilot.@@N@@
open Jvm Jvm.ClassFile Sem Op Lib Jvm.Free Jvm.Stand Jvm.Pilot.@@N@@.Jvm.D
/-! MADE BY PROGRAM (witnessworld.py) out of the Statement's table words and the real class files: 17 classes; the members and pool entries that the words name. The judged class is class 1, her method 1. -/
namespace start1
open Jvm.ClassFile
def u (s : String) : CpInfo := .utf8 (stringToUtf16 s)
/-- a pool by its gaps: so many unusable entries, then the entry; so many at the end -/
def gap : Nat → List CpInfo → List CpInfo
  | 0, r => r
  | n + 1, r => .unusable :: gap n r
def poolList (es : List (Nat × CpInfo)) (last : Nat) : List CpInfo := es.foldr (fun e r => gap e.1 (e.2 :: r)) (gap last [])
def pool (es : List (Nat × CpInfo)) (last : Nat) : Array CpInfo := ⟨poolList es last⟩
def fileOf (pool : Array CpInfo) (this : Nat) (attrs : Array Attribute := #[]) (ms : Array MethodInfo := #[]) (fl : Nat := 33) (sup : Nat := 0) (ifs : Array Nat := #[]) (fds : Array FieldInfo := #[]) : ClassFile where
  minorVersion := 0
  majorVersion := 65
  constantPool := pool
  accessFlags := fl
  thisClass := this
  superClass := sup
  interfaces := ifs
  fields := fds
  methods := ms
  attributes := attrs
def plain (name : String) (sup : Option ClassId) : Class where
  name := name
  kind := .ordinary
  loader := none
  accessFlags := 33
  super := sup
  interfaces := #[]
  cf := none
  fields := #[]
  methods := #[]
  instanceTypes := #[]
  staticTypes := #[]
  resolved := #[]
  callSites := []
  init := .initialized
  statics := none
  mirror := none

def pool0 : Array CpInfo := pool [(5, u "<init>"), (0, u "()V"), (1, .class_ 10), (1, u "java/lang/Object")] 113

def k0c0 : Code := { maxStack := 0, maxLocals := 1, code := object_method_1_code, exceptionTable := #[], attributes := #[] }
def k0m0 : Method := { name := "<init>", desc := "()V", sig := { parameters := [], returnType := none }, accessFlags := 1, code := some k0c0 }
/-- java/lang/Object -/
def k0 : Class := { plain "java/lang/Object" none with
  accessFlags := 33
  interfaces := #[]
  cf := some (fileOf pool0 8 #[] #[{ accessFlags := 1, nameIndex := 5, descriptorIndex := 6, attributes := #[] }] 33 0 #[] #[])
  fields := #[]
  methods := #[k0m0]
  instanceTypes := #[]
  staticTypes := #[]
  resolved := Array.replicate 124 none
  statics := none }

def pool1 : Array CpInfo := pool [(2, .class_ 4), (1, u "java/lang/Object"), (0, u "<init>"), (0, u "()V"), (0, .class_ 8), (0, u "mullion/Insets"), (0, .methodref 7 10), (0, .nameAndType 5 11), (0, u "(IIII)V"), (0, .methodref 7 13), (0, .nameAndType 14 15), (0, u "equals"), (0, u "(Ljava/lang/Object;)Z"), (0, .methodref 17 18), (0, .class_ 19), (0, .nameAndType 20 21), (0, u "java/lang/String"), (0, u "valueOf"), (0, u "(C)Ljava/lang/String;"), (0, .class_ 23), (0, u "mullion/InsetsEqualsPinLaw"), (2, u "law"), (0, u "(IIIIII)Z")] 3

def k1m0 : Method := { name := "<init>", desc := "()V", sig := { parameters := [], returnType := none }, accessFlags := 1, code := none }
def k1c1 : Code := { maxStack := 6, maxLocals := 15, code := code, exceptionTable := #[], attributes := #[] }
def k1m1 : Method := { name := "law", desc := "(IIIIII)Z", sig := { parameters := [.int, .int, .int, .int, .int, .int], returnType := some .boolean }, accessFlags := 9, code := some k1c1 }
/-- mullion/InsetsEqualsPinLaw -/
def k1 : Class := { plain "mullion/InsetsEqualsPinLaw" (some 0) with
  accessFlags := 49
  interfaces := #[]
  cf := some (fileOf pool1 22 #[] #[{ accessFlags := 1, nameIndex := 5, descriptorIndex := 6, attributes := #[] }, { accessFlags := 9, nameIndex := 26, descriptorIndex := 27, attributes := #[] }] 49 2 #[] #[])
  fields := #[]
  methods := #[k1m0, k1m1]
  instanceTypes := #[]
  staticTypes := #[]
  resolved := Array.replicate 31 none
  statics := none }

def pool2 : Array CpInfo := pool [(1, .methodref 2 3), (0, .class_ 4), (0, .nameAndType 5 6), (0, u "java/lang/Object"), (0, u "<init>"), (0, u "()V"), (0, .fieldref 8 9), (0, .class_ 10), (0, .nameAndType 11 12), (0, u "mullion/Insets"), (0, u "top"), (0, u "I"), (0, .fieldref 8 14), (0, .nameAndType 15 12), (0, u "left"), (0, .fieldref 8 17), (0, .nameAndType 18 12), (0, u "bottom"), (0, .fieldref 8 20), (0, .nameAndType 21 12), (0, u "right"), (14, u "(IIII)V"), (2, u "equals"), (0, u "(Ljava/lang/Object;)Z")] 21

def k2c0 : Code := { maxStack := 2, maxLocals := 5, code := prog_78_method_1_code, exceptionTable := #[], attributes := #[] }
def k2m0 : Method := { name := "<init>", desc := "(IIII)V", sig := { parameters := [.int, .int, .int, .int], returnType := none }, accessFlags := 1, code := some k2c0 }
def k2c1 : Code := { maxStack := 2, maxLocals := 3, code := prog_78_method_2_code, exceptionTable := #[], attributes := #[] }
def k2m1 : Method := { name := "equals", desc := "(Ljava/lang/Object;)Z", sig := { parameters := [(.object "java/lang/Object")], returnType := some .boolean }, accessFlags := 1, code := some k2c1 }
/-- mullion/Insets -/
def k2 : Class := { plain "mullion/Insets" (some 0) with
  accessFlags := 33
  interfaces := #[]
  cf := some (fileOf pool2 8 #[] #[{ accessFlags := 1, nameIndex := 5, descriptorIndex := 36, attributes := #[] }, { accessFlags := 1, nameIndex := 39, descriptorIndex := 40, attributes := #[] }] 33 2 #[] #[{ accessFlags := 1, nameIndex := 11, descriptorIndex := 12, attributes := #[] }, { accessFlags := 1, nameIndex := 15, descriptorIndex := 12, attributes := #[] }, { accessFlags := 1, nameIndex := 18, descriptorIndex := 12, attributes := #[] }, { accessFlags := 1, nameIndex := 21, descriptorIndex := 12, attributes := #[] }])
  fields := #[{ name := "top", type := .int, accessFlags := 1, slot := 0, constantValue := 0 }, { name := "left", type := .int, accessFlags := 1, slot := 1, constantValue := 0 }, { name := "bottom", type := .int, accessFlags := 1, slot := 2, constantValue := 0 }, { name := "right", type := .int, accessFlags := 1, slot := 3, constantValue := 0 }]
  methods := #[k2m0, k2m1]
  instanceTypes := #[.int, .int, .int, .int]
  staticTypes := #[]
  resolved := Array.replicate 62 none
  statics := none }

def pool3 : Array CpInfo := pool [(1, .class_ 2), (0, u "java/io/Serializable"), (0, .class_ 4), (0, u "java/lang/Object")] 2

/-- java/io/Serializable -/
def k3 : Class := { plain "java/io/Serializable" (some 0) with
  accessFlags := 1537
  interfaces := #[]
  cf := some (fileOf pool3 1 #[] #[] 1537 3 #[] #[])
  fields := #[]
  methods := #[]
  instanceTypes := #[]
  staticTypes := #[]
  resolved := Array.replicate 7 none
  statics := none }

def pool4 : Array CpInfo := pool [(1, .class_ 2), (0, u "java/lang/Comparable"), (0, .class_ 4), (0, u "java/lang/Object")] 7

/-- java/lang/Comparable -/
def k4 : Class := { plain "java/lang/Comparable" (some 0) with
  accessFlags := 1537
  interfaces := #[]
  cf := some (fileOf pool4 1 #[] #[] 1537 3 #[] #[])
  fields := #[]
  methods := #[]
  instanceTypes := #[]
  staticTypes := #[]
  resolved := Array.replicate 12 none
  statics := none }

def pool5 : Array CpInfo := pool [(2, .class_ 4), (1, u "java/lang/CharSequence"), (42, .class_ 48), (0, u "java/lang/CharSequence$1CodePointIterator"), (10, .class_ 60), (0, u "java/lang/CharSequence$1CharIterator"), (5, .class_ 67), (0, u "java/lang/Object")] 63

/-- java/lang/CharSequence -/
def k5 : Class := { plain "java/lang/CharSequence" (some 0) with
  accessFlags := 1537
  interfaces := #[]
  cf := some (fileOf pool5 2 #[.nestMembers #[47, 59]] #[] 1537 66 #[] #[])
  fields := #[]
  methods := #[]
  instanceTypes := #[]
  staticTypes := #[]
  resolved := Array.replicate 131 none
  statics := none }

def pool6 : Array CpInfo := pool [(1, .class_ 2), (0, u "java/lang/constant/Constable"), (0, .class_ 4), (0, u "java/lang/Object")] 6

/-- java/lang/constant/Constable -/
def k6 : Class := { plain "java/lang/constant/Constable" (some 0) with
  accessFlags := 1537
  interfaces := #[]
  cf := some (fileOf pool6 1 #[] #[] 1537 3 #[] #[])
  fields := #[]
  methods := #[]
  instanceTypes := #[]
  staticTypes := #[]
  resolved := Array.replicate 11 none
  statics := none }

def pool7 : Array CpInfo := pool [(1, .class_ 2), (0, u "java/lang/constant/ConstantDesc"), (0, .class_ 4), (0, u "java/lang/Object")] 32

/-- java/lang/constant/ConstantDesc -/
def k7 : Class := { plain "java/lang/constant/ConstantDesc" (some 0) with
  accessFlags := 1537
  interfaces := #[]
  cf := some (fileOf pool7 1 #[] #[] 1537 3 #[] #[])
  fields := #[]
  methods := #[]
  instanceTypes := #[]
  staticTypes := #[]
  resolved := Array.replicate 37 none
  statics := none }

def pool8 : Array CpInfo := pool [(1, .methodref 2 3), (0, .class_ 4), (0, .nameAndType 5 6), (0, u "java/lang/Object"), (0, u "<init>"), (0, u "()V"), (2, .fieldref 10 11), (0, .class_ 12), (0, .nameAndType 13 14), (0, u "java/lang/String"), (0, u "value"), (0, u "[B"), (0, .fieldref 10 16), (0, .nameAndType 17 18), (0, u "coder"), (0, u "B"), (2, u "hash"), (0, u "I"), (2, u "hashIsZero"), (0, u "Z"), (11, .fieldref 10 39), (0, .nameAndType 40 26), (0, u "COMPACT_STRINGS"), (12, u "toBytes"), (53, .class_ 109), (1, u "java/lang/StringLatin1"), (99, .methodref 10 210), (0, .nameAndType 5 211), (0, u "([BB)V"), (157, u "(C)Z"), (205, .class_ 576), (0, u "java/lang/CharSequence"), (22, u "CASE_INSENSITIVE_ORDER"), (0, u "Ljava/util/Comparator;"), (181, u "valueOf"), (0, u "(C)Ljava/lang/String;"), (231, .methodref 107 1016), (0, .nameAndType 1017 369), (0, u "canEncode"), (0, .methodref 107 1019), (0, .nameAndType 53 1020), (0, u "(C)[B"), (80, u "serialPersistentFields"), (0, u "[Ljava/io/ObjectStreamField;"), (0, .class_ 1104), (0, u "java/lang/String$CaseInsensitiveComparator"), (1, .class_ 1107), (0, u "java/io/Serializable"), (0, .class_ 1109), (0, u "java/lang/Comparable"), (0, .class_ 1111), (0, u "java/lang/constant/Constable"), (0, .class_ 1113), (0, u "java/lang/constant/ConstantDesc"), (2, u "serialVersionUID"), (0, u "J"), (3, u "REPL"), (0, u "C"), (2, u "LATIN1"), (1, u "UTF16")] 323

def k8m0 : Method := { name := "<init>", desc := "()V", sig := { parameters := [], returnType := none }, accessFlags := 1, code := none }
def k8c1 : Code := { maxStack := 4, maxLocals := 1, code := jdk_42_method_139_code, exceptionTable := #[], attributes := #[] }
def k8m1 : Method := { name := "valueOf", desc := "(C)Ljava/lang/String;", sig := { parameters := [.char], returnType := some (.object "java/lang/String") }, accessFlags := 9, code := some k8c1 }
def k8c2 : Code := { maxStack := 2, maxLocals := 3, code := jdk_42_method_151_code, exceptionTable := #[], attributes := #[] }
def k8m2 : Method := { name := "<init>", desc := "([BB)V", sig := { parameters := [(.array .byte), .byte], returnType := none }, accessFlags := 0, code := some k8c2 }
/-- java/lang/String -/
def k8 : Class := { plain "java/lang/String" (some 0) with
  accessFlags := 49
  interfaces := #[3, 4, 5, 6, 7]
  cf := some (fileOf pool8 10 #[.nestMembers #[1103]] #[{ accessFlags := 1, nameIndex := 5, descriptorIndex := 6, attributes := #[] }, { accessFlags := 9, nameIndex := 782, descriptorIndex := 783, attributes := #[] }, { accessFlags := 0, nameIndex := 5, descriptorIndex := 211, attributes := #[] }] 49 2 #[1106, 1108, 575, 1110, 1112] #[{ accessFlags := 18, nameIndex := 13, descriptorIndex := 14, attributes := #[] }, { accessFlags := 18, nameIndex := 17, descriptorIndex := 18, attributes := #[] }, { accessFlags := 2, nameIndex := 21, descriptorIndex := 22, attributes := #[] }, { accessFlags := 2, nameIndex := 25, descriptorIndex := 26, attributes := #[] }, { accessFlags := 26, nameIndex := 1116, descriptorIndex := 1117, attributes := #[] }, { accessFlags := 24, nameIndex := 40, descriptorIndex := 26, attributes := #[] }, { accessFlags := 26, nameIndex := 1101, descriptorIndex := 1102, attributes := #[] }, { accessFlags := 26, nameIndex := 1121, descriptorIndex := 1122, attributes := #[] }, { accessFlags := 25, nameIndex := 599, descriptorIndex := 600, attributes := #[] }, { accessFlags := 24, nameIndex := 1125, descriptorIndex := 18, attributes := #[] }, { accessFlags := 24, nameIndex := 1127, descriptorIndex := 18, attributes := #[] }])
  fields := #[{ name := "value", type := (.array .byte), accessFlags := 18, slot := 0, constantValue := 0 }, { name := "coder", type := .byte, accessFlags := 18, slot := 1, constantValue := 0 }, { name := "hash", type := .int, accessFlags := 2, slot := 2, constantValue := 0 }, { name := "hashIsZero", type := .boolean, accessFlags := 2, slot := 3, constantValue := 0 }, { name := "serialVersionUID", type := .long, accessFlags := 26, slot := 0, constantValue := 0 }, { name := "COMPACT_STRINGS", type := .boolean, accessFlags := 24, slot := 1, constantValue := 0 }, { name := "serialPersistentFields", type := (.array (.object "java/io/ObjectStreamField")), accessFlags := 26, slot := 2, constantValue := 0 }, { name := "REPL", type := .char, accessFlags := 26, slot := 3, constantValue := 0 }, { name := "CASE_INSENSITIVE_ORDER", type := (.object "java/util/Comparator"), accessFlags := 25, slot := 4, constantValue := 0 }, { name := "LATIN1", type := .byte, accessFlags := 24, slot := 5, constantValue := 0 }, { name := "UTF16", type := .byte, accessFlags := 24, slot := 6, constantValue := 0 }]
  methods := #[k8m0, k8m1, k8m2]
  instanceTypes := #[(.array .byte), .byte, .int, .boolean]
  staticTypes := #[.long, .boolean, (.array (.object "java/io/ObjectStreamField")), .char, (.object "java/util/Comparator"), .byte, .byte]
  resolved := Array.replicate 1451 none
  statics := some 0 }

def pool9 : Array CpInfo := pool [(4, .class_ 6), (1, u "java/lang/Object"), (0, u "<init>"), (0, u "()V"), (5, .class_ 16), (1, u "java/lang/StringLatin1"), (73, u "canEncode"), (14, u "(C)Z"), (15, u "$assertionsDisabled"), (0, u "Z"), (98, .class_ 223), (1, u "java/lang/StringLatin1$LinesSpliterator"), (156, u "toBytes"), (1, u "(C)[B"), (7, .class_ 391), (0, u "java/lang/StringLatin1$CharsSpliterator")] 3

def k9m0 : Method := { name := "<init>", desc := "()V", sig := { parameters := [], returnType := none }, accessFlags := 0, code := none }
def k9c1 : Code := { maxStack := 2, maxLocals := 1, code := jdk_43_method_3_code, exceptionTable := #[], attributes := #[] }
def k9m1 : Method := { name := "canEncode", desc := "(C)Z", sig := { parameters := [.char], returnType := some .boolean }, accessFlags := 9, code := some k9c1 }
def k9c2 : Code := { maxStack := 4, maxLocals := 1, code := jdk_43_method_46_code, exceptionTable := #[], attributes := #[] }
def k9m2 : Method := { name := "toBytes", desc := "(C)[B", sig := { parameters := [.char], returnType := some (.array .byte) }, accessFlags := 9, code := some k9c2 }
/-- java/lang/StringLatin1 -/
def k9 : Class := { plain "java/lang/StringLatin1" (some 0) with
  accessFlags := 48
  interfaces := #[]
  cf := some (fileOf pool9 14 #[.nestMembers #[390, 221]] #[{ accessFlags := 0, nameIndex := 7, descriptorIndex := 8, attributes := #[] }, { accessFlags := 9, nameIndex := 90, descriptorIndex := 105, attributes := #[] }, { accessFlags := 9, nameIndex := 380, descriptorIndex := 382, attributes := #[] }] 48 4 #[] #[{ accessFlags := 4120, nameIndex := 121, descriptorIndex := 122, attributes := #[] }])
  fields := #[{ name := "$assertionsDisabled", type := .boolean, accessFlags := 4120, slot := 0, constantValue := 0 }]
  methods := #[k9m0, k9m1, k9m2]
  instanceTypes := #[]
  staticTypes := #[.boolean]
  resolved := Array.replicate 395 none
  statics := none }

def pool10 : Array CpInfo := pool [(2, .class_ 4), (1, u "java/lang/Object"), (0, u "<init>"), (0, u "()V"), (17, .class_ 26), (1, u "jdk/internal/util/Preconditions"), (28, .class_ 56), (0, u "jdk/internal/util/Preconditions$4"), (57, .class_ 115), (0, u "jdk/internal/util/Preconditions$1"), (7, u "SIOOBE_FORMATTER"), (0, u "Ljava/util/function/BiFunction;"), (0, .class_ 126), (0, u "jdk/internal/util/Preconditions$2"), (3, u "AIOOBE_FORMATTER"), (0, .class_ 132), (0, u "jdk/internal/util/Preconditions$3"), (3, u "IOOBE_FORMATTER")] 57

def k10m0 : Method := { name := "<init>", desc := "()V", sig := { parameters := [], returnType := none }, accessFlags := 1, code := none }
/-- jdk/internal/util/Preconditions -/
def k10 : Class := { plain "jdk/internal/util/Preconditions" (some 0) with
  accessFlags := 33
  interfaces := #[]
  cf := some (fileOf pool10 24 #[.nestMembers #[55, 131, 125, 114]] #[{ accessFlags := 1, nameIndex := 5, descriptorIndex := 6, attributes := #[] }] 33 2 #[] #[{ accessFlags := 25, nameIndex := 123, descriptorIndex := 124, attributes := #[] }, { accessFlags := 25, nameIndex := 130, descriptorIndex := 124, attributes := #[] }, { accessFlags := 25, nameIndex := 136, descriptorIndex := 124, attributes := #[] }])
  fields := #[{ name := "SIOOBE_FORMATTER", type := (.object "java/util/function/BiFunction"), accessFlags := 25, slot := 0, constantValue := 0 }, { name := "AIOOBE_FORMATTER", type := (.object "java/util/function/BiFunction"), accessFlags := 25, slot := 1, constantValue := 0 }, { name := "IOOBE_FORMATTER", type := (.object "java/util/function/BiFunction"), accessFlags := 25, slot := 2, constantValue := 0 }]
  methods := #[k10m0]
  instanceTypes := #[]
  staticTypes := #[(.object "java/util/function/BiFunction"), (.object "java/util/function/BiFunction"), (.object "java/util/function/BiFunction")]
  resolved := Array.replicate 194 none
  statics := some 1 }

def pool11 : Array CpInfo := pool [(9, u "<init>"), (6, .class_ 18), (1, u "java/lang/Object"), (0, u "()V"), (1, .class_ 23), (1, u "jdk/internal/util/ArraysSupport"), (0, u "LOG2_ARRAY_LONG_INDEX_SCALE"), (0, u "I"), (2, u "U"), (0, u "Ljdk/internal/misc/Unsafe;"), (8, u "BIG_ENDIAN"), (0, u "Z"), (8, u "LOG2_BYTE_BIT_SIZE"), (4, u "LOG2_ARRAY_INT_INDEX_SCALE"), (54, u "JLA"), (0, u "Ljdk/internal/access/JavaLangAccess;"), (11, u "LOG2_ARRAY_BOOLEAN_INDEX_SCALE"), (9, u "LOG2_ARRAY_BYTE_INDEX_SCALE"), (5, u "LOG2_ARRAY_CHAR_INDEX_SCALE"), (5, u "LOG2_ARRAY_SHORT_INDEX_SCALE"), (18, u "LOG2_ARRAY_FLOAT_INDEX_SCALE"), (24, u "LOG2_ARRAY_DOUBLE_INDEX_SCALE"), (89, u "T_BOOLEAN"), (2, u "T_CHAR"), (1, u "T_FLOAT"), (1, u "T_DOUBLE"), (1, u "T_BYTE"), (1, u "T_SHORT"), (1, u "T_INT"), (1, u "T_LONG"), (1, u "SOFT_MAX_ARRAY_LENGTH")] 83

def k11m0 : Method := { name := "<init>", desc := "()V", sig := { parameters := [], returnType := none }, accessFlags := 2, code := none }
/-- jdk/internal/util/ArraysSupport -/
def k11 : Class := { plain "jdk/internal/util/ArraysSupport" (some 0) with
  accessFlags := 33
  interfaces := #[]
  cf := some (fileOf pool11 21 #[] #[{ accessFlags := 2, nameIndex := 9, descriptorIndex := 19, attributes := #[] }] 33 16 #[] #[{ accessFlags := 24, nameIndex := 28, descriptorIndex := 29, attributes := #[] }, { accessFlags := 26, nameIndex := 38, descriptorIndex := 39, attributes := #[] }, { accessFlags := 25, nameIndex := 121, descriptorIndex := 25, attributes := #[] }, { accessFlags := 25, nameIndex := 131, descriptorIndex := 25, attributes := #[] }, { accessFlags := 25, nameIndex := 137, descriptorIndex := 25, attributes := #[] }, { accessFlags := 25, nameIndex := 143, descriptorIndex := 25, attributes := #[] }, { accessFlags := 25, nameIndex := 53, descriptorIndex := 25, attributes := #[] }, { accessFlags := 25, nameIndex := 24, descriptorIndex := 25, attributes := #[] }, { accessFlags := 25, nameIndex := 162, descriptorIndex := 25, attributes := #[] }, { accessFlags := 25, nameIndex := 187, descriptorIndex := 25, attributes := #[] }, { accessFlags := 26, nameIndex := 48, descriptorIndex := 25, attributes := #[] }, { accessFlags := 25, nameIndex := 277, descriptorIndex := 25, attributes := #[] }, { accessFlags := 25, nameIndex := 280, descriptorIndex := 25, attributes := #[] }, { accessFlags := 25, nameIndex := 282, descriptorIndex := 25, attributes := #[] }, { accessFlags := 25, nameIndex := 284, descriptorIndex := 25, attributes := #[] }, { accessFlags := 25, nameIndex := 286, descriptorIndex := 25, attributes := #[] }, { accessFlags := 25, nameIndex := 288, descriptorIndex := 25, attributes := #[] }, { accessFlags := 25, nameIndex := 290, descriptorIndex := 25, attributes := #[] }, { accessFlags := 25, nameIndex := 292, descriptorIndex := 25, attributes := #[] }, { accessFlags := 26, nameIndex := 108, descriptorIndex := 109, attributes := #[] }, { accessFlags := 25, nameIndex := 294, descriptorIndex := 25, attributes := #[] }])
  fields := #[{ name := "U", type := (.object "jdk/internal/misc/Unsafe"), accessFlags := 24, slot := 0, constantValue := 0 }, { name := "BIG_ENDIAN", type := .boolean, accessFlags := 26, slot := 1, constantValue := 0 }, { name := "LOG2_ARRAY_BOOLEAN_INDEX_SCALE", type := .int, accessFlags := 25, slot := 2, constantValue := 0 }, { name := "LOG2_ARRAY_BYTE_INDEX_SCALE", type := .int, accessFlags := 25, slot := 3, constantValue := 0 }, { name := "LOG2_ARRAY_CHAR_INDEX_SCALE", type := .int, accessFlags := 25, slot := 4, constantValue := 0 }, { name := "LOG2_ARRAY_SHORT_INDEX_SCALE", type := .int, accessFlags := 25, slot := 5, constantValue := 0 }, { name := "LOG2_ARRAY_INT_INDEX_SCALE", type := .int, accessFlags := 25, slot := 6, constantValue := 0 }, { name := "LOG2_ARRAY_LONG_INDEX_SCALE", type := .int, accessFlags := 25, slot := 7, constantValue := 0 }, { name := "LOG2_ARRAY_FLOAT_INDEX_SCALE", type := .int, accessFlags := 25, slot := 8, constantValue := 0 }, { name := "LOG2_ARRAY_DOUBLE_INDEX_SCALE", type := .int, accessFlags := 25, slot := 9, constantValue := 0 }, { name := "LOG2_BYTE_BIT_SIZE", type := .int, accessFlags := 26, slot := 10, constantValue := 0 }, { name := "T_BOOLEAN", type := .int, accessFlags := 25, slot := 11, constantValue := 0 }, { name := "T_CHAR", type := .int, accessFlags := 25, slot := 12, constantValue := 0 }, { name := "T_FLOAT", type := .int, accessFlags := 25, slot := 13, constantValue := 0 }, { name := "T_DOUBLE", type := .int, accessFlags := 25, slot := 14, constantValue := 0 }, { name := "T_BYTE", type := .int, accessFlags := 25, slot := 15, constantValue := 0 }, { name := "T_SHORT", type := .int, accessFlags := 25, slot := 16, constantValue := 0 }, { name := "T_INT", type := .int, accessFlags := 25, slot := 17, constantValue := 0 }, { name := "T_LONG", type := .int, accessFlags := 25, slot := 18, constantValue := 0 }, { name := "JLA", type := (.object "jdk/internal/access/JavaLangAccess"), accessFlags := 26, slot := 19, constantValue := 0 }, { name := "SOFT_MAX_ARRAY_LENGTH", type := .int, accessFlags := 25, slot := 20, constantValue := 0 }]
  methods := #[k11m0]
  instanceTypes := #[]
  staticTypes := #[(.object "jdk/internal/misc/Unsafe"), .boolean, .int, .int, .int, .int, .int, .int, .int, .int, .int, .int, .int, .int, .int, .int, .int, .int, .int, (.object "jdk/internal/access/JavaLangAccess"), .int]
  resolved := Array.replicate 378 none
  statics := none }

def pool12 : Array CpInfo := pool [(1, u "java/lang/Cloneable"), (0, .class_ 1), (0, u "java/lang/Object"), (0, .class_ 3)] 3

/-- java/lang/Cloneable -/
def k12 : Class := { plain "java/lang/Cloneable" (some 0) with
  accessFlags := 1537
  interfaces := #[]
  cf := some (fileOf pool12 2 #[] #[] 1537 4 #[] #[])
  fields := #[]
  methods := #[]
  instanceTypes := #[]
  staticTypes := #[]
  resolved := Array.replicate 8 none
  statics := none }

/-- the primitive byte -/
def k13 : Class := { plain "byte" none with kind := .primitive 'B', accessFlags := 0x411 }
/-- [B -/
def k14 : Class := { plain "[B" (some 0) with kind := .array 13 .byte, interfaces := #[12, 3], accessFlags := 1041 }

/-- the primitive int -/
def k15 : Class := { plain "int" none with kind := .primitive 'I', accessFlags := 0x411 }
/-- [I -/
def k16 : Class := { plain "[I" (some 0) with kind := .array 15 .int, interfaces := #[12, 3], accessFlags := 1041 }

def heap : Heap := #[{ cls := 8, slots := #[.long 0, .int 1, .null, .int 0, .null, .int 0, .int 0], vm := .statics 8 },
  { cls := 10, slots := #[.null, .null, .null], vm := .statics 10 }]
def classes : Array Class := #[k0, k1, k2, k3, k4, k5, k6, k7, k8, k9, k10, k11, k12, k13, k14, k15, k16]
def interned : List (Array UInt16 × Addr) := []
def slotsUsed : Nat := 10
def theMethod : MethodId := ⟨1, 1⟩
def args0 : Array Value := #[.int 5, .int 6, .int 7, .int 8, .int 9, .int 10]
def aboutOver (below : List Frame) : State where
  vm := { classes := classes, interned := interned.toArray }
  heap := heap
  slotsUsed := slotsUsed
  threads := #[{ frames := .invoking theMethod args0 :: below }]
def below0 : List Frame := [.native { method := ⟨0, 0⟩, args := #[] }]
def about1 : State := aboutOver below0
def p0 : Program := .bare "" "" ""
def e0 : Env := launch0.env 0 0 0
theorem w_frames : about1.frames = Frame.invoking theMethod args0 :: below0 := rfl
set_option maxRecDepth 65536 in
theorem w_args : argsFit about1.vm theMethod args0 = true := by decide +kernel
set_option maxRecDepth 65536 in
theorem w_heap : heapFits about1 = true := by decide +kernel
set_option maxRecDepth 65536 in
theorem w_runnable : about1.curStatus? = some .runnable := by decide +kernel
set_option maxRecDepth 65536 in
theorem w_alone : about1.alone = true := by decide +kernel
set_option maxRecDepth 65536 in
theorem w_named : about1.methodNamed? x = some theMethod := by decide +kernel
set_option maxRecDepth 65536 in
theorem w_hears : about1.hears theMethod below0 = true := by decide +kernel
set_option maxRecDepth 65536 in
theorem w_ripe : about1.ripe theMethod args0 below0 = true := by decide +kernel
theorem w_running : about1.status = .running := rfl
set_option maxRecDepth 65536 in
theorem w_room : about1.hasRoom e0.platform room_1 = true :=
  launch0.hasRoom_least _ room_1 (by decide +kernel) (by decide +kernel) (by decide +kernel) (by decide +kernel) (by decide +kernel) (by decide +kernel)
theorem allAtoms_all (ts : List Jvm.Cond) (a : Array Jvm.Value) (st : Jvm.State) : (allAtoms ts).before a st = ts.all (fun c => c.before a st) := by
  induction ts with
  | nil => rfl
  | cons c t ih =>
    show (Jvm.Cond.and c (allAtoms t)).before a st = _
    rw [Jvm.Cond.before_and, ih, List.all_cons]
def words1 : List Jvm.Cond := Jvm.Cond.code x code maxLocals ret :: tables_1
/-- a 'code' word, met by the world's own term for the bytes: nothing is compared byte by byte -/
theorem code_word {y : MethodName} {bytes : ByteArray} {mx : Nat} {rt : Option FieldType} {a : Array Value} {s : State} {m : MethodId} {meth : Method} {c : Code} (h1 : s.methodNamed? y = some m) (h2 : s.vm.method? m = some meth) (h3 : meth.code = some c) (h4 : c.code = bytes)
    (h5 : (c.maxLocals == mx && c.exceptionTable.isEmpty && decide (c.maxStack ≤ mostOperands) && decide (meth.sig.returnType = rt) && !meth.locks && decide (parseMethodDescriptor y.desc = some meth.sig)) = true) : (Jvm.Cond.code y bytes mx rt).before a s = true := by
  simp only [Bool.and_eq_true, beq_iff_eq, Bool.not_eq_true', decide_eq_true_eq] at h5
  obtain ⟨⟨⟨⟨⟨g1, g2⟩, g3⟩, g4⟩, g5⟩, g6⟩ := h5
  simp [Cond.before, Cond.holds, Cond.value, h1, h2, h3, h4, g1, g2, g3, g4, g5, g6]
def isCode : Jvm.Cond → Bool
  | .code _ _ _ _ => true
  | _ => false
theorem all_split {L : List Jvm.Cond} {P : Jvm.Cond → Bool} (h1 : L.all (fun c => isCode c || P c) = true) (h2 : ∀ c ∈ L.filter isCode, P c = true) : L.all P = true := by
  refine List.all_eq_true.mpr fun c hc => ?_
  have h := List.all_eq_true.mp h1 c hc
  rcases Bool.eq_false_or_eq_true (isCode c) with hi | hi
  · exact h2 c (List.mem_filter.mpr ⟨hc, hi⟩)
  · simpa [hi] using h
set_option maxRecDepth 65536 in
theorem w_c0 : (Jvm.Cond.code x code maxLocals ret).before args0 about1 = true := code_word (m := ⟨1, 1⟩) (meth := k1m1) (c := k1c1) (by decide +kernel) rfl rfl rfl (by decide +kernel)
set_option maxRecDepth 65536 in
theorem w_c1 : (Jvm.Cond.code ({ cls := "mullion/Insets", name := "<init>", desc := "(IIII)V" } : Jvm.MethodName) prog_78_method_1_code (5 : Nat) (Option.none : Option Jvm.ClassFile.FieldType)).before args0 about1 = true := code_word (m := ⟨2, 0⟩) (meth := k2m0) (c := k2c0) (by decide +kernel) rfl rfl rfl (by decide +kernel)
set_option maxRecDepth 65536 in
theorem w_c2 : (Jvm.Cond.code ({ cls := "java/lang/Object", name := "<init>", desc := "()V" } : Jvm.MethodName) object_method_1_code (1 : Nat) (Option.none : Option Jvm.ClassFile.FieldType)).before args0 about1 = true := code_word (m := ⟨0, 0⟩) (meth := k0m0) (c := k0c0) (by decide +kernel) rfl rfl rfl (by decide +kernel)
set_option maxRecDepth 65536 in
theorem w_c3 : (Jvm.Cond.code ({ cls := "mullion/Insets", name := "equals", desc := "(Ljava/lang/Object;)Z" } : Jvm.MethodName) prog_78_method_2_code (3 : Nat) (Option.some Jvm.ClassFile.FieldType.boolean)).before args0 about1 = true := code_word (m := ⟨2, 1⟩) (meth := k2m1) (c := k2c1) (by decide +kernel) rfl rfl rfl (by decide +kernel)
set_option maxRecDepth 65536 in
theorem w_c4 : (Jvm.Cond.code ({ cls := "java/lang/String", name := "valueOf", desc := "(C)Ljava/lang/String;" } : Jvm.MethodName) jdk_42_method_139_code (1 : Nat) (Option.some (Jvm.ClassFile.FieldType.object "java/lang/String"))).before args0 about1 = true := code_word (m := ⟨8, 1⟩) (meth := k8m1) (c := k8c1) (by decide +kernel) rfl rfl rfl (by decide +kernel)
set_option maxRecDepth 65536 in
theorem w_c5 : (Jvm.Cond.code ({ cls := "java/lang/StringLatin1", name := "canEncode", desc := "(C)Z" } : Jvm.MethodName) jdk_43_method_3_code (1 : Nat) (Option.some Jvm.ClassFile.FieldType.boolean)).before args0 about1 = true := code_word (m := ⟨9, 1⟩) (meth := k9m1) (c := k9c1) (by decide +kernel) rfl rfl rfl (by decide +kernel)
set_option maxRecDepth 65536 in
theorem w_c6 : (Jvm.Cond.code ({ cls := "java/lang/StringLatin1", name := "toBytes", desc := "(C)[B" } : Jvm.MethodName) jdk_43_method_46_code (1 : Nat) (Option.some (Jvm.ClassFile.FieldType.array Jvm.ClassFile.FieldType.byte))).before args0 about1 = true := code_word (m := ⟨9, 2⟩) (meth := k9m2) (c := k9c2) (by decide +kernel) rfl rfl rfl (by decide +kernel)
set_option maxRecDepth 65536 in
theorem w_c7 : (Jvm.Cond.code ({ cls := "java/lang/String", name := "<init>", desc := "([BB)V" } : Jvm.MethodName) jdk_42_method_151_code (3 : Nat) (Option.none : Option Jvm.ClassFile.FieldType)).before args0 about1 = true := code_word (m := ⟨8, 2⟩) (meth := k8m2) (c := k8c2) (by decide +kernel) rfl rfl rfl (by decide +kernel)
def codes1 : List Jvm.Cond := [Jvm.Cond.code x code maxLocals ret, Jvm.Cond.code ({ cls := "mullion/Insets", name := "<init>", desc := "(IIII)V" } : Jvm.MethodName) prog_78_method_1_code (5 : Nat) (Option.none : Option Jvm.ClassFile.FieldType), Jvm.Cond.code ({ cls := "java/lang/Object", name := "<init>", desc := "()V" } : Jvm.MethodName) object_method_1_code (1 : Nat) (Option.none : Option Jvm.ClassFile.FieldType), Jvm.Cond.code ({ cls := "mullion/Insets", name := "equals", desc := "(Ljava/lang/Object;)Z" } : Jvm.MethodName) prog_78_method_2_code (3 : Nat) (Option.some Jvm.ClassFile.FieldType.boolean), Jvm.Cond.code ({ cls := "java/lang/String", name := "valueOf", desc := "(C)Ljava/lang/String;" } : Jvm.MethodName) jdk_42_method_139_code (1 : Nat) (Option.some (Jvm.ClassFile.FieldType.object "java/lang/String")), Jvm.Cond.code ({ cls := "java/lang/StringLatin1", name := "canEncode", desc := "(C)Z" } : Jvm.MethodName) jdk_43_method_3_code (1 : Nat) (Option.some Jvm.ClassFile.FieldType.boolean), Jvm.Cond.code ({ cls := "java/lang/StringLatin1", name := "toBytes", desc := "(C)[B" } : Jvm.MethodName) jdk_43_method_46_code (1 : Nat) (Option.some (Jvm.ClassFile.FieldType.array Jvm.ClassFile.FieldType.byte)), Jvm.Cond.code ({ cls := "java/lang/String", name := "<init>", desc := "([BB)V" } : Jvm.MethodName) jdk_42_method_151_code (3 : Nat) (Option.none : Option Jvm.ClassFile.FieldType)]
set_option maxRecDepth 65536 in
theorem codes_eq : words1.filter isCode = codes1 := rfl
theorem w_codes : ∀ c ∈ words1.filter isCode, c.before args0 about1 = true := by
  rw [codes_eq]
  intro c hc
  simp only [codes1, List.mem_cons, List.not_mem_nil, or_false] at hc
  rcases hc with rfl | rfl | rfl | rfl | rfl | rfl | rfl | rfl
  · exact w_c0
  · exact w_c1
  · exact w_c2
  · exact w_c3
  · exact w_c4
  · exact w_c5
  · exact w_c6
  · exact w_c7
set_option maxRecDepth 65536 in
theorem w_t1 : (words1.take 24).all (fun c => isCode c || c.before args0 about1) = true := by decide +kernel
set_option maxRecDepth 65536 in
theorem w_t2 : ((words1.drop 24).take 24).all (fun c => isCode c || c.before args0 about1) = true := by decide +kernel
set_option maxRecDepth 65536 in
theorem w_t3 : ((words1.drop 24).drop 24).all (fun c => isCode c || c.before args0 about1) = true := by decide +kernel
theorem w_tables : (allAtoms (Jvm.Cond.code x code maxLocals ret :: tables_1)).before args0 about1 = true := by
  rw [allAtoms_all]
  show words1.all (fun c => c.before args0 about1) = true
  refine all_split ?_ w_codes
  rw [← List.take_append_drop 24 words1, List.all_append, w_t1, ← List.take_append_drop 24 (words1.drop 24), List.all_append, w_t2, w_t3]
  rfl
set_option maxRecDepth 65536 in
theorem w_rest : rest_1_c.before args0 about1 = true := by decide +kernel
set_option maxRecDepth 65536 in
theorem w_case : (Jvm.Cond.and given_1 narrow_1).before args0 about1 = true := by decide +kernel
theorem w_applies : (headSpec (Jvm.Cond.code x code maxLocals ret :: tables_1) room_1).applies x e0.platform about1 = true :=
  (Spec.applies_iff w_frames).mpr ⟨w_running, w_runnable, w_alone, w_named, w_hears, w_ripe, w_room, w_tables⟩
theorem atStart : AtStart classFile x code maxLocals ret World_1 tables_1 room_1 Calls_1 rest_1 Pre_1 launch0 p0 e0 about1 theMethod args0 below0 :=
  ⟨lists_1, trivial, launch0.admits_env _ _ _, launch0.least_env, fairChoices_fair.cas, fairChoices_fair.clock, w_frames, w_args, w_heap, w_applies, trivial, w_rest, w_case⟩
end start1
theorem witness_1 : WitnessClaimed_1 := ⟨start1.p0, start1.e0, start1.about1, start1.theMethod, start1.args0, start1.below0, start1.atStart⟩
end Jvm.Pilot.@@N@@
