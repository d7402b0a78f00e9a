import JvmDerived
import JvmDerived.Pilot.@@N@@Statement
import JvmDerived.Pilot.@@N@@Code
set_option linter.unusedVariables false
set_option linter.unusedSimpArgs false
namespace Jvm.Pilot.@@N@@
open Jvm Jvm.ClassFile Sem Op Lib Jvm.Free Jvm.Stand Jvm.LawKit Jvm.RoadKit Bundle Jvm.Pilot.@@N@@.Jvm.D
section Own
/-- from the state U the body comes to its end, and P holds there of what it returns, of the heap and of the places that were written -/
def own_G (tb : Tables) (e : Env) (below : List Frame) (s : State) (P : Option Value → Heap → List Loc → Prop) (k n : Nat) (U : State) : Prop :=
  ∃ s₂ o, Steps tb e below U s₂ ∧ s₂.status = .running ∧ Ended s₂ below o ∧ ∃ v L, o = .returned v ∧ P v s₂.heap L ∧ FrameEnd s o s₂ L k n
theorem own_up {tb : Tables} {e : Env} {below : List Frame} {s : State} {P : Option Value → Heap → List Loc → Prop} {k n : Nat} {U U' : State} (h : own_G tb e below s P k n U') (q : ∀ t, Steps tb e below U' t → Steps tb e below U t) : own_G tb e below s P k n U := by
  obtain ⟨s₂, o, h1, r⟩ := h
  exact ⟨s₂, o, q _ h1, r⟩
variable {p : Program} {l : Launch} {e : Env} {R : Room} {s : State} {m : MethodId} {args : Array Value} {below : List Frame} {meth : Method} {c : Code} {T : State} {locs : List Loc} {cells slots : Nat} {P : Option Value → Heap → List Loc → Prop} {k n : Nat}
theorem own_retI (X : Stand p l e R s m args below meth c T locs cells slots) (hx : p.tables.exec = Jvm.exec) (hlk : meth.locks = false) {t : FieldType} (hret : meth.sig.returnType = some t) (hti : t = .int ∨ t = .boolean ∨ t = .byte ∨ t = .char ∨ t = .short) {pc : Nat} {Ls : Array Slot} {w : Int32} (hn : narrow t (.int w) = .int w) (hd : decode c.code pc = .ok (.ireturn, 1)) (hP : P (some (.int w)) T.heap locs) (hk : cells ≤ k) (hs : slots ≤ n) : own_G p.tables e below s P k n (T.setTop (mkF m pc Ls [.int w])) := by
  obtain ⟨fs, hr, hrun, hended, hW, hsame⟩ := X.leave (v := some (.int w)) (fun h => by rw [hret] at h; cases h) hlk
  exact ⟨_, _, X.ireturnOut hx hret hn hti hd hr, hrun, hended, _, _, rfl, hP, ⟨_, rfl⟩, hW, hsame.mono hk hs⟩
theorem own_retJ (X : Stand p l e R s m args below meth c T locs cells slots) (hx : p.tables.exec = Jvm.exec) (hlk : meth.locks = false) (hret : meth.sig.returnType = some .long) {pc : Nat} {Ls : Array Slot} {w : Int64} (hd : decode c.code pc = .ok (.lreturn, 1)) (hP : P (some (.long w)) T.heap locs) (hk : cells ≤ k) (hs : slots ≤ n) : own_G p.tables e below s P k n (T.setTop (mkF m pc Ls [.long w])) := by
  obtain ⟨fs, hr, hrun, hended, hW, hsame⟩ := X.leave (v := some (.long w)) (fun h => by rw [hret] at h; cases h) hlk
  exact ⟨_, _, X.lreturnOut hx hret hd hr, hrun, hended, _, _, rfl, hP, ⟨_, rfl⟩, hW, hsame.mono hk hs⟩
theorem own_retA (X : Stand p l e R s m args below meth c T locs cells slots) (hx : p.tables.exec = Jvm.exec) (hlk : meth.locks = false) {t : FieldType} (hret : meth.sig.returnType = some t) (ht : t.isReference = true) {pc : Nat} {Ls : Array Slot} {w : Value} (hw : w.isRef = true) (hd : decode c.code pc = .ok (.areturn, 1)) (hP : P (some w) T.heap locs) (hk : cells ≤ k) (hs : slots ≤ n) : own_G p.tables e below s P k n (T.setTop (mkF m pc Ls [w])) := by
  obtain ⟨fs, hr, hrun, hended, hW, hsame⟩ := X.leave (v := some w) (fun h => by rw [hret] at h; cases h) hlk
  exact ⟨_, _, X.areturnOut hx hw hret ht hd hr, hrun, hended, _, _, rfl, hP, ⟨_, rfl⟩, hW, hsame.mono hk hs⟩
theorem own_retV (X : Stand p l e R s m args below meth c T locs cells slots) (hx : p.tables.exec = Jvm.exec) (hlk : meth.locks = false) (hret : meth.sig.returnType = none) {pc : Nat} {Ls : Array Slot} (hd : decode c.code pc = .ok (.return_, 1)) (hP : P none T.heap locs) (hk : cells ≤ k) (hs : slots ≤ n) : own_G p.tables e below s P k n (T.setTop (mkF m pc Ls [])) := by
  obtain ⟨fs, hr, hrun, hended, hW, hsame⟩ := X.leave (v := none) (fun _ => rfl) hlk
  exact ⟨_, _, X.returnOut hx hret hd hr, hrun, hended, _, _, rfl, hP, ⟨_, rfl⟩, hW, hsame.mono hk hs⟩
end Own
def own_m1 (z : Int64) : Int64 := ((z ^^^ ((z.toUInt64 >>> ((30 : Int32) &&& 0x3f).toInt64.toUInt64).toInt64)) * (-4658895280553007687 : Int64))
def own_m2 (z : Int64) : Int64 := ((z ^^^ ((z.toUInt64 >>> ((27 : Int32) &&& 0x3f).toInt64.toUInt64).toInt64)) * (-7723592293110705685 : Int64))
def own_m3 (z : Int64) : Int64 := (z ^^^ ((z.toUInt64 >>> ((31 : Int32) &&& 0x3f).toInt64.toUInt64).toInt64))
def own_u1 (z : Int64) : Int64 := (((z ^^^ ((z.toUInt64 >>> ((31 : Int32) &&& 0x3f).toInt64.toUInt64).toInt64)) ^^^ ((z.toUInt64 >>> ((62 : Int32) &&& 0x3f).toInt64.toUInt64).toInt64)) * (3573116690164977347 : Int64))
def own_u2 (z : Int64) : Int64 := (((z ^^^ ((z.toUInt64 >>> ((27 : Int32) &&& 0x3f).toInt64.toUInt64).toInt64)) ^^^ ((z.toUInt64 >>> ((54 : Int32) &&& 0x3f).toInt64.toUInt64).toInt64)) * (-7575587736534282103 : Int64))
def own_u3 (z : Int64) : Int64 := ((z ^^^ ((z.toUInt64 >>> ((30 : Int32) &&& 0x3f).toInt64.toUInt64).toInt64)) ^^^ ((z.toUInt64 >>> ((60 : Int32) &&& 0x3f).toInt64.toUInt64).toInt64))
theorem own_sr (z : Int64) (q : Int32) (k : Nat) (hk : q.toBitVec.toNat % 64 = k) : ((z.toUInt64 >>> (q &&& 0x3f).toInt64.toUInt64).toInt64).toBitVec = z.toBitVec >>> k := by
  show z.toBitVec >>> ((q &&& 0x3f).toInt64.toBitVec % 64) = z.toBitVec >>> k
  have h5 := (sm64 q k hk).2
  rw [BitVec.ushiftRight_eq', BitVec.toNat_umod, (sm64 q k hk).1, BitVec.toNat_ofNat]
  congr 1
  show k % 2 ^ 64 % 64 = k
  omega
theorem own_xs (x : BitVec 64) (k : Nat) (hk : 64 ≤ k + k + k) : (x ^^^ x >>> k) ^^^ (x ^^^ x >>> k) >>> k ^^^ (x ^^^ x >>> k) >>> (k + k) = x := by
  apply BitVec.eq_of_getLsbD_eq
  intro i hi
  simp only [BitVec.getLsbD_xor, BitVec.getLsbD_ushiftRight]
  have e1 : k + (k + i) = k + k + i := by omega
  have e2 : k + (k + k + i) = k + k + k + i := by omega
  have z : x.getLsbD (k + k + k + i) = false := BitVec.getLsbD_of_ge _ _ (by omega)
  rw [e1, e2, z]
  cases x.getLsbD i <;> cases x.getLsbD (k + i) <;> cases x.getLsbD (k + k + i) <;> rfl
theorem own_inv (z : Int64) : own_u3 (own_u2 (own_u1 (own_m3 (own_m2 (own_m1 z))))) = z := by
  have a1 : ∀ y : Int64, own_u1 (own_m3 y) = y * (3573116690164977347 : Int64) := fun y => by
    unfold own_u1 own_m3
    congr 1
    apply Int64.toBitVec_inj.mp
    simp only [Int64.toBitVec_xor]
    rw [own_sr _ 62 62 (by decide), own_sr _ 31 31 (by decide)]
    simp only [Int64.toBitVec_xor]
    rw [own_sr _ 31 31 (by decide)]
    exact own_xs y.toBitVec 31 (by decide)
  have a2 : ∀ y : Int64, own_u2 (own_m2 y * (3573116690164977347 : Int64)) = y * (-7575587736534282103 : Int64) := fun y => by
    have e : own_m2 y * (3573116690164977347 : Int64) = (y ^^^ ((y.toUInt64 >>> ((27 : Int32) &&& 0x3f).toInt64.toUInt64).toInt64)) := by
      unfold own_m2
      rw [Int64.mul_assoc, show (-7723592293110705685 : Int64) * (3573116690164977347 : Int64) = 1 by decide, Int64.mul_one]
    rw [e]
    unfold own_u2
    congr 1
    apply Int64.toBitVec_inj.mp
    simp only [Int64.toBitVec_xor]
    rw [own_sr _ 54 54 (by decide), own_sr _ 27 27 (by decide)]
    simp only [Int64.toBitVec_xor]
    rw [own_sr _ 27 27 (by decide)]
    exact own_xs y.toBitVec 27 (by decide)
  have a3 : ∀ y : Int64, own_u3 (own_m1 y * (-7575587736534282103 : Int64)) = y := fun y => by
    have e : own_m1 y * (-7575587736534282103 : Int64) = (y ^^^ ((y.toUInt64 >>> ((30 : Int32) &&& 0x3f).toInt64.toUInt64).toInt64)) := by
      unfold own_m1
      rw [Int64.mul_assoc, show (-4658895280553007687 : Int64) * (-7575587736534282103 : Int64) = 1 by decide, Int64.mul_one]
    rw [e]
    unfold own_u3
    apply Int64.toBitVec_inj.mp
    simp only [Int64.toBitVec_xor]
    rw [own_sr _ 60 60 (by decide), own_sr _ 30 30 (by decide)]
    simp only [Int64.toBitVec_xor]
    rw [own_sr _ 30 30 (by decide)]
    exact own_xs y.toBitVec 30 (by decide)
  rw [a1, a2, a3]
theorem own_pd0 : parseMethodDescriptor "(J)V" = some ⟨[.long], none⟩ := by decide +kernel
theorem own_pd1 : parseMethodDescriptor "()J" = some ⟨[], some .long⟩ := by decide +kernel
theorem own_pd2 : parseMethodDescriptor "(J)J" = some ⟨[.long], some .long⟩ := by decide +kernel
theorem own_d1_0 : decode prog_25_method_1_code 0 = .ok (.aload_n 0, 1) := by decide +kernel
theorem own_d1_1 : decode prog_25_method_1_code 1 = .ok (.invokespecial 1, 3) := by decide +kernel
theorem own_d1_4 : decode prog_25_method_1_code 4 = .ok (.aload_n 0, 1) := by decide +kernel
theorem own_d1_5 : decode prog_25_method_1_code 5 = .ok (.lload_n 1, 1) := by decide +kernel
theorem own_d1_6 : decode prog_25_method_1_code 6 = .ok (.putfield 7, 3) := by decide +kernel
theorem own_d1_9 : decode prog_25_method_1_code 9 = .ok (.return_, 1) := by decide +kernel
theorem own_pn0 : plainName "com/example/swarmfront/swarmfront/swarm/Rng" = true := by first | (simp [plainName, overriddenIn]; done) | decide +kernel
theorem own_ef_rm1 (m : MethodId) (x0 : Addr) (x1 : Int64) : entryFrame m #[(.ref x0), (.long x1)] 3 = mkF m 0 #[.val (.ref x0), .val (.long x1), .second] [] := by first | (simp [entryFrame, mkF, argsToLocals, Value.category]; done) | rfl
def own_Q_rm1 (Z : State) (a : Addr) (q : Int64) (u_state : Value) (h0 : Heap) (n0 : Nat) (v : Option Value) (h : Heap) (L : List Loc) : Prop := v = none ∧ Fr n0 L ∧ Keep h0 h [a] ∧ Fld Z h a "com/example/swarmfront/swarmfront/swarm/Rng" "state" "J" (.long q)
set_option maxRecDepth 65536 in
set_option maxHeartbeats 40000000 in
theorem rm1 (l : Launch) (Z : State) (a0 : Array Value) (hw : ∀ d ∈ tables_1, d.before a0 Z = true) (ws : List Jvm.Cond) (a : Addr) (q : Int64) (u_state : Value) (h0 : Heap) (n0 : Nat) (Z0 : n0 ≤ h0.size) (E_a : Exa Z h0 a "com/example/swarmfront/swarmfront/swarm/Rng") (F_state : Fld Z h0 a "com/example/swarmfront/swarmfront/swarm/Rng" "state" "J" u_state) (g_a : n0 ≤ a) :
    MetFree l (⟨"com/example/swarmfront/swarmfront/swarm/Rng", "<init>", "(J)V"⟩ : MethodName) (head1 (Jvm.Cond.code (⟨"com/example/swarmfront/swarmfront/swarm/Rng", "<init>", "(J)V"⟩ : MethodName) prog_25_method_1_code 3 none :: ws) ({ frames := 1, cells := 0, slots := 0, locals := 12 } : Room)) (fun aa UU => aa = #[(.ref a), (.long q)] ∧ Z.Warmed39 UU.vm ∧ UU.heap = h0) (fun _ _ _ _ _ => True) (fun _ UU oo UU' => ∃ vv LL, oo = .returned vv ∧ own_Q_rm1 Z a q u_state h0 n0 vv UU'.heap LL ∧ FrameEnd UU oo UU' LL ({ frames := 1, cells := 0, slots := 0, locals := 12 } : Room).cells ({ frames := 1, cells := 0, slots := 0, locals := 12 } : Room).slots) := by
  refine MetFree.of_bodySF (plainFor_of_name own_pn0) hisR ?_
  intro p e s m args below meth c s₁ Bd hml0 hP hK
  obtain ⟨rfl, hZ, hh⟩ := hP
  have hx := Bd.exec
  have hby := Bd.bytes
  have hlk := Bd.notSynchronized
  have hml : c.maxLocals = 3 := hml0
  have hown : s.vm.findClass "com/example/swarmfront/swarmfront/swarm/Rng" = some m.cls := findClass_of_methodNamed Bd.named
  have hnm := (name_of_methodNamed Bd.named Bd.method).1
  have X0 : Stand p l e ({ frames := 1, cells := 0, slots := 0, locals := 12 } : Room) s m #[(.ref a), (.long q)] below meth c s₁ [] 0 0 := Stand.of_body Bd
  have e0 : s₁.heap = h0 := by rw [← hh, Bd.state]; rfl
  have N0 := Fr.nil n0
  show own_G p.tables e below s (own_Q_rm1 Z a q u_state h0 n0) ({ frames := 1, cells := 0, slots := 0, locals := 12 } : Room).cells ({ frames := 1, cells := 0, slots := 0, locals := 12 } : Room).slots (s₁.setTop (entryFrame m #[(.ref a), (.long q)] 3))
  have K0 := Keep.refl h0 [a]
  refine own_up (U' := s₁.setTop (mkF m 0 #[.val (.ref a), .val (.long q), .second] [])) ?_ (fun t k => castTop (own_ef_rm1 m a q) k)
  refine own_up ?_ fun t k => XS.aloadN X0.here hx rfl (hb hby own_d1_0) rfl rfl k
  show own_G p.tables e below s _ _ _ (s₁.setTop (mkF m 1 #[.val (.ref a), .val (.long q), .second] [(.ref a)]))
  obtain ⟨T1, X1, e1, st1⟩ := initO X0 hx hZ hown (hw _ (List.mem_of_getElem? (i := 7) rfl)) (hw _ (List.mem_of_getElem? (i := 8) rfl)) (hw _ (List.mem_of_getElem? (i := 9) rfl)) e0 (g := (mkF m 1 #[.val (.ref a), .val (.long q), .second] [(.ref a)])) rfl (by rw [hml]; rfl) rfl (hb hby own_d1_1) (by decide) (W := 0) (by show 2 * 0 + _ ≤ _; exact Nat.le_of_eq rfl) (by decide)
  refine own_up ?_ st1
  show own_G p.tables e below s _ _ _ (T1.setTop (mkF m 4 #[.val (.ref a), .val (.long q), .second] []))
  refine own_up ?_ fun t k => XS.aloadN X1.here hx rfl (hb hby own_d1_4) rfl rfl k
  show own_G p.tables e below s _ _ _ (T1.setTop (mkF m 5 #[.val (.ref a), .val (.long q), .second] [(.ref a)]))
  refine own_up ?_ fun t k => XS.lloadN X1.here hx rfl (hb hby own_d1_5) rfl k
  show own_G p.tables e below s _ _ _ (T1.setTop (mkF m 6 #[.val (.ref a), .val (.long q), .second] [(.long q), (.ref a)]))
  obtain ⟨T2, h2, X2, e2, W2, st2⟩ := putF X1 hx hZ hown (host := "") (Or.inl (hw _ (List.mem_of_getElem? (i := 10) rfl))) Via.refl e1 F_state E_a (Or.inl (hw _ (List.mem_of_getElem? (i := 11) rfl))) (hw _ (List.mem_of_getElem? (i := 2) rfl)) (ty := .long) (by decide) rfl rfl (g := (mkF m 6 #[.val (.ref a), .val (.long q), .second] [(.long q), (.ref a)])) rfl rfl (hb hby own_d1_6)
  refine own_up ?_ st2
  have E_a_3 := E_a.wr W2
  have F2 := F_state.same W2
  have N2 := Fr.snoc X2 N0 g_a
  have Zs4 : n0 ≤ h2.size := Nat.le_trans Z0 (Keep.of_wr W2).1
  have K5 : Keep h0 h2 [a] := K0.wr W2 (Or.inl (List.mem_of_getElem? (i := 0) rfl))
  show own_G p.tables e below s _ _ _ (T2.setTop (mkF m 9 #[.val (.ref a), .val (.long q), .second] []))
  exact own_retV X2 hx hlk Bd.returns (hb hby own_d1_9) (by rw [e2]; exact ⟨rfl, N2, K5, F2⟩) (by decide) (by decide)
theorem own_d3_0 : decode prog_25_method_2_code 0 = .ok (.aload_n 0, 1) := by decide +kernel
theorem own_d3_1 : decode prog_25_method_2_code 1 = .ok (.dup, 1) := by decide +kernel
theorem own_d3_2 : decode prog_25_method_2_code 2 = .ok (.getfield 7, 3) := by decide +kernel
theorem own_d3_5 : decode prog_25_method_2_code 5 = .ok (.ldc2_w 13, 3) := by decide +kernel
theorem own_d3_8 : decode prog_25_method_2_code 8 = .ok (.ladd, 1) := by decide +kernel
theorem own_d3_9 : decode prog_25_method_2_code 9 = .ok (.putfield 7, 3) := by decide +kernel
theorem own_d3_12 : decode prog_25_method_2_code 12 = .ok (.aload_n 0, 1) := by decide +kernel
theorem own_d3_13 : decode prog_25_method_2_code 13 = .ok (.getfield 7, 3) := by decide +kernel
theorem own_d3_16 : decode prog_25_method_2_code 16 = .ok (.lstore_n 1, 1) := by decide +kernel
theorem own_d3_17 : decode prog_25_method_2_code 17 = .ok (.lload_n 1, 1) := by decide +kernel
theorem own_d3_18 : decode prog_25_method_2_code 18 = .ok (.lload_n 1, 1) := by decide +kernel
theorem own_d3_19 : decode prog_25_method_2_code 19 = .ok (.bipush 30, 2) := by decide +kernel
theorem own_d3_21 : decode prog_25_method_2_code 21 = .ok (.lushr, 1) := by decide +kernel
theorem own_d3_22 : decode prog_25_method_2_code 22 = .ok (.lxor, 1) := by decide +kernel
theorem own_d3_23 : decode prog_25_method_2_code 23 = .ok (.ldc2_w 15, 3) := by decide +kernel
theorem own_d3_26 : decode prog_25_method_2_code 26 = .ok (.lmul, 1) := by decide +kernel
theorem own_d3_27 : decode prog_25_method_2_code 27 = .ok (.lstore_n 1, 1) := by decide +kernel
theorem own_d3_28 : decode prog_25_method_2_code 28 = .ok (.lload_n 1, 1) := by decide +kernel
theorem own_d3_29 : decode prog_25_method_2_code 29 = .ok (.lload_n 1, 1) := by decide +kernel
theorem own_d3_30 : decode prog_25_method_2_code 30 = .ok (.bipush 27, 2) := by decide +kernel
theorem own_d3_32 : decode prog_25_method_2_code 32 = .ok (.lushr, 1) := by decide +kernel
theorem own_d3_33 : decode prog_25_method_2_code 33 = .ok (.lxor, 1) := by decide +kernel
theorem own_d3_34 : decode prog_25_method_2_code 34 = .ok (.ldc2_w 17, 3) := by decide +kernel
theorem own_d3_37 : decode prog_25_method_2_code 37 = .ok (.lmul, 1) := by decide +kernel
theorem own_d3_38 : decode prog_25_method_2_code 38 = .ok (.lstore_n 1, 1) := by decide +kernel
theorem own_d3_39 : decode prog_25_method_2_code 39 = .ok (.lload_n 1, 1) := by decide +kernel
theorem own_d3_40 : decode prog_25_method_2_code 40 = .ok (.lload_n 1, 1) := by decide +kernel
theorem own_d3_41 : decode prog_25_method_2_code 41 = .ok (.bipush 31, 2) := by decide +kernel
theorem own_d3_43 : decode prog_25_method_2_code 43 = .ok (.lushr, 1) := by decide +kernel
theorem own_d3_44 : decode prog_25_method_2_code 44 = .ok (.lxor, 1) := by decide +kernel
theorem own_d3_45 : decode prog_25_method_2_code 45 = .ok (.lreturn, 1) := by decide +kernel
theorem own_ef_rm3 (m : MethodId) (x0 : Addr) : entryFrame m #[(.ref x0)] 3 = mkF m 0 #[.val (.ref x0), .unset, .unset] [] := by first | (simp [entryFrame, mkF, argsToLocals, Value.category]; done) | rfl
def own_Q_rm3 (Z : State) (a : Addr) (w : Int64) (h0 : Heap) (n0 : Nat) (v : Option Value) (h : Heap) (L : List Loc) : Prop := v = some (.long (own_m3 (own_m2 (own_m1 (w + (-7046029254386353131 : Int64)))))) ∧ Fr n0 L ∧ Keep h0 h [a] ∧ Fld Z h a "com/example/swarmfront/swarmfront/swarm/Rng" "state" "J" (.long (w + (-7046029254386353131 : Int64)))
set_option maxRecDepth 65536 in
set_option maxHeartbeats 40000000 in
theorem rm3 (l : Launch) (Z : State) (a0 : Array Value) (hw : ∀ d ∈ tables_1, d.before a0 Z = true) (ws : List Jvm.Cond) (a : Addr) (w : Int64) (h0 : Heap) (n0 : Nat) (Z0 : n0 ≤ h0.size) (E_a : Exa Z h0 a "com/example/swarmfront/swarmfront/swarm/Rng") (F_a : Fld Z h0 a "com/example/swarmfront/swarmfront/swarm/Rng" "state" "J" (.long w)) (g_a : n0 ≤ a) :
    MetFree l (⟨"com/example/swarmfront/swarmfront/swarm/Rng", "nextLong", "()J"⟩ : MethodName) (head1 (Jvm.Cond.code (⟨"com/example/swarmfront/swarmfront/swarm/Rng", "nextLong", "()J"⟩ : MethodName) prog_25_method_2_code 3 (some .long) :: ws) ({ frames := 0, cells := 0, slots := 0, locals := 0 } : Room)) (fun aa UU => aa = #[(.ref a)] ∧ Z.Warmed39 UU.vm ∧ UU.heap = h0) (fun _ _ _ _ _ => True) (fun _ UU oo UU' => ∃ vv LL, oo = .returned vv ∧ own_Q_rm3 Z a w h0 n0 vv UU'.heap LL ∧ FrameEnd UU oo UU' LL ({ frames := 0, cells := 0, slots := 0, locals := 0 } : Room).cells ({ frames := 0, cells := 0, slots := 0, locals := 0 } : Room).slots) := by
  refine MetFree.of_bodySF (plainFor_of_name own_pn0) hisR ?_
  intro p e s m args below meth c s₁ Bd hml0 hP hK
  obtain ⟨rfl, hZ, hh⟩ := hP
  have hx := Bd.exec
  have hby := Bd.bytes
  have hlk := Bd.notSynchronized
  have hml : c.maxLocals = 3 := hml0
  have hown : s.vm.findClass "com/example/swarmfront/swarmfront/swarm/Rng" = some m.cls := findClass_of_methodNamed Bd.named
  have hnm := (name_of_methodNamed Bd.named Bd.method).1
  have X0 : Stand p l e ({ frames := 0, cells := 0, slots := 0, locals := 0 } : Room) s m #[(.ref a)] below meth c s₁ [] 0 0 := Stand.of_body Bd
  have e0 : s₁.heap = h0 := by rw [← hh, Bd.state]; rfl
  have N0 := Fr.nil n0
  show own_G p.tables e below s (own_Q_rm3 Z a w h0 n0) ({ frames := 0, cells := 0, slots := 0, locals := 0 } : Room).cells ({ frames := 0, cells := 0, slots := 0, locals := 0 } : Room).slots (s₁.setTop (entryFrame m #[(.ref a)] 3))
  have K0 := Keep.refl h0 [a]
  refine own_up (U' := s₁.setTop (mkF m 0 #[.val (.ref a), .unset, .unset] [])) ?_ (fun t k => castTop (own_ef_rm3 m a) k)
  refine own_up ?_ fun t k => XS.aloadN X0.here hx rfl (hb hby own_d3_0) rfl rfl k
  show own_G p.tables e below s _ _ _ (s₁.setTop (mkF m 1 #[.val (.ref a), .unset, .unset] [(.ref a)]))
  refine own_up ?_ fun t k => XS.dup X0.here hx rfl (hb hby own_d3_1) rfl rfl k
  show own_G p.tables e below s _ _ _ (s₁.setTop (mkF m 2 #[.val (.ref a), .unset, .unset] [(.ref a), (.ref a)]))
  obtain ⟨T6, X6, e6, st6⟩ := getF X0 hx hZ hown (host := "") (Or.inl (hw _ (List.mem_of_getElem? (i := 10) rfl))) Via.refl e0 F_a (g := (mkF m 2 #[.val (.ref a), .unset, .unset] [(.ref a), (.ref a)])) rfl rfl (hb hby own_d3_2)
  refine own_up ?_ st6
  show own_G p.tables e below s _ _ _ (T6.setTop (mkF m 5 #[.val (.ref a), .unset, .unset] [(.long w), (.ref a)]))
  refine own_up ?_ fun t k => X6.ldc2Long hx hown (mvT hZ (hw _ (List.mem_of_getElem? (i := 17) rfl))) (g := (mkF m 5 #[.val (.ref a), .unset, .unset] [(.long w), (.ref a)])) rfl (hb hby own_d3_5) _ k
  show own_G p.tables e below s _ _ _ (T6.setTop (mkF m 8 #[.val (.ref a), .unset, .unset] [(.long (-7046029254386353131 : Int64)), (.long w), (.ref a)]))
  refine own_up ?_ fun t k => XS.ladd X6.here hx rfl (hb hby own_d3_8) rfl k
  show own_G p.tables e below s _ _ _ (T6.setTop (mkF m 9 #[.val (.ref a), .unset, .unset] [(.long (w + (-7046029254386353131 : Int64))), (.ref a)]))
  obtain ⟨T7, h7, X7, e7, W7, st7⟩ := putF X6 hx hZ hown (host := "") (Or.inl (hw _ (List.mem_of_getElem? (i := 10) rfl))) Via.refl e6 F_a E_a (Or.inl (hw _ (List.mem_of_getElem? (i := 11) rfl))) (hw _ (List.mem_of_getElem? (i := 2) rfl)) (ty := .long) (by decide) rfl rfl (g := (mkF m 9 #[.val (.ref a), .unset, .unset] [(.long (w + (-7046029254386353131 : Int64))), (.ref a)])) rfl rfl (hb hby own_d3_9)
  refine own_up ?_ st7
  have E_a_8 := E_a.wr W7
  have F7 := F_a.same W7
  have N7 := Fr.snoc X7 N0 g_a
  have Zs9 : n0 ≤ h7.size := Nat.le_trans Z0 (Keep.of_wr W7).1
  have K10 : Keep h0 h7 [a] := K0.wr W7 (Or.inl (List.mem_of_getElem? (i := 0) rfl))
  show own_G p.tables e below s _ _ _ (T7.setTop (mkF m 12 #[.val (.ref a), .unset, .unset] []))
  refine own_up ?_ fun t k => XS.aloadN X7.here hx rfl (hb hby own_d3_12) rfl rfl k
  show own_G p.tables e below s _ _ _ (T7.setTop (mkF m 13 #[.val (.ref a), .unset, .unset] [(.ref a)]))
  obtain ⟨T11, X11, e11, st11⟩ := getF X7 hx hZ hown (host := "") (Or.inl (hw _ (List.mem_of_getElem? (i := 10) rfl))) Via.refl e7 F7 (g := (mkF m 13 #[.val (.ref a), .unset, .unset] [(.ref a)])) rfl rfl (hb hby own_d3_13)
  refine own_up ?_ st11
  show own_G p.tables e below s _ _ _ (T11.setTop (mkF m 16 #[.val (.ref a), .unset, .unset] [(.long (w + (-7046029254386353131 : Int64)))]))
  refine own_up ?_ fun t k => XS.lstoreN X11.here hx rfl (hb hby own_d3_16) rfl (l' := #[.val (.ref a), .val (.long (w + (-7046029254386353131 : Int64))), .second]) rfl k
  show own_G p.tables e below s _ _ _ (T11.setTop (mkF m 17 #[.val (.ref a), .val (.long (w + (-7046029254386353131 : Int64))), .second] []))
  refine own_up ?_ fun t k => XS.lloadN X11.here hx rfl (hb hby own_d3_17) rfl k
  show own_G p.tables e below s _ _ _ (T11.setTop (mkF m 18 #[.val (.ref a), .val (.long (w + (-7046029254386353131 : Int64))), .second] [(.long (w + (-7046029254386353131 : Int64)))]))
  refine own_up ?_ fun t k => XS.lloadN X11.here hx rfl (hb hby own_d3_18) rfl k
  show own_G p.tables e below s _ _ _ (T11.setTop (mkF m 19 #[.val (.ref a), .val (.long (w + (-7046029254386353131 : Int64))), .second] [(.long (w + (-7046029254386353131 : Int64))), (.long (w + (-7046029254386353131 : Int64)))]))
  refine own_up ?_ fun t k => XS.bipush X11.here hx rfl (hb hby own_d3_19) k
  show own_G p.tables e below s _ _ _ (T11.setTop (mkF m 21 #[.val (.ref a), .val (.long (w + (-7046029254386353131 : Int64))), .second] [(.int (30 : Int32)), (.long (w + (-7046029254386353131 : Int64))), (.long (w + (-7046029254386353131 : Int64)))]))
  refine own_up ?_ fun t k => XS.lushr X11.here hx rfl (hb hby own_d3_21) rfl k
  show own_G p.tables e below s _ _ _ (T11.setTop (mkF m 22 #[.val (.ref a), .val (.long (w + (-7046029254386353131 : Int64))), .second] [(.long (((w + (-7046029254386353131 : Int64)).toUInt64 >>> ((30 : Int32) &&& 0x3f).toInt64.toUInt64).toInt64)), (.long (w + (-7046029254386353131 : Int64)))]))
  refine own_up ?_ fun t k => XS.lxor X11.here hx rfl (hb hby own_d3_22) rfl k
  show own_G p.tables e below s _ _ _ (T11.setTop (mkF m 23 #[.val (.ref a), .val (.long (w + (-7046029254386353131 : Int64))), .second] [(.long ((w + (-7046029254386353131 : Int64)) ^^^ (((w + (-7046029254386353131 : Int64)).toUInt64 >>> ((30 : Int32) &&& 0x3f).toInt64.toUInt64).toInt64)))]))
  refine own_up ?_ fun t k => X11.ldc2Long hx hown (mvT hZ (hw _ (List.mem_of_getElem? (i := 18) rfl))) (g := (mkF m 23 #[.val (.ref a), .val (.long (w + (-7046029254386353131 : Int64))), .second] [(.long ((w + (-7046029254386353131 : Int64)) ^^^ (((w + (-7046029254386353131 : Int64)).toUInt64 >>> ((30 : Int32) &&& 0x3f).toInt64.toUInt64).toInt64)))])) rfl (hb hby own_d3_23) _ k
  show own_G p.tables e below s _ _ _ (T11.setTop (mkF m 26 #[.val (.ref a), .val (.long (w + (-7046029254386353131 : Int64))), .second] [(.long (-4658895280553007687 : Int64)), (.long ((w + (-7046029254386353131 : Int64)) ^^^ (((w + (-7046029254386353131 : Int64)).toUInt64 >>> ((30 : Int32) &&& 0x3f).toInt64.toUInt64).toInt64)))]))
  refine own_up ?_ fun t k => XS.lmul X11.here hx rfl (hb hby own_d3_26) rfl k
  show own_G p.tables e below s _ _ _ (T11.setTop (mkF m 27 #[.val (.ref a), .val (.long (w + (-7046029254386353131 : Int64))), .second] [(.long (((w + (-7046029254386353131 : Int64)) ^^^ (((w + (-7046029254386353131 : Int64)).toUInt64 >>> ((30 : Int32) &&& 0x3f).toInt64.toUInt64).toInt64)) * (-4658895280553007687 : Int64)))]))
  refine own_up ?_ fun t k => XS.lstoreN X11.here hx rfl (hb hby own_d3_27) rfl (l' := #[.val (.ref a), .val (.long (((w + (-7046029254386353131 : Int64)) ^^^ (((w + (-7046029254386353131 : Int64)).toUInt64 >>> ((30 : Int32) &&& 0x3f).toInt64.toUInt64).toInt64)) * (-4658895280553007687 : Int64))), .second]) rfl k
  show own_G p.tables e below s _ _ _ (T11.setTop (mkF m 28 #[.val (.ref a), .val (.long (((w + (-7046029254386353131 : Int64)) ^^^ (((w + (-7046029254386353131 : Int64)).toUInt64 >>> ((30 : Int32) &&& 0x3f).toInt64.toUInt64).toInt64)) * (-4658895280553007687 : Int64))), .second] []))
  show own_G p.tables e below s _ _ _ (T11.setTop (mkF m 28 #[.val (.ref a), .val (.long (own_m1 (w + (-7046029254386353131 : Int64)))), .second] []))
  refine own_up ?_ fun t k => XS.lloadN X11.here hx rfl (hb hby own_d3_28) rfl k
  show own_G p.tables e below s _ _ _ (T11.setTop (mkF m 29 #[.val (.ref a), .val (.long (own_m1 (w + (-7046029254386353131 : Int64)))), .second] [(.long (own_m1 (w + (-7046029254386353131 : Int64))))]))
  refine own_up ?_ fun t k => XS.lloadN X11.here hx rfl (hb hby own_d3_29) rfl k
  show own_G p.tables e below s _ _ _ (T11.setTop (mkF m 30 #[.val (.ref a), .val (.long (own_m1 (w + (-7046029254386353131 : Int64)))), .second] [(.long (own_m1 (w + (-7046029254386353131 : Int64)))), (.long (own_m1 (w + (-7046029254386353131 : Int64))))]))
  refine own_up ?_ fun t k => XS.bipush X11.here hx rfl (hb hby own_d3_30) k
  show own_G p.tables e below s _ _ _ (T11.setTop (mkF m 32 #[.val (.ref a), .val (.long (own_m1 (w + (-7046029254386353131 : Int64)))), .second] [(.int (27 : Int32)), (.long (own_m1 (w + (-7046029254386353131 : Int64)))), (.long (own_m1 (w + (-7046029254386353131 : Int64))))]))
  refine own_up ?_ fun t k => XS.lushr X11.here hx rfl (hb hby own_d3_32) rfl k
  show own_G p.tables e below s _ _ _ (T11.setTop (mkF m 33 #[.val (.ref a), .val (.long (own_m1 (w + (-7046029254386353131 : Int64)))), .second] [(.long (((own_m1 (w + (-7046029254386353131 : Int64))).toUInt64 >>> ((27 : Int32) &&& 0x3f).toInt64.toUInt64).toInt64)), (.long (own_m1 (w + (-7046029254386353131 : Int64))))]))
  refine own_up ?_ fun t k => XS.lxor X11.here hx rfl (hb hby own_d3_33) rfl k
  show own_G p.tables e below s _ _ _ (T11.setTop (mkF m 34 #[.val (.ref a), .val (.long (own_m1 (w + (-7046029254386353131 : Int64)))), .second] [(.long ((own_m1 (w + (-7046029254386353131 : Int64))) ^^^ (((own_m1 (w + (-7046029254386353131 : Int64))).toUInt64 >>> ((27 : Int32) &&& 0x3f).toInt64.toUInt64).toInt64)))]))
  refine own_up ?_ fun t k => X11.ldc2Long hx hown (mvT hZ (hw _ (List.mem_of_getElem? (i := 19) rfl))) (g := (mkF m 34 #[.val (.ref a), .val (.long (own_m1 (w + (-7046029254386353131 : Int64)))), .second] [(.long ((own_m1 (w + (-7046029254386353131 : Int64))) ^^^ (((own_m1 (w + (-7046029254386353131 : Int64))).toUInt64 >>> ((27 : Int32) &&& 0x3f).toInt64.toUInt64).toInt64)))])) rfl (hb hby own_d3_34) _ k
  show own_G p.tables e below s _ _ _ (T11.setTop (mkF m 37 #[.val (.ref a), .val (.long (own_m1 (w + (-7046029254386353131 : Int64)))), .second] [(.long (-7723592293110705685 : Int64)), (.long ((own_m1 (w + (-7046029254386353131 : Int64))) ^^^ (((own_m1 (w + (-7046029254386353131 : Int64))).toUInt64 >>> ((27 : Int32) &&& 0x3f).toInt64.toUInt64).toInt64)))]))
  refine own_up ?_ fun t k => XS.lmul X11.here hx rfl (hb hby own_d3_37) rfl k
  show own_G p.tables e below s _ _ _ (T11.setTop (mkF m 38 #[.val (.ref a), .val (.long (own_m1 (w + (-7046029254386353131 : Int64)))), .second] [(.long (((own_m1 (w + (-7046029254386353131 : Int64))) ^^^ (((own_m1 (w + (-7046029254386353131 : Int64))).toUInt64 >>> ((27 : Int32) &&& 0x3f).toInt64.toUInt64).toInt64)) * (-7723592293110705685 : Int64)))]))
  refine own_up ?_ fun t k => XS.lstoreN X11.here hx rfl (hb hby own_d3_38) rfl (l' := #[.val (.ref a), .val (.long (((own_m1 (w + (-7046029254386353131 : Int64))) ^^^ (((own_m1 (w + (-7046029254386353131 : Int64))).toUInt64 >>> ((27 : Int32) &&& 0x3f).toInt64.toUInt64).toInt64)) * (-7723592293110705685 : Int64))), .second]) rfl k
  show own_G p.tables e below s _ _ _ (T11.setTop (mkF m 39 #[.val (.ref a), .val (.long (((own_m1 (w + (-7046029254386353131 : Int64))) ^^^ (((own_m1 (w + (-7046029254386353131 : Int64))).toUInt64 >>> ((27 : Int32) &&& 0x3f).toInt64.toUInt64).toInt64)) * (-7723592293110705685 : Int64))), .second] []))
  show own_G p.tables e below s _ _ _ (T11.setTop (mkF m 39 #[.val (.ref a), .val (.long (own_m2 (own_m1 (w + (-7046029254386353131 : Int64))))), .second] []))
  refine own_up ?_ fun t k => XS.lloadN X11.here hx rfl (hb hby own_d3_39) rfl k
  show own_G p.tables e below s _ _ _ (T11.setTop (mkF m 40 #[.val (.ref a), .val (.long (own_m2 (own_m1 (w + (-7046029254386353131 : Int64))))), .second] [(.long (own_m2 (own_m1 (w + (-7046029254386353131 : Int64)))))]))
  refine own_up ?_ fun t k => XS.lloadN X11.here hx rfl (hb hby own_d3_40) rfl k
  show own_G p.tables e below s _ _ _ (T11.setTop (mkF m 41 #[.val (.ref a), .val (.long (own_m2 (own_m1 (w + (-7046029254386353131 : Int64))))), .second] [(.long (own_m2 (own_m1 (w + (-7046029254386353131 : Int64))))), (.long (own_m2 (own_m1 (w + (-7046029254386353131 : Int64)))))]))
  refine own_up ?_ fun t k => XS.bipush X11.here hx rfl (hb hby own_d3_41) k
  show own_G p.tables e below s _ _ _ (T11.setTop (mkF m 43 #[.val (.ref a), .val (.long (own_m2 (own_m1 (w + (-7046029254386353131 : Int64))))), .second] [(.int (31 : Int32)), (.long (own_m2 (own_m1 (w + (-7046029254386353131 : Int64))))), (.long (own_m2 (own_m1 (w + (-7046029254386353131 : Int64)))))]))
  refine own_up ?_ fun t k => XS.lushr X11.here hx rfl (hb hby own_d3_43) rfl k
  show own_G p.tables e below s _ _ _ (T11.setTop (mkF m 44 #[.val (.ref a), .val (.long (own_m2 (own_m1 (w + (-7046029254386353131 : Int64))))), .second] [(.long (((own_m2 (own_m1 (w + (-7046029254386353131 : Int64)))).toUInt64 >>> ((31 : Int32) &&& 0x3f).toInt64.toUInt64).toInt64)), (.long (own_m2 (own_m1 (w + (-7046029254386353131 : Int64)))))]))
  refine own_up ?_ fun t k => XS.lxor X11.here hx rfl (hb hby own_d3_44) rfl k
  show own_G p.tables e below s _ _ _ (T11.setTop (mkF m 45 #[.val (.ref a), .val (.long (own_m2 (own_m1 (w + (-7046029254386353131 : Int64))))), .second] [(.long ((own_m2 (own_m1 (w + (-7046029254386353131 : Int64)))) ^^^ (((own_m2 (own_m1 (w + (-7046029254386353131 : Int64)))).toUInt64 >>> ((31 : Int32) &&& 0x3f).toInt64.toUInt64).toInt64)))]))
  exact own_retJ X11 hx hlk Bd.returns (hb hby own_d3_45) (by rw [e11]; exact ⟨rfl, N7, K10, F7⟩) (by decide) (by decide)
theorem own_d4_0 : decode method_2_code 0 = .ok (.lload_n 0, 1) := by decide +kernel
theorem own_d4_1 : decode method_2_code 1 = .ok (.lload_n 0, 1) := by decide +kernel
theorem own_d4_2 : decode method_2_code 2 = .ok (.bipush 31, 2) := by decide +kernel
theorem own_d4_4 : decode method_2_code 4 = .ok (.lushr, 1) := by decide +kernel
theorem own_d4_5 : decode method_2_code 5 = .ok (.lxor, 1) := by decide +kernel
theorem own_d4_6 : decode method_2_code 6 = .ok (.lload_n 0, 1) := by decide +kernel
theorem own_d4_7 : decode method_2_code 7 = .ok (.bipush 62, 2) := by decide +kernel
theorem own_d4_9 : decode method_2_code 9 = .ok (.lushr, 1) := by decide +kernel
theorem own_d4_10 : decode method_2_code 10 = .ok (.lxor, 1) := by decide +kernel
theorem own_d4_11 : decode method_2_code 11 = .ok (.ldc2_w 7, 3) := by decide +kernel
theorem own_d4_14 : decode method_2_code 14 = .ok (.lmul, 1) := by decide +kernel
theorem own_d4_15 : decode method_2_code 15 = .ok (.lstore_n 0, 1) := by decide +kernel
theorem own_d4_16 : decode method_2_code 16 = .ok (.lload_n 0, 1) := by decide +kernel
theorem own_d4_17 : decode method_2_code 17 = .ok (.lload_n 0, 1) := by decide +kernel
theorem own_d4_18 : decode method_2_code 18 = .ok (.bipush 27, 2) := by decide +kernel
theorem own_d4_20 : decode method_2_code 20 = .ok (.lushr, 1) := by decide +kernel
theorem own_d4_21 : decode method_2_code 21 = .ok (.lxor, 1) := by decide +kernel
theorem own_d4_22 : decode method_2_code 22 = .ok (.lload_n 0, 1) := by decide +kernel
theorem own_d4_23 : decode method_2_code 23 = .ok (.bipush 54, 2) := by decide +kernel
theorem own_d4_25 : decode method_2_code 25 = .ok (.lushr, 1) := by decide +kernel
theorem own_d4_26 : decode method_2_code 26 = .ok (.lxor, 1) := by decide +kernel
theorem own_d4_27 : decode method_2_code 27 = .ok (.ldc2_w 9, 3) := by decide +kernel
theorem own_d4_30 : decode method_2_code 30 = .ok (.lmul, 1) := by decide +kernel
theorem own_d4_31 : decode method_2_code 31 = .ok (.lstore_n 0, 1) := by decide +kernel
theorem own_d4_32 : decode method_2_code 32 = .ok (.lload_n 0, 1) := by decide +kernel
theorem own_d4_33 : decode method_2_code 33 = .ok (.lload_n 0, 1) := by decide +kernel
theorem own_d4_34 : decode method_2_code 34 = .ok (.bipush 30, 2) := by decide +kernel
theorem own_d4_36 : decode method_2_code 36 = .ok (.lushr, 1) := by decide +kernel
theorem own_d4_37 : decode method_2_code 37 = .ok (.lxor, 1) := by decide +kernel
theorem own_d4_38 : decode method_2_code 38 = .ok (.lload_n 0, 1) := by decide +kernel
theorem own_d4_39 : decode method_2_code 39 = .ok (.bipush 60, 2) := by decide +kernel
theorem own_d4_41 : decode method_2_code 41 = .ok (.lushr, 1) := by decide +kernel
theorem own_d4_42 : decode method_2_code 42 = .ok (.lxor, 1) := by decide +kernel
theorem own_d4_43 : decode method_2_code 43 = .ok (.lstore_n 0, 1) := by decide +kernel
theorem own_d4_44 : decode method_2_code 44 = .ok (.lload_n 0, 1) := by decide +kernel
theorem own_d4_45 : decode method_2_code 45 = .ok (.lreturn, 1) := by decide +kernel
theorem own_pn1 : plainName "com/example/swarmfront/swarmfront/swarm/RngNextLongPinLaw" = true := by first | (simp [plainName, overriddenIn]; done) | decide +kernel
theorem own_ef_rm4 (m : MethodId) (x0 : Int64) : entryFrame m #[(.long x0)] 2 = mkF m 0 #[.val (.long x0), .second] [] := by first | (simp [entryFrame, mkF, argsToLocals, Value.category]; done) | rfl
def own_Q_rm4 (Z : State) (z : Int64) (h0 : Heap) (n0 : Nat) (v : Option Value) (h : Heap) (L : List Loc) : Prop := v = some (.long (own_u3 (own_u2 (own_u1 z)))) ∧ Fr n0 L ∧ h = h0
set_option maxRecDepth 65536 in
set_option maxHeartbeats 40000000 in
theorem rm4 (l : Launch) (Z : State) (a0 : Array Value) (hw : ∀ d ∈ tables_1, d.before a0 Z = true) (ws : List Jvm.Cond) (z : Int64) (h0 : Heap) (n0 : Nat) (Z0 : n0 ≤ h0.size) :
    MetFree l (⟨"com/example/swarmfront/swarmfront/swarm/RngNextLongPinLaw", "unmix", "(J)J"⟩ : MethodName) (head1 (Jvm.Cond.code (⟨"com/example/swarmfront/swarmfront/swarm/RngNextLongPinLaw", "unmix", "(J)J"⟩ : MethodName) method_2_code 2 (some .long) :: ws) ({ frames := 0, cells := 0, slots := 0, locals := 0 } : Room)) (fun aa UU => aa = #[(.long z)] ∧ Z.Warmed39 UU.vm ∧ UU.heap = h0) (fun _ _ _ _ _ => True) (fun _ UU oo UU' => ∃ vv LL, oo = .returned vv ∧ own_Q_rm4 Z z h0 n0 vv UU'.heap LL ∧ FrameEnd UU oo UU' LL ({ frames := 0, cells := 0, slots := 0, locals := 0 } : Room).cells ({ frames := 0, cells := 0, slots := 0, locals := 0 } : Room).slots) := by
  refine MetFree.of_bodySF (plainFor_of_name own_pn1) hisR ?_
  intro p e s m args below meth c s₁ Bd hml0 hP hK
  obtain ⟨rfl, hZ, hh⟩ := hP
  have hx := Bd.exec
  have hby := Bd.bytes
  have hlk := Bd.notSynchronized
  have hml : c.maxLocals = 2 := hml0
  have hown : s.vm.findClass "com/example/swarmfront/swarmfront/swarm/RngNextLongPinLaw" = some m.cls := findClass_of_methodNamed Bd.named
  have hnm := (name_of_methodNamed Bd.named Bd.method).1
  have X0 : Stand p l e ({ frames := 0, cells := 0, slots := 0, locals := 0 } : Room) s m #[(.long z)] below meth c s₁ [] 0 0 := Stand.of_body Bd
  have e0 : s₁.heap = h0 := by rw [← hh, Bd.state]; rfl
  have N0 := Fr.nil n0
  show own_G p.tables e below s (own_Q_rm4 Z z h0 n0) ({ frames := 0, cells := 0, slots := 0, locals := 0 } : Room).cells ({ frames := 0, cells := 0, slots := 0, locals := 0 } : Room).slots (s₁.setTop (entryFrame m #[(.long z)] 2))
  refine own_up (U' := s₁.setTop (mkF m 0 #[.val (.long z), .second] [])) ?_ (fun t k => castTop (own_ef_rm4 m z) k)
  refine own_up ?_ fun t k => XS.lloadN X0.here hx rfl (hb hby own_d4_0) rfl k
  show own_G p.tables e below s _ _ _ (s₁.setTop (mkF m 1 #[.val (.long z), .second] [(.long z)]))
  refine own_up ?_ fun t k => XS.lloadN X0.here hx rfl (hb hby own_d4_1) rfl k
  show own_G p.tables e below s _ _ _ (s₁.setTop (mkF m 2 #[.val (.long z), .second] [(.long z), (.long z)]))
  refine own_up ?_ fun t k => XS.bipush X0.here hx rfl (hb hby own_d4_2) k
  show own_G p.tables e below s _ _ _ (s₁.setTop (mkF m 4 #[.val (.long z), .second] [(.int (31 : Int32)), (.long z), (.long z)]))
  refine own_up ?_ fun t k => XS.lushr X0.here hx rfl (hb hby own_d4_4) rfl k
  show own_G p.tables e below s _ _ _ (s₁.setTop (mkF m 5 #[.val (.long z), .second] [(.long ((z.toUInt64 >>> ((31 : Int32) &&& 0x3f).toInt64.toUInt64).toInt64)), (.long z)]))
  refine own_up ?_ fun t k => XS.lxor X0.here hx rfl (hb hby own_d4_5) rfl k
  show own_G p.tables e below s _ _ _ (s₁.setTop (mkF m 6 #[.val (.long z), .second] [(.long (z ^^^ ((z.toUInt64 >>> ((31 : Int32) &&& 0x3f).toInt64.toUInt64).toInt64)))]))
  refine own_up ?_ fun t k => XS.lloadN X0.here hx rfl (hb hby own_d4_6) rfl k
  show own_G p.tables e below s _ _ _ (s₁.setTop (mkF m 7 #[.val (.long z), .second] [(.long z), (.long (z ^^^ ((z.toUInt64 >>> ((31 : Int32) &&& 0x3f).toInt64.toUInt64).toInt64)))]))
  refine own_up ?_ fun t k => XS.bipush X0.here hx rfl (hb hby own_d4_7) k
  show own_G p.tables e below s _ _ _ (s₁.setTop (mkF m 9 #[.val (.long z), .second] [(.int (62 : Int32)), (.long z), (.long (z ^^^ ((z.toUInt64 >>> ((31 : Int32) &&& 0x3f).toInt64.toUInt64).toInt64)))]))
  refine own_up ?_ fun t k => XS.lushr X0.here hx rfl (hb hby own_d4_9) rfl k
  show own_G p.tables e below s _ _ _ (s₁.setTop (mkF m 10 #[.val (.long z), .second] [(.long ((z.toUInt64 >>> ((62 : Int32) &&& 0x3f).toInt64.toUInt64).toInt64)), (.long (z ^^^ ((z.toUInt64 >>> ((31 : Int32) &&& 0x3f).toInt64.toUInt64).toInt64)))]))
  refine own_up ?_ fun t k => XS.lxor X0.here hx rfl (hb hby own_d4_10) rfl k
  show own_G p.tables e below s _ _ _ (s₁.setTop (mkF m 11 #[.val (.long z), .second] [(.long ((z ^^^ ((z.toUInt64 >>> ((31 : Int32) &&& 0x3f).toInt64.toUInt64).toInt64)) ^^^ ((z.toUInt64 >>> ((62 : Int32) &&& 0x3f).toInt64.toUInt64).toInt64)))]))
  refine own_up ?_ fun t k => X0.ldc2Long hx hown (mvT hZ (hw _ (List.mem_of_getElem? (i := 24) rfl))) (g := (mkF m 11 #[.val (.long z), .second] [(.long ((z ^^^ ((z.toUInt64 >>> ((31 : Int32) &&& 0x3f).toInt64.toUInt64).toInt64)) ^^^ ((z.toUInt64 >>> ((62 : Int32) &&& 0x3f).toInt64.toUInt64).toInt64)))])) rfl (hb hby own_d4_11) _ k
  show own_G p.tables e below s _ _ _ (s₁.setTop (mkF m 14 #[.val (.long z), .second] [(.long (3573116690164977347 : Int64)), (.long ((z ^^^ ((z.toUInt64 >>> ((31 : Int32) &&& 0x3f).toInt64.toUInt64).toInt64)) ^^^ ((z.toUInt64 >>> ((62 : Int32) &&& 0x3f).toInt64.toUInt64).toInt64)))]))
  refine own_up ?_ fun t k => XS.lmul X0.here hx rfl (hb hby own_d4_14) rfl k
  show own_G p.tables e below s _ _ _ (s₁.setTop (mkF m 15 #[.val (.long z), .second] [(.long (((z ^^^ ((z.toUInt64 >>> ((31 : Int32) &&& 0x3f).toInt64.toUInt64).toInt64)) ^^^ ((z.toUInt64 >>> ((62 : Int32) &&& 0x3f).toInt64.toUInt64).toInt64)) * (3573116690164977347 : Int64)))]))
  refine own_up ?_ fun t k => XS.lstoreN X0.here hx rfl (hb hby own_d4_15) rfl (l' := #[.val (.long (((z ^^^ ((z.toUInt64 >>> ((31 : Int32) &&& 0x3f).toInt64.toUInt64).toInt64)) ^^^ ((z.toUInt64 >>> ((62 : Int32) &&& 0x3f).toInt64.toUInt64).toInt64)) * (3573116690164977347 : Int64))), .second]) rfl k
  show own_G p.tables e below s _ _ _ (s₁.setTop (mkF m 16 #[.val (.long (((z ^^^ ((z.toUInt64 >>> ((31 : Int32) &&& 0x3f).toInt64.toUInt64).toInt64)) ^^^ ((z.toUInt64 >>> ((62 : Int32) &&& 0x3f).toInt64.toUInt64).toInt64)) * (3573116690164977347 : Int64))), .second] []))
  show own_G p.tables e below s _ _ _ (s₁.setTop (mkF m 16 #[.val (.long (own_u1 z)), .second] []))
  refine own_up ?_ fun t k => XS.lloadN X0.here hx rfl (hb hby own_d4_16) rfl k
  show own_G p.tables e below s _ _ _ (s₁.setTop (mkF m 17 #[.val (.long (own_u1 z)), .second] [(.long (own_u1 z))]))
  refine own_up ?_ fun t k => XS.lloadN X0.here hx rfl (hb hby own_d4_17) rfl k
  show own_G p.tables e below s _ _ _ (s₁.setTop (mkF m 18 #[.val (.long (own_u1 z)), .second] [(.long (own_u1 z)), (.long (own_u1 z))]))
  refine own_up ?_ fun t k => XS.bipush X0.here hx rfl (hb hby own_d4_18) k
  show own_G p.tables e below s _ _ _ (s₁.setTop (mkF m 20 #[.val (.long (own_u1 z)), .second] [(.int (27 : Int32)), (.long (own_u1 z)), (.long (own_u1 z))]))
  refine own_up ?_ fun t k => XS.lushr X0.here hx rfl (hb hby own_d4_20) rfl k
  show own_G p.tables e below s _ _ _ (s₁.setTop (mkF m 21 #[.val (.long (own_u1 z)), .second] [(.long (((own_u1 z).toUInt64 >>> ((27 : Int32) &&& 0x3f).toInt64.toUInt64).toInt64)), (.long (own_u1 z))]))
  refine own_up ?_ fun t k => XS.lxor X0.here hx rfl (hb hby own_d4_21) rfl k
  show own_G p.tables e below s _ _ _ (s₁.setTop (mkF m 22 #[.val (.long (own_u1 z)), .second] [(.long ((own_u1 z) ^^^ (((own_u1 z).toUInt64 >>> ((27 : Int32) &&& 0x3f).toInt64.toUInt64).toInt64)))]))
  refine own_up ?_ fun t k => XS.lloadN X0.here hx rfl (hb hby own_d4_22) rfl k
  show own_G p.tables e below s _ _ _ (s₁.setTop (mkF m 23 #[.val (.long (own_u1 z)), .second] [(.long (own_u1 z)), (.long ((own_u1 z) ^^^ (((own_u1 z).toUInt64 >>> ((27 : Int32) &&& 0x3f).toInt64.toUInt64).toInt64)))]))
  refine own_up ?_ fun t k => XS.bipush X0.here hx rfl (hb hby own_d4_23) k
  show own_G p.tables e below s _ _ _ (s₁.setTop (mkF m 25 #[.val (.long (own_u1 z)), .second] [(.int (54 : Int32)), (.long (own_u1 z)), (.long ((own_u1 z) ^^^ (((own_u1 z).toUInt64 >>> ((27 : Int32) &&& 0x3f).toInt64.toUInt64).toInt64)))]))
  refine own_up ?_ fun t k => XS.lushr X0.here hx rfl (hb hby own_d4_25) rfl k
  show own_G p.tables e below s _ _ _ (s₁.setTop (mkF m 26 #[.val (.long (own_u1 z)), .second] [(.long (((own_u1 z).toUInt64 >>> ((54 : Int32) &&& 0x3f).toInt64.toUInt64).toInt64)), (.long ((own_u1 z) ^^^ (((own_u1 z).toUInt64 >>> ((27 : Int32) &&& 0x3f).toInt64.toUInt64).toInt64)))]))
  refine own_up ?_ fun t k => XS.lxor X0.here hx rfl (hb hby own_d4_26) rfl k
  show own_G p.tables e below s _ _ _ (s₁.setTop (mkF m 27 #[.val (.long (own_u1 z)), .second] [(.long (((own_u1 z) ^^^ (((own_u1 z).toUInt64 >>> ((27 : Int32) &&& 0x3f).toInt64.toUInt64).toInt64)) ^^^ (((own_u1 z).toUInt64 >>> ((54 : Int32) &&& 0x3f).toInt64.toUInt64).toInt64)))]))
  refine own_up ?_ fun t k => X0.ldc2Long hx hown (mvT hZ (hw _ (List.mem_of_getElem? (i := 25) rfl))) (g := (mkF m 27 #[.val (.long (own_u1 z)), .second] [(.long (((own_u1 z) ^^^ (((own_u1 z).toUInt64 >>> ((27 : Int32) &&& 0x3f).toInt64.toUInt64).toInt64)) ^^^ (((own_u1 z).toUInt64 >>> ((54 : Int32) &&& 0x3f).toInt64.toUInt64).toInt64)))])) rfl (hb hby own_d4_27) _ k
  show own_G p.tables e below s _ _ _ (s₁.setTop (mkF m 30 #[.val (.long (own_u1 z)), .second] [(.long (-7575587736534282103 : Int64)), (.long (((own_u1 z) ^^^ (((own_u1 z).toUInt64 >>> ((27 : Int32) &&& 0x3f).toInt64.toUInt64).toInt64)) ^^^ (((own_u1 z).toUInt64 >>> ((54 : Int32) &&& 0x3f).toInt64.toUInt64).toInt64)))]))
  refine own_up ?_ fun t k => XS.lmul X0.here hx rfl (hb hby own_d4_30) rfl k
  show own_G p.tables e below s _ _ _ (s₁.setTop (mkF m 31 #[.val (.long (own_u1 z)), .second] [(.long ((((own_u1 z) ^^^ (((own_u1 z).toUInt64 >>> ((27 : Int32) &&& 0x3f).toInt64.toUInt64).toInt64)) ^^^ (((own_u1 z).toUInt64 >>> ((54 : Int32) &&& 0x3f).toInt64.toUInt64).toInt64)) * (-7575587736534282103 : Int64)))]))
  refine own_up ?_ fun t k => XS.lstoreN X0.here hx rfl (hb hby own_d4_31) rfl (l' := #[.val (.long ((((own_u1 z) ^^^ (((own_u1 z).toUInt64 >>> ((27 : Int32) &&& 0x3f).toInt64.toUInt64).toInt64)) ^^^ (((own_u1 z).toUInt64 >>> ((54 : Int32) &&& 0x3f).toInt64.toUInt64).toInt64)) * (-7575587736534282103 : Int64))), .second]) rfl k
  show own_G p.tables e below s _ _ _ (s₁.setTop (mkF m 32 #[.val (.long ((((own_u1 z) ^^^ (((own_u1 z).toUInt64 >>> ((27 : Int32) &&& 0x3f).toInt64.toUInt64).toInt64)) ^^^ (((own_u1 z).toUInt64 >>> ((54 : Int32) &&& 0x3f).toInt64.toUInt64).toInt64)) * (-7575587736534282103 : Int64))), .second] []))
  show own_G p.tables e below s _ _ _ (s₁.setTop (mkF m 32 #[.val (.long (own_u2 (own_u1 z))), .second] []))
  refine own_up ?_ fun t k => XS.lloadN X0.here hx rfl (hb hby own_d4_32) rfl k
  show own_G p.tables e below s _ _ _ (s₁.setTop (mkF m 33 #[.val (.long (own_u2 (own_u1 z))), .second] [(.long (own_u2 (own_u1 z)))]))
  refine own_up ?_ fun t k => XS.lloadN X0.here hx rfl (hb hby own_d4_33) rfl k
  show own_G p.tables e below s _ _ _ (s₁.setTop (mkF m 34 #[.val (.long (own_u2 (own_u1 z))), .second] [(.long (own_u2 (own_u1 z))), (.long (own_u2 (own_u1 z)))]))
  refine own_up ?_ fun t k => XS.bipush X0.here hx rfl (hb hby own_d4_34) k
  show own_G p.tables e below s _ _ _ (s₁.setTop (mkF m 36 #[.val (.long (own_u2 (own_u1 z))), .second] [(.int (30 : Int32)), (.long (own_u2 (own_u1 z))), (.long (own_u2 (own_u1 z)))]))
  refine own_up ?_ fun t k => XS.lushr X0.here hx rfl (hb hby own_d4_36) rfl k
  show own_G p.tables e below s _ _ _ (s₁.setTop (mkF m 37 #[.val (.long (own_u2 (own_u1 z))), .second] [(.long (((own_u2 (own_u1 z)).toUInt64 >>> ((30 : Int32) &&& 0x3f).toInt64.toUInt64).toInt64)), (.long (own_u2 (own_u1 z)))]))
  refine own_up ?_ fun t k => XS.lxor X0.here hx rfl (hb hby own_d4_37) rfl k
  show own_G p.tables e below s _ _ _ (s₁.setTop (mkF m 38 #[.val (.long (own_u2 (own_u1 z))), .second] [(.long ((own_u2 (own_u1 z)) ^^^ (((own_u2 (own_u1 z)).toUInt64 >>> ((30 : Int32) &&& 0x3f).toInt64.toUInt64).toInt64)))]))
  refine own_up ?_ fun t k => XS.lloadN X0.here hx rfl (hb hby own_d4_38) rfl k
  show own_G p.tables e below s _ _ _ (s₁.setTop (mkF m 39 #[.val (.long (own_u2 (own_u1 z))), .second] [(.long (own_u2 (own_u1 z))), (.long ((own_u2 (own_u1 z)) ^^^ (((own_u2 (own_u1 z)).toUInt64 >>> ((30 : Int32) &&& 0x3f).toInt64.toUInt64).toInt64)))]))
  refine own_up ?_ fun t k => XS.bipush X0.here hx rfl (hb hby own_d4_39) k
  show own_G p.tables e below s _ _ _ (s₁.setTop (mkF m 41 #[.val (.long (own_u2 (own_u1 z))), .second] [(.int (60 : Int32)), (.long (own_u2 (own_u1 z))), (.long ((own_u2 (own_u1 z)) ^^^ (((own_u2 (own_u1 z)).toUInt64 >>> ((30 : Int32) &&& 0x3f).toInt64.toUInt64).toInt64)))]))
  refine own_up ?_ fun t k => XS.lushr X0.here hx rfl (hb hby own_d4_41) rfl k
  show own_G p.tables e below s _ _ _ (s₁.setTop (mkF m 42 #[.val (.long (own_u2 (own_u1 z))), .second] [(.long (((own_u2 (own_u1 z)).toUInt64 >>> ((60 : Int32) &&& 0x3f).toInt64.toUInt64).toInt64)), (.long ((own_u2 (own_u1 z)) ^^^ (((own_u2 (own_u1 z)).toUInt64 >>> ((30 : Int32) &&& 0x3f).toInt64.toUInt64).toInt64)))]))
  refine own_up ?_ fun t k => XS.lxor X0.here hx rfl (hb hby own_d4_42) rfl k
  show own_G p.tables e below s _ _ _ (s₁.setTop (mkF m 43 #[.val (.long (own_u2 (own_u1 z))), .second] [(.long (((own_u2 (own_u1 z)) ^^^ (((own_u2 (own_u1 z)).toUInt64 >>> ((30 : Int32) &&& 0x3f).toInt64.toUInt64).toInt64)) ^^^ (((own_u2 (own_u1 z)).toUInt64 >>> ((60 : Int32) &&& 0x3f).toInt64.toUInt64).toInt64)))]))
  refine own_up ?_ fun t k => XS.lstoreN X0.here hx rfl (hb hby own_d4_43) rfl (l' := #[.val (.long (((own_u2 (own_u1 z)) ^^^ (((own_u2 (own_u1 z)).toUInt64 >>> ((30 : Int32) &&& 0x3f).toInt64.toUInt64).toInt64)) ^^^ (((own_u2 (own_u1 z)).toUInt64 >>> ((60 : Int32) &&& 0x3f).toInt64.toUInt64).toInt64))), .second]) rfl k
  show own_G p.tables e below s _ _ _ (s₁.setTop (mkF m 44 #[.val (.long (((own_u2 (own_u1 z)) ^^^ (((own_u2 (own_u1 z)).toUInt64 >>> ((30 : Int32) &&& 0x3f).toInt64.toUInt64).toInt64)) ^^^ (((own_u2 (own_u1 z)).toUInt64 >>> ((60 : Int32) &&& 0x3f).toInt64.toUInt64).toInt64))), .second] []))
  show own_G p.tables e below s _ _ _ (s₁.setTop (mkF m 44 #[.val (.long (own_u3 (own_u2 (own_u1 z)))), .second] []))
  refine own_up ?_ fun t k => XS.lloadN X0.here hx rfl (hb hby own_d4_44) rfl k
  show own_G p.tables e below s _ _ _ (s₁.setTop (mkF m 45 #[.val (.long (own_u3 (own_u2 (own_u1 z)))), .second] [(.long (own_u3 (own_u2 (own_u1 z))))]))
  exact own_retJ X0 hx hlk Bd.returns (hb hby own_d4_45) ⟨rfl, N0, e0⟩ (by decide) (by decide)
theorem own_ef_rm0 (m : MethodId) (x0 : Int64) : entryFrame m #[(.long x0)] maxLocals = mkF m 0 #[.val (.long x0), .second, .unset, .unset, .unset, .unset, .unset, .unset, .unset] [] := by first | (simp [entryFrame, mkF, argsToLocals, Value.category, maxLocals]; done) | rfl
def own_Q_rm0 (Z : State) (q : Int64) (h0 : Heap) (n0 : Nat) (v : Option Value) (h : Heap) (L : List Loc) : Prop := v = some (.int (1 : Int32)) ∧ Fr n0 L
set_option maxRecDepth 65536 in
set_option maxHeartbeats 40000000 in
theorem rm0 (l : Launch) (Z : State) (a0 : Array Value) (hw : ∀ d ∈ tables_1, d.before a0 Z = true) (ws : List Jvm.Cond) (q : Int64) (h0 : Heap) (n0 : Nat) (Z0 : n0 ≤ h0.size) :
    MetFree l x (head1 (Jvm.Cond.code x code maxLocals ret :: ws) room_1) (fun aa UU => aa = #[(.long q)] ∧ Z.Warmed39 UU.vm ∧ UU.heap = h0) (fun _ _ _ _ _ => True) (fun _ UU oo UU' => ∃ vv LL, oo = .returned vv ∧ own_Q_rm0 Z q h0 n0 vv UU'.heap LL ∧ FrameEnd UU oo UU' LL room_1.cells room_1.slots) := by
  refine MetFree.of_bodySF (plainFor_of_name own_pn1) hisR ?_
  intro p e s m args below meth c s₁ Bd hml0 hP hK
  obtain ⟨rfl, hZ, hh⟩ := hP
  have hx := Bd.exec
  have hby := Bd.bytes
  have hlk := Bd.notSynchronized
  have hml : c.maxLocals = 9 := hml0
  have hown : s.vm.findClass "com/example/swarmfront/swarmfront/swarm/RngNextLongPinLaw" = some m.cls := findClass_of_methodNamed Bd.named
  have hnm := (name_of_methodNamed Bd.named Bd.method).1
  have X0 : Stand p l e room_1 s m #[(.long q)] below meth c s₁ [] 0 0 := Stand.of_body Bd
  have e0 : s₁.heap = h0 := by rw [← hh, Bd.state]; rfl
  have N0 := Fr.nil n0
  show own_G p.tables e below s (own_Q_rm0 Z q h0 n0) room_1.cells room_1.slots (s₁.setTop (entryFrame m #[(.long q)] maxLocals))
  refine own_up (U' := s₁.setTop (mkF m 0 #[.val (.long q), .second, .unset, .unset, .unset, .unset, .unset, .unset, .unset] [])) ?_ (fun t k => castTop (own_ef_rm0 m q) k)
  refine own_up ?_ fun t k => X0.ldc2Long hx hown (mvT hZ (hw _ (List.mem_of_getElem? (i := 0) rfl))) (g := (mkF m 0 #[.val (.long q), .second, .unset, .unset, .unset, .unset, .unset, .unset, .unset] [])) rfl (hb hby at_0) _ k
  show own_G p.tables e below s _ _ _ (s₁.setTop (mkF m 3 #[.val (.long q), .second, .unset, .unset, .unset, .unset, .unset, .unset, .unset] [(.long (-7046029254386353131 : Int64))]))
  refine own_up ?_ fun t k => XS.lstoreN X0.here hx rfl (hb hby at_3) rfl (l' := #[.val (.long q), .second, .val (.long (-7046029254386353131 : Int64)), .second, .unset, .unset, .unset, .unset, .unset]) rfl k
  show own_G p.tables e below s _ _ _ (s₁.setTop (mkF m 4 #[.val (.long q), .second, .val (.long (-7046029254386353131 : Int64)), .second, .unset, .unset, .unset, .unset, .unset] []))
  obtain ⟨T12, h12, X12, e12, E12, A12, D12, -, st12⟩ := newO X0 hx hZ hown (hw _ (List.mem_of_getElem? (i := 1) rfl)) (hw _ (List.mem_of_getElem? (i := 2) rfl)) (hw _ (List.mem_of_getElem? (i := 3) rfl)) e0 (g := (mkF m 4 #[.val (.long q), .second, .val (.long (-7046029254386353131 : Int64)), .second, .unset, .unset, .unset, .unset, .unset] [])) rfl (hb hby at_4) (by decide) (by decide)
  obtain ⟨b12, g12⟩ : ∃ z, z = h0.size := ⟨_, rfl⟩
  rw [← g12] at A12 D12 st12
  refine own_up ?_ st12
  have ge13 : n0 ≤ b12 := Nat.le_trans Z0 (Nat.le_of_eq g12.symm)
  have Zs15 : n0 ≤ h12.size := Nat.le_trans Z0 E12.1
  have F_state_b12 : Fld Z h12 b12 "com/example/swarmfront/swarmfront/swarm/Rng" "state" "J" (.long (0 : Int64)) := D12 (Or.inl (hw _ (List.mem_of_getElem? (i := 11) rfl))) (ty := .long) (by decide)
  show own_G p.tables e below s _ _ _ (T12.setTop (mkF m 7 #[.val (.long q), .second, .val (.long (-7046029254386353131 : Int64)), .second, .unset, .unset, .unset, .unset, .unset] [(.ref b12)]))
  refine own_up ?_ fun t k => XS.dup X12.here hx rfl (hb hby at_7) rfl rfl k
  show own_G p.tables e below s _ _ _ (T12.setTop (mkF m 8 #[.val (.long q), .second, .val (.long (-7046029254386353131 : Int64)), .second, .unset, .unset, .unset, .unset, .unset] [(.ref b12), (.ref b12)]))
  refine own_up ?_ fun t k => XS.lloadN X12.here hx rfl (hb hby at_8) rfl k
  show own_G p.tables e below s _ _ _ (T12.setTop (mkF m 9 #[.val (.long q), .second, .val (.long (-7046029254386353131 : Int64)), .second, .unset, .unset, .unset, .unset, .unset] [(.long q), (.ref b12), (.ref b12)]))
  obtain ⟨_, _, ⟨T16, L16, k16, n16⟩, -, X16, ⟨Lc16, hQ16, l16, y16, z16⟩, st16⟩ := X12.specialBack hx (y := (⟨"com/example/swarmfront/swarmfront/swarm/Rng", "<init>", "(J)V"⟩ : MethodName)) rfl hown (mvT hZ (hw _ (List.mem_of_getElem? (i := 4) rfl))) (mvT hZ (hw _ (List.mem_of_getElem? (i := 5) rfl))) (mvT hZ (hw _ (List.mem_of_getElem? (i := 6) rfl))) (by decide) (backOf (W := 1) (rm1 l Z a0 hw [] b12 q (.long (0 : Int64)) h12 n0 Zs15 A12 F_state_b12 ge13) hZ (hw _ (List.mem_of_getElem? (i := 6) rfl)) (hw _ (List.mem_of_getElem? (i := 3) rfl)) (by decide) (by decide)) (g := (mkF m 9 #[.val (.long q), .second, .val (.long (-7046029254386353131 : Int64)), .second, .unset, .unset, .unset, .unset, .unset] [(.long q), (.ref b12), (.ref b12)])) rfl (by rw [hml]; rfl) (Steps.refl _) (a := b12) (argsL := [(.long q)]) (rest := [(.ref b12)]) (lenOf own_pd0 rfl) rfl (by show 2 * 0 + _ ≤ _; exact Nat.le_of_eq rfl) (hb hby at_9) (fun _ _ => ⟨rfl, e12, (by decide : 1 + 0 ≤ _), (by decide : 1 + 0 ≤ _)⟩)
  dsimp only [Pt.U, Pt.locs, Pt.cells, Pt.slots] at X16 l16 y16 z16 st16 hQ16
  subst l16 y16 z16
  obtain ⟨rfl, Nq16, Kq16, Fq16_0⟩ := hQ16
  have N16 := Fr.app N0 Nq16
  have A12_17 := A12.keep Kq16
  have Zs18 : n0 ≤ T16.heap.size := Nat.le_trans Zs15 Kq16.1
  refine own_up ?_ (fun t k => st16.trans k)
  show own_G p.tables e below s _ _ _ (T16.setTop (mkF m 12 #[.val (.long q), .second, .val (.long (-7046029254386353131 : Int64)), .second, .unset, .unset, .unset, .unset, .unset] [(.ref b12)]))
  refine own_up ?_ fun t k => XS.astore X16.here hx rfl (hb hby at_12) rfl rfl (l' := #[.val (.long q), .second, .val (.long (-7046029254386353131 : Int64)), .second, .val (.ref b12), .unset, .unset, .unset, .unset]) rfl k
  show own_G p.tables e below s _ _ _ (T16.setTop (mkF m 14 #[.val (.long q), .second, .val (.long (-7046029254386353131 : Int64)), .second, .val (.ref b12), .unset, .unset, .unset, .unset] []))
  refine own_up ?_ fun t k => XS.aload X16.here hx rfl (hb hby at_14) rfl rfl k
  show own_G p.tables e below s _ _ _ (T16.setTop (mkF m 16 #[.val (.long q), .second, .val (.long (-7046029254386353131 : Int64)), .second, .val (.ref b12), .unset, .unset, .unset, .unset] [(.ref b12)]))
  obtain ⟨cq19, kq19, q19a, q19b, q19c⟩ := isOf hZ rfl A12_17
  obtain ⟨_, _, ⟨T19, L19, k19, n19⟩, -, X19, ⟨Lc19, hQ19, l19, y19, z19⟩, st19⟩ := X16.virtualBack hx (y := (⟨"com/example/swarmfront/swarmfront/swarm/Rng", "nextLong", "()J"⟩ : MethodName)) (z := (⟨"com/example/swarmfront/swarmfront/swarm/Rng", "nextLong", "()J"⟩ : MethodName)) hown (mvT hZ (hw _ (List.mem_of_getElem? (i := 12) rfl))) (mvT hZ (hw _ (List.mem_of_getElem? (i := 13) rfl))) (notFace_of_selects (args := #[]) (mvT hZ (hw _ (List.mem_of_getElem? (i := 15) rfl)))) (mvT hZ (hw _ (List.mem_of_getElem? (i := 15) rfl))) (mvT hZ (hw _ (List.mem_of_getElem? (i := 14) rfl))) (by decide) (backOf (W := 0) (rm3 l Z a0 hw [] b12 q T16.heap n0 Zs18 A12_17 Fq16_0 ge13) hZ (hw _ (List.mem_of_getElem? (i := 16) rfl)) (hw _ (List.mem_of_getElem? (i := 3) rfl)) (by decide) (by decide)) q19a q19c (g := (mkF m 16 #[.val (.long q), .second, .val (.long (-7046029254386353131 : Int64)), .second, .val (.ref b12), .unset, .unset, .unset, .unset] [(.ref b12)])) rfl (by rw [hml]; rfl) (Steps.refl _) (argsL := []) (rest := []) (lenOf own_pd1 rfl) rfl (by show 2 * 0 + _ ≤ _; exact Nat.le_of_eq rfl) (hb hby at_16) (fun _ _ => ⟨rfl, rfl, (by decide : 1 + 0 ≤ _), (by decide : 1 + 0 ≤ _)⟩)
  dsimp only [Pt.U, Pt.locs, Pt.cells, Pt.slots] at X19 l19 y19 z19 st19 hQ19
  subst l19 y19 z19
  obtain ⟨rfl, Nq19, Kq19, Fq19_0⟩ := hQ19
  have N19 := Fr.app N16 Nq19
  have A12_20 := A12_17.keep Kq19
  have Zs21 : n0 ≤ T19.heap.size := Nat.le_trans Zs18 Kq19.1
  refine own_up ?_ (fun t k => st19.trans k)
  show own_G p.tables e below s _ _ _ (T19.setTop (mkF m 19 #[.val (.long q), .second, .val (.long (-7046029254386353131 : Int64)), .second, .val (.ref b12), .unset, .unset, .unset, .unset] [(.long (own_m3 (own_m2 (own_m1 (q + (-7046029254386353131 : Int64))))))]))
  refine own_up ?_ fun t k => XS.lstore X19.here hx rfl (hb hby at_19) rfl (l' := #[.val (.long q), .second, .val (.long (-7046029254386353131 : Int64)), .second, .val (.ref b12), .val (.long (own_m3 (own_m2 (own_m1 (q + (-7046029254386353131 : Int64)))))), .second, .unset, .unset]) rfl k
  show own_G p.tables e below s _ _ _ (T19.setTop (mkF m 21 #[.val (.long q), .second, .val (.long (-7046029254386353131 : Int64)), .second, .val (.ref b12), .val (.long (own_m3 (own_m2 (own_m1 (q + (-7046029254386353131 : Int64)))))), .second, .unset, .unset] []))
  refine own_up ?_ fun t k => XS.aload X19.here hx rfl (hb hby at_21) rfl rfl k
  show own_G p.tables e below s _ _ _ (T19.setTop (mkF m 23 #[.val (.long q), .second, .val (.long (-7046029254386353131 : Int64)), .second, .val (.ref b12), .val (.long (own_m3 (own_m2 (own_m1 (q + (-7046029254386353131 : Int64)))))), .second, .unset, .unset] [(.ref b12)]))
  obtain ⟨cq22, kq22, q22a, q22b, q22c⟩ := isOf hZ rfl A12_20
  obtain ⟨_, _, ⟨T22, L22, k22, n22⟩, -, X22, ⟨Lc22, hQ22, l22, y22, z22⟩, st22⟩ := X19.virtualBack hx (y := (⟨"com/example/swarmfront/swarmfront/swarm/Rng", "nextLong", "()J"⟩ : MethodName)) (z := (⟨"com/example/swarmfront/swarmfront/swarm/Rng", "nextLong", "()J"⟩ : MethodName)) hown (mvT hZ (hw _ (List.mem_of_getElem? (i := 12) rfl))) (mvT hZ (hw _ (List.mem_of_getElem? (i := 13) rfl))) (notFace_of_selects (args := #[]) (mvT hZ (hw _ (List.mem_of_getElem? (i := 15) rfl)))) (mvT hZ (hw _ (List.mem_of_getElem? (i := 15) rfl))) (mvT hZ (hw _ (List.mem_of_getElem? (i := 14) rfl))) (by decide) (backOf (W := 0) (rm3 l Z a0 hw [] b12 (q + (-7046029254386353131 : Int64)) T19.heap n0 Zs21 A12_20 Fq19_0 ge13) hZ (hw _ (List.mem_of_getElem? (i := 16) rfl)) (hw _ (List.mem_of_getElem? (i := 3) rfl)) (by decide) (by decide)) q22a q22c (g := (mkF m 23 #[.val (.long q), .second, .val (.long (-7046029254386353131 : Int64)), .second, .val (.ref b12), .val (.long (own_m3 (own_m2 (own_m1 (q + (-7046029254386353131 : Int64)))))), .second, .unset, .unset] [(.ref b12)])) rfl (by rw [hml]; rfl) (Steps.refl _) (argsL := []) (rest := []) (lenOf own_pd1 rfl) rfl (by show 2 * 0 + _ ≤ _; exact Nat.le_of_eq rfl) (hb hby at_23) (fun _ _ => ⟨rfl, rfl, (by decide : 1 + 0 ≤ _), (by decide : 1 + 0 ≤ _)⟩)
  dsimp only [Pt.U, Pt.locs, Pt.cells, Pt.slots] at X22 l22 y22 z22 st22 hQ22
  subst l22 y22 z22
  obtain ⟨rfl, Nq22, Kq22, Fq22_0⟩ := hQ22
  have N22 := Fr.app N19 Nq22
  have A12_23 := A12_20.keep Kq22
  have Zs24 : n0 ≤ T22.heap.size := Nat.le_trans Zs21 Kq22.1
  refine own_up ?_ (fun t k => st22.trans k)
  show own_G p.tables e below s _ _ _ (T22.setTop (mkF m 26 #[.val (.long q), .second, .val (.long (-7046029254386353131 : Int64)), .second, .val (.ref b12), .val (.long (own_m3 (own_m2 (own_m1 (q + (-7046029254386353131 : Int64)))))), .second, .unset, .unset] [(.long (own_m3 (own_m2 (own_m1 ((q + (-7046029254386353131 : Int64)) + (-7046029254386353131 : Int64))))))]))
  refine own_up ?_ fun t k => XS.lstore X22.here hx rfl (hb hby at_26) rfl (l' := #[.val (.long q), .second, .val (.long (-7046029254386353131 : Int64)), .second, .val (.ref b12), .val (.long (own_m3 (own_m2 (own_m1 (q + (-7046029254386353131 : Int64)))))), .second, .val (.long (own_m3 (own_m2 (own_m1 ((q + (-7046029254386353131 : Int64)) + (-7046029254386353131 : Int64)))))), .second]) rfl k
  show own_G p.tables e below s _ _ _ (T22.setTop (mkF m 28 #[.val (.long q), .second, .val (.long (-7046029254386353131 : Int64)), .second, .val (.ref b12), .val (.long (own_m3 (own_m2 (own_m1 (q + (-7046029254386353131 : Int64)))))), .second, .val (.long (own_m3 (own_m2 (own_m1 ((q + (-7046029254386353131 : Int64)) + (-7046029254386353131 : Int64)))))), .second] []))
  refine own_up ?_ fun t k => XS.lload X22.here hx rfl (hb hby at_28) rfl k
  show own_G p.tables e below s _ _ _ (T22.setTop (mkF m 30 #[.val (.long q), .second, .val (.long (-7046029254386353131 : Int64)), .second, .val (.ref b12), .val (.long (own_m3 (own_m2 (own_m1 (q + (-7046029254386353131 : Int64)))))), .second, .val (.long (own_m3 (own_m2 (own_m1 ((q + (-7046029254386353131 : Int64)) + (-7046029254386353131 : Int64)))))), .second] [(.long (own_m3 (own_m2 (own_m1 (q + (-7046029254386353131 : Int64))))))]))
  obtain ⟨_, _, ⟨T25, L25, k25, n25⟩, -, X25, ⟨Lc25, hQ25, l25, y25, z25⟩, st25⟩ := Jvm.LawKit.callS X22 hx (y := (⟨"com/example/swarmfront/swarmfront/swarm/RngNextLongPinLaw", "unmix", "(J)J"⟩ : MethodName)) hown (mvT hZ (hw _ (List.mem_of_getElem? (i := 20) rfl))) (mvT hZ (hw _ (List.mem_of_getElem? (i := 21) rfl))) (mvT hZ (hw _ (List.mem_of_getElem? (i := 22) rfl))) (mvT hZ (hw _ (List.mem_of_getElem? (i := 23) rfl))) (by decide) (backOf (W := 0) (rm4 l Z a0 hw [] (own_m3 (own_m2 (own_m1 (q + (-7046029254386353131 : Int64)))))  T22.heap n0 Zs24 ) hZ (hw _ (List.mem_of_getElem? (i := 23) rfl)) (hw _ (List.mem_of_getElem? (i := 22) rfl)) (by decide) (by decide)) (g := (mkF m 30 #[.val (.long q), .second, .val (.long (-7046029254386353131 : Int64)), .second, .val (.ref b12), .val (.long (own_m3 (own_m2 (own_m1 (q + (-7046029254386353131 : Int64)))))), .second, .val (.long (own_m3 (own_m2 (own_m1 ((q + (-7046029254386353131 : Int64)) + (-7046029254386353131 : Int64)))))), .second] [(.long (own_m3 (own_m2 (own_m1 (q + (-7046029254386353131 : Int64))))))])) rfl (by rw [hml]; rfl) (argsL := [(.long (own_m3 (own_m2 (own_m1 (q + (-7046029254386353131 : Int64))))))]) (rest := []) (lenOf own_pd2 rfl) rfl (by show 2 * 0 + _ ≤ _; exact Nat.le_of_eq rfl) (hb hby at_30) (fun _ _ => ⟨rfl, rfl, (by decide : 1 + 0 ≤ _), (by decide : 1 + 0 ≤ _)⟩)
  dsimp only [Pt.U, Pt.locs, Pt.cells, Pt.slots] at X25 l25 y25 z25 st25 hQ25
  subst l25 y25 z25
  obtain ⟨rfl, Nq25, e25⟩ := hQ25
  have N25 := Fr.app N22 Nq25
  refine own_up ?_ (st25)
  show own_G p.tables e below s _ _ _ (T25.setTop (mkF m 33 #[.val (.long q), .second, .val (.long (-7046029254386353131 : Int64)), .second, .val (.ref b12), .val (.long (own_m3 (own_m2 (own_m1 (q + (-7046029254386353131 : Int64)))))), .second, .val (.long (own_m3 (own_m2 (own_m1 ((q + (-7046029254386353131 : Int64)) + (-7046029254386353131 : Int64)))))), .second] [(.long (own_u3 (own_u2 (own_u1 (own_m3 (own_m2 (own_m1 (q + (-7046029254386353131 : Int64)))))))))]))
  refine own_up ?_ fun t k => XS.lloadN X25.here hx rfl (hb hby at_33) rfl k
  show own_G p.tables e below s _ _ _ (T25.setTop (mkF m 34 #[.val (.long q), .second, .val (.long (-7046029254386353131 : Int64)), .second, .val (.ref b12), .val (.long (own_m3 (own_m2 (own_m1 (q + (-7046029254386353131 : Int64)))))), .second, .val (.long (own_m3 (own_m2 (own_m1 ((q + (-7046029254386353131 : Int64)) + (-7046029254386353131 : Int64)))))), .second] [(.long q), (.long (own_u3 (own_u2 (own_u1 (own_m3 (own_m2 (own_m1 (q + (-7046029254386353131 : Int64)))))))))]))
  refine own_up ?_ fun t k => XS.lloadN X25.here hx rfl (hb hby at_34) rfl k
  show own_G p.tables e below s _ _ _ (T25.setTop (mkF m 35 #[.val (.long q), .second, .val (.long (-7046029254386353131 : Int64)), .second, .val (.ref b12), .val (.long (own_m3 (own_m2 (own_m1 (q + (-7046029254386353131 : Int64)))))), .second, .val (.long (own_m3 (own_m2 (own_m1 ((q + (-7046029254386353131 : Int64)) + (-7046029254386353131 : Int64)))))), .second] [(.long (-7046029254386353131 : Int64)), (.long q), (.long (own_u3 (own_u2 (own_u1 (own_m3 (own_m2 (own_m1 (q + (-7046029254386353131 : Int64)))))))))]))
  refine own_up ?_ fun t k => XS.ladd X25.here hx rfl (hb hby at_35) rfl k
  show own_G p.tables e below s _ _ _ (T25.setTop (mkF m 36 #[.val (.long q), .second, .val (.long (-7046029254386353131 : Int64)), .second, .val (.ref b12), .val (.long (own_m3 (own_m2 (own_m1 (q + (-7046029254386353131 : Int64)))))), .second, .val (.long (own_m3 (own_m2 (own_m1 ((q + (-7046029254386353131 : Int64)) + (-7046029254386353131 : Int64)))))), .second] [(.long (q + (-7046029254386353131 : Int64))), (.long (own_u3 (own_u2 (own_u1 (own_m3 (own_m2 (own_m1 (q + (-7046029254386353131 : Int64)))))))))]))
  refine own_up ?_ fun t k => XS.lcmp X25.here hx rfl (hb hby at_36) rfl k
  show own_G p.tables e below s _ _ _ (T25.setTop (mkF m 37 #[.val (.long q), .second, .val (.long (-7046029254386353131 : Int64)), .second, .val (.ref b12), .val (.long (own_m3 (own_m2 (own_m1 (q + (-7046029254386353131 : Int64)))))), .second, .val (.long (own_m3 (own_m2 (own_m1 ((q + (-7046029254386353131 : Int64)) + (-7046029254386353131 : Int64)))))), .second] [(.int (lcmpW (own_u3 (own_u2 (own_u1 (own_m3 (own_m2 (own_m1 (q + (-7046029254386353131 : Int64)))))))) (q + (-7046029254386353131 : Int64))))]))
  refine own_up ?_ fun t k => XS.ifNo X25.here hx rfl (hb hby at_37) rfl ((if0 _ _).trans (teq ((lw_eq _ _).mpr (own_inv _ : ((own_u3 (own_u2 (own_u1 (own_m3 (own_m2 (own_m1 (q + (-7046029254386353131 : Int64)))))))) = (q + (-7046029254386353131 : Int64)))))).2) k
  show own_G p.tables e below s _ _ _ (T25.setTop (mkF m 40 #[.val (.long q), .second, .val (.long (-7046029254386353131 : Int64)), .second, .val (.ref b12), .val (.long (own_m3 (own_m2 (own_m1 (q + (-7046029254386353131 : Int64)))))), .second, .val (.long (own_m3 (own_m2 (own_m1 ((q + (-7046029254386353131 : Int64)) + (-7046029254386353131 : Int64)))))), .second] []))
  refine own_up ?_ fun t k => XS.lload X25.here hx rfl (hb hby at_40) rfl k
  show own_G p.tables e below s _ _ _ (T25.setTop (mkF m 42 #[.val (.long q), .second, .val (.long (-7046029254386353131 : Int64)), .second, .val (.ref b12), .val (.long (own_m3 (own_m2 (own_m1 (q + (-7046029254386353131 : Int64)))))), .second, .val (.long (own_m3 (own_m2 (own_m1 ((q + (-7046029254386353131 : Int64)) + (-7046029254386353131 : Int64)))))), .second] [(.long (own_m3 (own_m2 (own_m1 ((q + (-7046029254386353131 : Int64)) + (-7046029254386353131 : Int64))))))]))
  obtain ⟨_, _, ⟨T26, L26, k26, n26⟩, -, X26, ⟨Lc26, hQ26, l26, y26, z26⟩, st26⟩ := Jvm.LawKit.callS X25 hx (y := (⟨"com/example/swarmfront/swarmfront/swarm/RngNextLongPinLaw", "unmix", "(J)J"⟩ : MethodName)) hown (mvT hZ (hw _ (List.mem_of_getElem? (i := 20) rfl))) (mvT hZ (hw _ (List.mem_of_getElem? (i := 21) rfl))) (mvT hZ (hw _ (List.mem_of_getElem? (i := 22) rfl))) (mvT hZ (hw _ (List.mem_of_getElem? (i := 23) rfl))) (by decide) (backOf (W := 0) (rm4 l Z a0 hw [] (own_m3 (own_m2 (own_m1 ((q + (-7046029254386353131 : Int64)) + (-7046029254386353131 : Int64)))))  T22.heap n0 Zs24 ) hZ (hw _ (List.mem_of_getElem? (i := 23) rfl)) (hw _ (List.mem_of_getElem? (i := 22) rfl)) (by decide) (by decide)) (g := (mkF m 42 #[.val (.long q), .second, .val (.long (-7046029254386353131 : Int64)), .second, .val (.ref b12), .val (.long (own_m3 (own_m2 (own_m1 (q + (-7046029254386353131 : Int64)))))), .second, .val (.long (own_m3 (own_m2 (own_m1 ((q + (-7046029254386353131 : Int64)) + (-7046029254386353131 : Int64)))))), .second] [(.long (own_m3 (own_m2 (own_m1 ((q + (-7046029254386353131 : Int64)) + (-7046029254386353131 : Int64))))))])) rfl (by rw [hml]; rfl) (argsL := [(.long (own_m3 (own_m2 (own_m1 ((q + (-7046029254386353131 : Int64)) + (-7046029254386353131 : Int64))))))]) (rest := []) (lenOf own_pd2 rfl) rfl (by show 2 * 0 + _ ≤ _; exact Nat.le_of_eq rfl) (hb hby at_42) (fun _ _ => ⟨rfl, e25, (by decide : 1 + 0 ≤ _), (by decide : 1 + 0 ≤ _)⟩)
  dsimp only [Pt.U, Pt.locs, Pt.cells, Pt.slots] at X26 l26 y26 z26 st26 hQ26
  subst l26 y26 z26
  obtain ⟨rfl, Nq26, e26⟩ := hQ26
  have N26 := Fr.app N25 Nq26
  refine own_up ?_ (st26)
  show own_G p.tables e below s _ _ _ (T26.setTop (mkF m 45 #[.val (.long q), .second, .val (.long (-7046029254386353131 : Int64)), .second, .val (.ref b12), .val (.long (own_m3 (own_m2 (own_m1 (q + (-7046029254386353131 : Int64)))))), .second, .val (.long (own_m3 (own_m2 (own_m1 ((q + (-7046029254386353131 : Int64)) + (-7046029254386353131 : Int64)))))), .second] [(.long (own_u3 (own_u2 (own_u1 (own_m3 (own_m2 (own_m1 ((q + (-7046029254386353131 : Int64)) + (-7046029254386353131 : Int64)))))))))]))
  refine own_up ?_ fun t k => XS.lloadN X26.here hx rfl (hb hby at_45) rfl k
  show own_G p.tables e below s _ _ _ (T26.setTop (mkF m 46 #[.val (.long q), .second, .val (.long (-7046029254386353131 : Int64)), .second, .val (.ref b12), .val (.long (own_m3 (own_m2 (own_m1 (q + (-7046029254386353131 : Int64)))))), .second, .val (.long (own_m3 (own_m2 (own_m1 ((q + (-7046029254386353131 : Int64)) + (-7046029254386353131 : Int64)))))), .second] [(.long q), (.long (own_u3 (own_u2 (own_u1 (own_m3 (own_m2 (own_m1 ((q + (-7046029254386353131 : Int64)) + (-7046029254386353131 : Int64)))))))))]))
  refine own_up ?_ fun t k => XS.lloadN X26.here hx rfl (hb hby at_46) rfl k
  show own_G p.tables e below s _ _ _ (T26.setTop (mkF m 47 #[.val (.long q), .second, .val (.long (-7046029254386353131 : Int64)), .second, .val (.ref b12), .val (.long (own_m3 (own_m2 (own_m1 (q + (-7046029254386353131 : Int64)))))), .second, .val (.long (own_m3 (own_m2 (own_m1 ((q + (-7046029254386353131 : Int64)) + (-7046029254386353131 : Int64)))))), .second] [(.long (-7046029254386353131 : Int64)), (.long q), (.long (own_u3 (own_u2 (own_u1 (own_m3 (own_m2 (own_m1 ((q + (-7046029254386353131 : Int64)) + (-7046029254386353131 : Int64)))))))))]))
  refine own_up ?_ fun t k => XS.ladd X26.here hx rfl (hb hby at_47) rfl k
  show own_G p.tables e below s _ _ _ (T26.setTop (mkF m 48 #[.val (.long q), .second, .val (.long (-7046029254386353131 : Int64)), .second, .val (.ref b12), .val (.long (own_m3 (own_m2 (own_m1 (q + (-7046029254386353131 : Int64)))))), .second, .val (.long (own_m3 (own_m2 (own_m1 ((q + (-7046029254386353131 : Int64)) + (-7046029254386353131 : Int64)))))), .second] [(.long (q + (-7046029254386353131 : Int64))), (.long (own_u3 (own_u2 (own_u1 (own_m3 (own_m2 (own_m1 ((q + (-7046029254386353131 : Int64)) + (-7046029254386353131 : Int64)))))))))]))
  refine own_up ?_ fun t k => XS.lloadN X26.here hx rfl (hb hby at_48) rfl k
  show own_G p.tables e below s _ _ _ (T26.setTop (mkF m 49 #[.val (.long q), .second, .val (.long (-7046029254386353131 : Int64)), .second, .val (.ref b12), .val (.long (own_m3 (own_m2 (own_m1 (q + (-7046029254386353131 : Int64)))))), .second, .val (.long (own_m3 (own_m2 (own_m1 ((q + (-7046029254386353131 : Int64)) + (-7046029254386353131 : Int64)))))), .second] [(.long (-7046029254386353131 : Int64)), (.long (q + (-7046029254386353131 : Int64))), (.long (own_u3 (own_u2 (own_u1 (own_m3 (own_m2 (own_m1 ((q + (-7046029254386353131 : Int64)) + (-7046029254386353131 : Int64)))))))))]))
  refine own_up ?_ fun t k => XS.ladd X26.here hx rfl (hb hby at_49) rfl k
  show own_G p.tables e below s _ _ _ (T26.setTop (mkF m 50 #[.val (.long q), .second, .val (.long (-7046029254386353131 : Int64)), .second, .val (.ref b12), .val (.long (own_m3 (own_m2 (own_m1 (q + (-7046029254386353131 : Int64)))))), .second, .val (.long (own_m3 (own_m2 (own_m1 ((q + (-7046029254386353131 : Int64)) + (-7046029254386353131 : Int64)))))), .second] [(.long ((q + (-7046029254386353131 : Int64)) + (-7046029254386353131 : Int64))), (.long (own_u3 (own_u2 (own_u1 (own_m3 (own_m2 (own_m1 ((q + (-7046029254386353131 : Int64)) + (-7046029254386353131 : Int64)))))))))]))
  refine own_up ?_ fun t k => XS.lcmp X26.here hx rfl (hb hby at_50) rfl k
  show own_G p.tables e below s _ _ _ (T26.setTop (mkF m 51 #[.val (.long q), .second, .val (.long (-7046029254386353131 : Int64)), .second, .val (.ref b12), .val (.long (own_m3 (own_m2 (own_m1 (q + (-7046029254386353131 : Int64)))))), .second, .val (.long (own_m3 (own_m2 (own_m1 ((q + (-7046029254386353131 : Int64)) + (-7046029254386353131 : Int64)))))), .second] [(.int (lcmpW (own_u3 (own_u2 (own_u1 (own_m3 (own_m2 (own_m1 ((q + (-7046029254386353131 : Int64)) + (-7046029254386353131 : Int64)))))))) ((q + (-7046029254386353131 : Int64)) + (-7046029254386353131 : Int64))))]))
  refine own_up ?_ fun t k => XS.ifNo X26.here hx rfl (hb hby at_51) rfl ((if0 _ _).trans (teq ((lw_eq _ _).mpr (own_inv _ : ((own_u3 (own_u2 (own_u1 (own_m3 (own_m2 (own_m1 ((q + (-7046029254386353131 : Int64)) + (-7046029254386353131 : Int64)))))))) = ((q + (-7046029254386353131 : Int64)) + (-7046029254386353131 : Int64)))))).2) k
  show own_G p.tables e below s _ _ _ (T26.setTop (mkF m 54 #[.val (.long q), .second, .val (.long (-7046029254386353131 : Int64)), .second, .val (.ref b12), .val (.long (own_m3 (own_m2 (own_m1 (q + (-7046029254386353131 : Int64)))))), .second, .val (.long (own_m3 (own_m2 (own_m1 ((q + (-7046029254386353131 : Int64)) + (-7046029254386353131 : Int64)))))), .second] []))
  refine own_up ?_ fun t k => XS.iconst X26.here hx rfl (hb hby at_54) k
  show own_G p.tables e below s _ _ _ (T26.setTop (mkF m 55 #[.val (.long q), .second, .val (.long (-7046029254386353131 : Int64)), .second, .val (.ref b12), .val (.long (own_m3 (own_m2 (own_m1 (q + (-7046029254386353131 : Int64)))))), .second, .val (.long (own_m3 (own_m2 (own_m1 ((q + (-7046029254386353131 : Int64)) + (-7046029254386353131 : Int64)))))), .second] [(.int (1 : Int32))]))
  refine own_up ?_ fun t k => XS.goto X26.here hx rfl (pc0 := 55) (pc' := 59) rfl (hb hby at_55) (by decide) (by decide) k
  show own_G p.tables e below s _ _ _ (T26.setTop (mkF m 59 #[.val (.long q), .second, .val (.long (-7046029254386353131 : Int64)), .second, .val (.ref b12), .val (.long (own_m3 (own_m2 (own_m1 (q + (-7046029254386353131 : Int64)))))), .second, .val (.long (own_m3 (own_m2 (own_m1 ((q + (-7046029254386353131 : Int64)) + (-7046029254386353131 : Int64)))))), .second] [(.int (1 : Int32))]))
  exact own_retI X26 hx hlk Bd.returns (by simp) rfl (hb hby at_59) ⟨rfl, N26⟩ (by decide) (by decide)
set_option maxRecDepth 65536 in
set_option maxHeartbeats 40000000 in
theorem comes_1 {Post : Tables → Env → Array Value → State → Outcome → State → Prop} (hpost : ∀ tb e args s v u, (limb_1_1.after args s (.returned v) u = true ∧ limb_1_2.after args s (.returned v) u = true ∧ True) → FrameEnd s (.returned v) u (Jvm.fieldLocs frame_1_writes args s ++ Jvm.arrayLocs frame_1_arrays args s ++ Jvm.staticLocs frame_1_statics s) 16 128 → Post tb e args s (.returned v) u) :
    ArmFor flags0 classFile x code maxLocals ret World_1 tables_1 room_1 Calls_1 rest_1 Pre_1 Post := by
  intro l hfl _ _ p e ha hc hk s m args below hf hA hF happ hP
  obtain ⟨hcalls, hrest, hpre⟩ := hP
  obtain ⟨-, -, -, hnamed, -, -, -, hat⟩ := (Spec.applies_iff hf).mp happ
  obtain ⟨hg, hn⟩ := and_e (Cond.before_iff.mp (show (Jvm.Cond.and given_1 narrow_1).before args s = true from hpre))
  obtain ⟨gc, g0⟩ := and_e hg
  obtain ⟨w0, rfl⟩ : ∃ w0 : Value, args = #[w0] := by
    have hs : args.size = 1 := by simpa [Cond.value, given_1] using gc
    obtain ⟨L⟩ := args
    match L, hs with
    | [w0], _ => exact ⟨w0, rfl⟩
  have hw := fun d (hd : d ∈ tables_1) => atoms_spec (ws := Jvm.Cond.code x code maxLocals ret :: tables_1) hat d (List.mem_cons_of_mem _ hd)
  have hfit : Fit s := fun {y c} hc i hi => by
    obtain ⟨ha, rfl⟩ := Array.getElem?_eq_some_iff.mp hc
    have q := List.all_eq_true.mp ((Array.all_eq_true_iff_forall_mem.mp hF) _ (Array.getElem_mem ha)) i (List.mem_range.mpr hi)
    simpa [Array.getElem?_eq_getElem hi] using q
  obtain ⟨i0, ei0⟩ := isL_v g0
  obtain rfl : w0 = (.long i0) := Option.some.inj ei0
  obtain ⟨n, o, h1, h2, h3, _, L, rfl, ⟨rfl, N⟩, hq⟩ := rm0 l s _ hw tables_1 i0  s.heap s.heap.size (Nat.le_refl _)  p e ha hc hk s m _ below hf ((Spec.applies_iff_loose hf).mp happ).1 ⟨rfl, State.Warmed39.refl s, rfl⟩ trivial
  refine ⟨n, _, h1, h2, h3, hpost _ _ _ _ _ _ ⟨Cond.after_iff.mpr rfl, Cond.after_iff.mpr (eq_i res_at (Term.int_eval (1)) rfl), trivial⟩ ⟨hq.1, hq.2.1, (hq.2.2.sift fun y hy => Or.inr (N y hy)).mono (by decide) (by decide)⟩⟩
theorem main_1_1 : Claimed_1_1 := comes_1 fun _ _ _ _ _ _ h hF => ⟨h.1, hF⟩
theorem main_1_2 : Claimed_1_2 := comes_1 fun _ _ _ _ _ _ h hF => ⟨h.2.1, hF⟩
end Jvm.Pilot.@@N@@
namespace Jvm.Pilot.@@N@@
open Jvm Jvm.ClassFile Sem Op Lib Jvm.Free Jvm.Stand Jvm.Pilot.@@N@@.Jvm.D
/-! MADE BY PROGRAM (witnessworld.py) out of the Statement's table words and the real class files: 9 classes; the members and pool entries that the words name. The judged class is class 1, her method 2. -/
namespace start1
open Jvm.ClassFile
def u (s : String) : CpInfo := .utf8 (stringToUtf16 s)
/-- a pool by its gaps: so many unusable entries, then the entry; so many at the end -/
def gap : Nat → List CpInfo → List CpInfo
  | 0, r => r
  | n + 1, r => .unusable :: gap n r
def poolList (es : List (Nat × CpInfo)) (last : Nat) : List CpInfo := es.foldr (fun e r => gap e.1 (e.2 :: r)) (gap last [])
def pool (es : List (Nat × CpInfo)) (last : Nat) : Array CpInfo := ⟨poolList es last⟩
def fileOf (pool : Array CpInfo) (this : Nat) (attrs : Array Attribute := #[]) (ms : Array MethodInfo := #[]) (fl : Nat := 33) (sup : Nat := 0) (ifs : Array Nat := #[]) (fds : Array FieldInfo := #[]) : ClassFile where
  minorVersion := 0
  majorVersion := 65
  constantPool := pool
  accessFlags := fl
  thisClass := this
  superClass := sup
  interfaces := ifs
  fields := fds
  methods := ms
  attributes := attrs
def plain (name : String) (sup : Option ClassId) : Class where
  name := name
  kind := .ordinary
  loader := none
  accessFlags := 33
  super := sup
  interfaces := #[]
  cf := none
  fields := #[]
  methods := #[]
  instanceTypes := #[]
  staticTypes := #[]
  resolved := #[]
  callSites := []
  init := .initialized
  statics := none
  mirror := none

def pool0 : Array CpInfo := pool [(5, u "<init>"), (0, u "()V"), (1, .class_ 10), (1, u "java/lang/Object")] 113

def k0c0 : Code := { maxStack := 0, maxLocals := 1, code := object_method_1_code, exceptionTable := #[], attributes := #[] }
def k0m0 : Method := { name := "<init>", desc := "()V", sig := { parameters := [], returnType := none }, accessFlags := 1, code := some k0c0 }
/-- java/lang/Object -/
def k0 : Class := { plain "java/lang/Object" none with
  accessFlags := 33
  interfaces := #[]
  cf := some (fileOf pool0 8 #[] #[{ accessFlags := 1, nameIndex := 5, descriptorIndex := 6, attributes := #[] }] 33 0 #[] #[])
  fields := #[]
  methods := #[k0m0]
  instanceTypes := #[]
  staticTypes := #[]
  resolved := Array.replicate 124 none
  statics := none }

def pool1 : Array CpInfo := pool [(2, .class_ 4), (1, u "java/lang/Object"), (0, u "<init>"), (0, u "()V"), (0, .long 3573116690164977347), (1, .long 10871156337175269513), (1, .long 11400714819323198485), (1, .class_ 14), (0, u "com/example/swarmfront/swarmfront/swarm/Rng"), (0, .methodref 13 16), (0, .nameAndType 5 17), (0, u "(J)V"), (0, .methodref 13 19), (0, .nameAndType 20 21), (0, u "nextLong"), (0, u "()J"), (0, .methodref 23 24), (0, .class_ 25), (0, .nameAndType 26 27), (0, u "com/example/swarmfront/swarmfront/swarm/RngNextLongPinLaw"), (0, u "unmix"), (0, u "(J)J"), (2, u "law"), (0, u "(J)Z")] 3

def k1m0 : Method := { name := "<init>", desc := "()V", sig := { parameters := [], returnType := none }, accessFlags := 1, code := none }
def k1c1 : Code := { maxStack := 5, maxLocals := 2, code := method_2_code, exceptionTable := #[], attributes := #[] }
def k1m1 : Method := { name := "unmix", desc := "(J)J", sig := { parameters := [.long], returnType := some .long }, accessFlags := 10, code := some k1c1 }
def k1c2 : Code := { maxStack := 6, maxLocals := 9, code := code, exceptionTable := #[], attributes := #[] }
def k1m2 : Method := { name := "law", desc := "(J)Z", sig := { parameters := [.long], returnType := some .boolean }, accessFlags := 9, code := some k1c2 }
/-- com/example/swarmfront/swarmfront/swarm/RngNextLongPinLaw -/
def k1 : Class := { plain "com/example/swarmfront/swarmfront/swarm/RngNextLongPinLaw" (some 0) with
  accessFlags := 49
  interfaces := #[]
  cf := some (fileOf pool1 23 #[] #[{ accessFlags := 1, nameIndex := 5, descriptorIndex := 6, attributes := #[] }, { accessFlags := 10, nameIndex := 26, descriptorIndex := 27, attributes := #[] }, { accessFlags := 9, nameIndex := 30, descriptorIndex := 31, attributes := #[] }] 49 2 #[] #[])
  fields := #[]
  methods := #[k1m0, k1m1, k1m2]
  instanceTypes := #[]
  staticTypes := #[]
  resolved := Array.replicate 35 none
  statics := none }

def pool2 : Array CpInfo := pool [(1, .methodref 2 3), (0, .class_ 4), (0, .nameAndType 5 6), (0, u "java/lang/Object"), (0, u "<init>"), (0, u "()V"), (0, .fieldref 8 9), (0, .class_ 10), (0, .nameAndType 11 12), (0, u "com/example/swarmfront/swarmfront/swarm/Rng"), (0, u "state"), (0, u "J"), (0, .long 11400714819323198485), (1, .long 13787848793156543929), (1, .long 10723151780598845931), (3, u "nextLong"), (0, u "()J"), (6, u "GOLDEN_GAMMA"), (1, u "(J)V")] 10

def k2c0 : Code := { maxStack := 3, maxLocals := 3, code := prog_25_method_1_code, exceptionTable := #[], attributes := #[] }
def k2m0 : Method := { name := "<init>", desc := "(J)V", sig := { parameters := [.long], returnType := none }, accessFlags := 0, code := some k2c0 }
def k2c1 : Code := { maxStack := 5, maxLocals := 3, code := prog_25_method_2_code, exceptionTable := #[], attributes := #[] }
def k2m1 : Method := { name := "nextLong", desc := "()J", sig := { parameters := [], returnType := some .long }, accessFlags := 0, code := some k2c1 }
/-- com/example/swarmfront/swarmfront/swarm/Rng -/
def k2 : Class := { plain "com/example/swarmfront/swarmfront/swarm/Rng" (some 0) with
  accessFlags := 48
  interfaces := #[]
  cf := some (fileOf pool2 8 #[] #[{ accessFlags := 0, nameIndex := 5, descriptorIndex := 31, attributes := #[] }, { accessFlags := 0, nameIndex := 21, descriptorIndex := 22, attributes := #[] }] 48 2 #[] #[{ accessFlags := 26, nameIndex := 29, descriptorIndex := 12, attributes := #[] }, { accessFlags := 2, nameIndex := 11, descriptorIndex := 12, attributes := #[] }])
  fields := #[{ name := "GOLDEN_GAMMA", type := .long, accessFlags := 26, slot := 0, constantValue := 0 }, { name := "state", type := .long, accessFlags := 2, slot := 0, constantValue := 0 }]
  methods := #[k2m0, k2m1]
  instanceTypes := #[.long]
  staticTypes := #[.long]
  resolved := Array.replicate 42 none
  statics := none }

def pool3 : Array CpInfo := pool [(1, u "java/lang/Cloneable"), (0, .class_ 1), (0, u "java/lang/Object"), (0, .class_ 3)] 3

/-- java/lang/Cloneable -/
def k3 : Class := { plain "java/lang/Cloneable" (some 0) with
  accessFlags := 1537
  interfaces := #[]
  cf := some (fileOf pool3 2 #[] #[] 1537 4 #[] #[])
  fields := #[]
  methods := #[]
  instanceTypes := #[]
  staticTypes := #[]
  resolved := Array.replicate 8 none
  statics := none }

def pool4 : Array CpInfo := pool [(1, u "java/io/Serializable"), (0, .class_ 1), (0, u "java/lang/Object"), (0, .class_ 3)] 3

/-- java/io/Serializable -/
def k4 : Class := { plain "java/io/Serializable" (some 0) with
  accessFlags := 1537
  interfaces := #[]
  cf := some (fileOf pool4 2 #[] #[] 1537 4 #[] #[])
  fields := #[]
  methods := #[]
  instanceTypes := #[]
  staticTypes := #[]
  resolved := Array.replicate 8 none
  statics := none }

/-- the primitive byte -/
def k5 : Class := { plain "byte" none with kind := .primitive 'B', accessFlags := 0x411 }
/-- [B -/
def k6 : Class := { plain "[B" (some 0) with kind := .array 5 .byte, interfaces := #[3, 4], accessFlags := 1041 }

/-- the primitive int -/
def k7 : Class := { plain "int" none with kind := .primitive 'I', accessFlags := 0x411 }
/-- [I -/
def k8 : Class := { plain "[I" (some 0) with kind := .array 7 .int, interfaces := #[3, 4], accessFlags := 1041 }

def heap : Heap := #[]
def classes : Array Class := #[k0, k1, k2, k3, k4, k5, k6, k7, k8]
def interned : List (Array UInt16 × Addr) := []
def slotsUsed : Nat := 0
def theMethod : MethodId := ⟨1, 2⟩
def args0 : Array Value := #[.long 5]
def aboutOver (below : List Frame) : State where
  vm := { classes := classes, interned := interned.toArray }
  heap := heap
  slotsUsed := slotsUsed
  threads := #[{ frames := .invoking theMethod args0 :: below }]
def below0 : List Frame := [.native { method := ⟨0, 0⟩, args := #[] }]
def about1 : State := aboutOver below0
def p0 : Program := .bare "" "" ""
def e0 : Env := launch0.env 0 0 0
theorem w_frames : about1.frames = Frame.invoking theMethod args0 :: below0 := rfl
set_option maxRecDepth 65536 in
theorem w_args : argsFit about1.vm theMethod args0 = true := by decide +kernel
set_option maxRecDepth 65536 in
theorem w_heap : heapFits about1 = true := by decide +kernel
set_option maxRecDepth 65536 in
theorem w_runnable : about1.curStatus? = some .runnable := by decide +kernel
set_option maxRecDepth 65536 in
theorem w_alone : about1.alone = true := by decide +kernel
set_option maxRecDepth 65536 in
theorem w_named : about1.methodNamed? x = some theMethod := by decide +kernel
set_option maxRecDepth 65536 in
theorem w_hears : about1.hears theMethod below0 = true := by decide +kernel
set_option maxRecDepth 65536 in
theorem w_ripe : about1.ripe theMethod args0 below0 = true := by decide +kernel
theorem w_running : about1.status = .running := rfl
set_option maxRecDepth 65536 in
theorem w_room : about1.hasRoom e0.platform room_1 = true :=
  launch0.hasRoom_least _ room_1 (by decide +kernel) (by decide +kernel) (by decide +kernel) (by decide +kernel) (by decide +kernel) (by decide +kernel)
theorem allAtoms_all (ts : List Jvm.Cond) (a : Array Jvm.Value) (st : Jvm.State) : (allAtoms ts).before a st = ts.all (fun c => c.before a st) := by
  induction ts with
  | nil => rfl
  | cons c t ih =>
    show (Jvm.Cond.and c (allAtoms t)).before a st = _
    rw [Jvm.Cond.before_and, ih, List.all_cons]
def words1 : List Jvm.Cond := Jvm.Cond.code x code maxLocals ret :: tables_1
/-- a 'code' word, met by the world's own term for the bytes: nothing is compared byte by byte -/
theorem code_word {y : MethodName} {bytes : ByteArray} {mx : Nat} {rt : Option FieldType} {a : Array Value} {s : State} {m : MethodId} {meth : Method} {c : Code} (h1 : s.methodNamed? y = some m) (h2 : s.vm.method? m = some meth) (h3 : meth.code = some c) (h4 : c.code = bytes)
    (h5 : (c.maxLocals == mx && c.exceptionTable.isEmpty && decide (c.maxStack ≤ mostOperands) && decide (meth.sig.returnType = rt) && !meth.locks && decide (parseMethodDescriptor y.desc = some meth.sig)) = true) : (Jvm.Cond.code y bytes mx rt).before a s = true := by
  simp only [Bool.and_eq_true, beq_iff_eq, Bool.not_eq_true', decide_eq_true_eq] at h5
  obtain ⟨⟨⟨⟨⟨g1, g2⟩, g3⟩, g4⟩, g5⟩, g6⟩ := h5
  simp [Cond.before, Cond.holds, Cond.value, h1, h2, h3, h4, g1, g2, g3, g4, g5, g6]
def isCode : Jvm.Cond → Bool
  | .code _ _ _ _ => true
  | _ => false
theorem all_split {L : List Jvm.Cond} {P : Jvm.Cond → Bool} (h1 : L.all (fun c => isCode c || P c) = true) (h2 : ∀ c ∈ L.filter isCode, P c = true) : L.all P = true := by
  refine List.all_eq_true.mpr fun c hc => ?_
  have h := List.all_eq_true.mp h1 c hc
  rcases Bool.eq_false_or_eq_true (isCode c) with hi | hi
  · exact h2 c (List.mem_filter.mpr ⟨hc, hi⟩)
  · simpa [hi] using h
set_option maxRecDepth 65536 in
theorem w_c0 : (Jvm.Cond.code x code maxLocals ret).before args0 about1 = true := code_word (m := ⟨1, 2⟩) (meth := k1m2) (c := k1c2) (by decide +kernel) rfl rfl rfl (by decide +kernel)
set_option maxRecDepth 65536 in
theorem w_c1 : (Jvm.Cond.code ({ cls := "com/example/swarmfront/swarmfront/swarm/Rng", name := "<init>", desc := "(J)V" } : Jvm.MethodName) prog_25_method_1_code (3 : Nat) (Option.none : Option Jvm.ClassFile.FieldType)).before args0 about1 = true := code_word (m := ⟨2, 0⟩) (meth := k2m0) (c := k2c0) (by decide +kernel) rfl rfl rfl (by decide +kernel)
set_option maxRecDepth 65536 in
theorem w_c2 : (Jvm.Cond.code ({ cls := "java/lang/Object", name := "<init>", desc := "()V" } : Jvm.MethodName) object_method_1_code (1 : Nat) (Option.none : Option Jvm.ClassFile.FieldType)).before args0 about1 = true := code_word (m := ⟨0, 0⟩) (meth := k0m0) (c := k0c0) (by decide +kernel) rfl rfl rfl (by decide +kernel)
set_option maxRecDepth 65536 in
theorem w_c3 : (Jvm.Cond.code ({ cls := "com/example/swarmfront/swarmfront/swarm/Rng", name := "nextLong", desc := "()J" } : Jvm.MethodName) prog_25_method_2_code (3 : Nat) (Option.some Jvm.ClassFile.FieldType.long)).before args0 about1 = true := code_word (m := ⟨2, 1⟩) (meth := k2m1) (c := k2c1) (by decide +kernel) rfl rfl rfl (by decide +kernel)
set_option maxRecDepth 65536 in
theorem w_c4 : (Jvm.Cond.code ({ cls := "com/example/swarmfront/swarmfront/swarm/RngNextLongPinLaw", name := "unmix", desc := "(J)J" } : Jvm.MethodName) method_2_code (2 : Nat) (Option.some Jvm.ClassFile.FieldType.long)).before args0 about1 = true := code_word (m := ⟨1, 1⟩) (meth := k1m1) (c := k1c1) (by decide +kernel) rfl rfl rfl (by decide +kernel)
def codes1 : List Jvm.Cond := [Jvm.Cond.code x code maxLocals ret, Jvm.Cond.code ({ cls := "com/example/swarmfront/swarmfront/swarm/Rng", name := "<init>", desc := "(J)V" } : Jvm.MethodName) prog_25_method_1_code (3 : Nat) (Option.none : Option Jvm.ClassFile.FieldType), Jvm.Cond.code ({ cls := "java/lang/Object", name := "<init>", desc := "()V" } : Jvm.MethodName) object_method_1_code (1 : Nat) (Option.none : Option Jvm.ClassFile.FieldType), Jvm.Cond.code ({ cls := "com/example/swarmfront/swarmfront/swarm/Rng", name := "nextLong", desc := "()J" } : Jvm.MethodName) prog_25_method_2_code (3 : Nat) (Option.some Jvm.ClassFile.FieldType.long), Jvm.Cond.code ({ cls := "com/example/swarmfront/swarmfront/swarm/RngNextLongPinLaw", name := "unmix", desc := "(J)J" } : Jvm.MethodName) method_2_code (2 : Nat) (Option.some Jvm.ClassFile.FieldType.long)]
set_option maxRecDepth 65536 in
theorem codes_eq : words1.filter isCode = codes1 := rfl
theorem w_codes : ∀ c ∈ words1.filter isCode, c.before args0 about1 = true := by
  rw [codes_eq]
  intro c hc
  simp only [codes1, List.mem_cons, List.not_mem_nil, or_false] at hc
  rcases hc with rfl | rfl | rfl | rfl | rfl
  · exact w_c0
  · exact w_c1
  · exact w_c2
  · exact w_c3
  · exact w_c4
set_option maxRecDepth 65536 in
theorem w_t1 : (words1.take 24).all (fun c => isCode c || c.before args0 about1) = true := by decide +kernel
set_option maxRecDepth 65536 in
theorem w_t2 : (words1.drop 24).all (fun c => isCode c || c.before args0 about1) = true := by decide +kernel
theorem w_tables : (allAtoms (Jvm.Cond.code x code maxLocals ret :: tables_1)).before args0 about1 = true := by
  rw [allAtoms_all]
  show words1.all (fun c => c.before args0 about1) = true
  refine all_split ?_ w_codes
  rw [← List.take_append_drop 24 words1, List.all_append, w_t1, w_t2]
  rfl
set_option maxRecDepth 65536 in
theorem w_case : (Jvm.Cond.and given_1 narrow_1).before args0 about1 = true := by decide +kernel
theorem w_applies : (headSpec (Jvm.Cond.code x code maxLocals ret :: tables_1) room_1).applies x e0.platform about1 = true :=
  (Spec.applies_iff w_frames).mpr ⟨w_running, w_runnable, w_alone, w_named, w_hears, w_ripe, w_room, w_tables⟩
theorem atStart : AtStart classFile x code maxLocals ret World_1 tables_1 room_1 Calls_1 rest_1 Pre_1 launch0 p0 e0 about1 theMethod args0 below0 :=
  ⟨lists_1, trivial, launch0.admits_env _ _ _, launch0.least_env, fairChoices_fair.cas, fairChoices_fair.clock, w_frames, w_args, w_heap, w_applies, trivial, trivial, w_case⟩
end start1
theorem witness_1 : WitnessClaimed_1 := ⟨start1.p0, start1.e0, start1.about1, start1.theMethod, start1.args0, start1.below0, start1.atStart⟩
end Jvm.Pilot.@@N@@
