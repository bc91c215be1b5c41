import JvmDerived
import JvmDerived.Pilot.@@N@@Statement
import JvmDerived.Pilot.@@N@@Code
set_option linter.unusedVariables false
set_option linter.unusedSimpArgs false
namespace Jvm.Pilot.@@N@@
open Jvm Jvm.ClassFile Sem Op Lib Jvm.Free Jvm.Stand Jvm.LawKit Jvm.RoadKit Bundle Jvm.Pilot.@@N@@.Jvm.D
/-- from the state st the run ends, of which Q says what it leaves -/
def own_Ends (tb : Tables) (e : Env) (below : List Frame) (s : State) (Q : Option Value → Heap → List Loc → Prop) (C S : Nat) (st : State) : Prop :=
  ∃ t o, Steps tb e below st t ∧ t.status = .running ∧ Ended t below o ∧ ∃ v L, o = .returned v ∧ Q v t.heap L ∧ FrameEnd s o t L C S
theorem own_step {tb : Tables} {e : Env} {below : List Frame} {s : State} {Q : Option Value → Heap → List Loc → Prop} {C S : Nat} {st st' : State}
    (h : ∀ t, Steps tb e below st' t → Steps tb e below st t) (k : own_Ends tb e below s Q C S st') : own_Ends tb e below s Q C S st := by
  obtain ⟨t, o, h1, h2⟩ := k
  exact ⟨t, o, h t h1, h2⟩
section OwnRet
variable {p : Program} {l : Launch} {e : Env} {R : Room} {s : State} {m : MethodId} {args : Array Value} {below : List Frame} {meth : Method} {c : Code} {T : State} {locs : List Loc} {cells slots : Nat} {Q : Option Value → Heap → List Loc → Prop} {C S : Nat} {pc : Nat} {Ls : Array Slot} {rest : List Value}
theorem own_retW (X : Stand p l e R s m args below meth c T locs cells slots) (hx : p.tables.exec = Jvm.exec) {w : Value} {t : FieldType} {i : Instr} (hret : meth.sig.returnType = some t) (hn : narrow t w = w)
    (hi : (i = .ireturn ∧ (t = .int ∨ t = .boolean ∨ t = .byte ∨ t = .char ∨ t = .short) ∧ ∃ z, w = .int z) ∨ (i = .lreturn ∧ t = .long ∧ ∃ z, w = .long z) ∨ (i = .dreturn ∧ t = .double ∧ ∃ z, w = .double z) ∨ (i = .freturn ∧ t = .float ∧ ∃ z, w = .float z) ∨ (i = .areturn ∧ t.isReference = true ∧ w.isRef = true))
    (hd : decode c.code pc = .ok (i, 1)) (hlocks : meth.locks = false) (hq : Q (some w) T.heap locs) (hc : cells ≤ C) (hs : slots ≤ S) :
    own_Ends p.tables e below s Q C S (T.setTop (mkF m pc Ls (w :: rest))) := by
  obtain ⟨fs, hr, hrun, hended, hW, hsame⟩ := X.leave (v := some w) (fun h => by rw [hret] at h; cases h) hlocks
  exact ⟨_, _, retOut X hx hret hn hi hd hr, hrun, hended, _, _, rfl, hq, ⟨_, rfl⟩, hW, hsame.mono hc hs⟩
theorem own_retI (X : Stand p l e R s m args below meth c T locs cells slots) (hx : p.tables.exec = Jvm.exec) {z : Int32} (hret : meth.sig.returnType = some .int)
    (hd : decode c.code pc = .ok (.ireturn, 1)) (hlocks : meth.locks = false) (hq : Q (some (.int z)) T.heap locs) (hc : cells ≤ C) (hs : slots ≤ S) :
    own_Ends p.tables e below s Q C S (T.setTop (mkF m pc Ls (.int z :: rest))) :=
  own_retW X hx hret rfl (Or.inl ⟨rfl, Or.inl rfl, z, rfl⟩) hd hlocks hq hc hs
theorem own_retJ (X : Stand p l e R s m args below meth c T locs cells slots) (hx : p.tables.exec = Jvm.exec) {z : Int64} (hret : meth.sig.returnType = some .long)
    (hd : decode c.code pc = .ok (.lreturn, 1)) (hlocks : meth.locks = false) (hq : Q (some (.long z)) T.heap locs) (hc : cells ≤ C) (hs : slots ≤ S) :
    own_Ends p.tables e below s Q C S (T.setTop (mkF m pc Ls (.long z :: rest))) :=
  own_retW X hx hret rfl (Or.inr (Or.inl ⟨rfl, rfl, z, rfl⟩)) hd hlocks hq hc hs
theorem own_retR (X : Stand p l e R s m args below meth c T locs cells slots) (hx : p.tables.exec = Jvm.exec) {w : Value} {t : FieldType} (hret : meth.sig.returnType = some t) (ht : t.isReference = true) (hw : w.isRef = true) (hn : narrow t w = w)
    (hd : decode c.code pc = .ok (.areturn, 1)) (hlocks : meth.locks = false) (hq : Q (some w) T.heap locs) (hc : cells ≤ C) (hs : slots ≤ S) :
    own_Ends p.tables e below s Q C S (T.setTop (mkF m pc Ls (w :: rest))) :=
  own_retW X hx hret hn (Or.inr (Or.inr (Or.inr (Or.inr ⟨rfl, ht, hw⟩)))) hd hlocks hq hc hs
theorem own_retN (X : Stand p l e R s m args below meth c T locs cells slots) (hx : p.tables.exec = Jvm.exec) {z : Int32} {t : FieldType} (hret : meth.sig.returnType = some t) (ht : t = .boolean ∨ t = .byte ∨ t = .char ∨ t = .short)
    (hd : decode c.code pc = .ok (.ireturn, 1)) (hlocks : meth.locks = false) (hq : Q (some (.int (nar t z))) T.heap locs) (hc : cells ≤ C) (hs : slots ≤ S) :
    own_Ends p.tables e below s Q C S (T.setTop (mkF m pc Ls (.int z :: rest))) := by
  obtain ⟨fs, hr, hrun, hended, hW, hsame⟩ := X.leave (v := some (.int (nar t z))) (fun h => by rw [hret] at h; cases h) hlocks
  exact ⟨_, _, retN X hx hret ht hd hr, hrun, hended, _, _, rfl, hq, ⟨_, rfl⟩, hW, hsame.mono hc hs⟩
theorem own_ret0 (X : Stand p l e R s m args below meth c T locs cells slots) (hx : p.tables.exec = Jvm.exec) (hret : meth.sig.returnType = none)
    (hd : decode c.code pc = .ok (.return_, 1)) (hlocks : meth.locks = false) (hq : Q none T.heap locs) (hc : cells ≤ C) (hs : slots ≤ S) :
    own_Ends p.tables e below s Q C S (T.setTop (mkF m pc Ls [])) := by
  obtain ⟨fs, hr, hrun, hended, hW, hsame⟩ := X.leave (v := none) (fun _ => rfl) hlocks
  exact ⟨_, _, X.returnOut hx hret hd hr, hrun, hended, _, _, rfl, hq, ⟨_, rfl⟩, hW, hsame.mono hc hs⟩
end OwnRet
theorem own_idx (b n : Int32) (hn : 0 < n.toInt) : ¬ ((b &&& 2147483647) % n) < 0 ∧ ((b &&& 2147483647) % n) < n := by
  have h1 := c_and b 2147483647 (by decide)
  have h2 := (c_iremV (b &&& 2147483647) n).1 h1.1 hn
  constructor
  · rw [Int32.lt_iff_toInt_lt]; show ¬ _ < (0 : Int); omega
  · rw [Int32.lt_iff_toInt_lt]; omega
theorem own_small (v : Int32) (k : Nat) (hk : k < 2147483648) (h1 : ¬ v < 0) (h2 : v < Int32.ofNat k) : ∃ n : Fin k, v = Int32.ofNat n.1 := by
  rw [Int32.lt_iff_toInt_lt] at h1 h2
  rw [Int32.toInt_ofNat_of_lt hk] at h2
  have a : 0 ≤ v.toInt := by simpa using h1
  refine ⟨⟨v.toInt.toNat, by omega⟩, ?_⟩
  apply Int32.toInt_inj.mp
  rw [Int32.toInt_ofNat_of_lt (by show v.toInt.toNat < _; omega)]
  show v.toInt = ((v.toInt.toNat : Nat) : Int)
  omega
def own_EndsW (tb : Tables) (e : Env) (below : List Frame) (s : State) (Q : Option Value → Heap → List Loc → Prop) (C S : Nat) (st : State) : Prop :=
  ∃ t o, Steps tb e below st t ∧ t.status = .running ∧ Ended t below o ∧ ∃ v L, o = .returned v ∧ Q v t.heap L ∧ ReturnedEndW s o t L C S
theorem own_stepW {tb : Tables} {e : Env} {below : List Frame} {s : State} {Q : Option Value → Heap → List Loc → Prop} {C S : Nat} {st st' : State}
    (h : ∀ t, Steps tb e below st' t → Steps tb e below st t) (k : own_EndsW tb e below s Q C S st') : own_EndsW tb e below s Q C S st := by
  obtain ⟨t, o, h1, h2⟩ := k
  exact ⟨t, o, h t h1, h2⟩
theorem own_retNW {p : Program} {l : Launch} {e : Env} {R : Room} {s : State} {m : MethodId} {args : Array Value} {below : List Frame} {meth : Method} {c : Code} {T : State} {locs : List Loc} {cells slots : Nat} {Q : Option Value → Heap → List Loc → Prop} {C S : Nat} {pc : Nat} {Ls : Array Slot} {rest : List Value} {vm₁ : Vm}
    (X : Stand p l e R (s.setVm vm₁) m args below meth c T locs cells slots) (hx : p.tables.exec = Jvm.exec) {n : Nat} (hS : s.Since vm₁ n) (hn : n ≤ T.heap.size) {z : Int32} {t : FieldType} (hret : meth.sig.returnType = some t) (ht : t = .boolean ∨ t = .byte ∨ t = .char ∨ t = .short)
    (hd : decode c.code pc = .ok (.ireturn, 1)) (hlocks : meth.locks = false) (hq : Q (some (.int (nar t z))) T.heap locs) (hc : cells ≤ C) (hs : slots ≤ S) :
    own_EndsW p.tables e below s Q C S (T.setTop (mkF m pc Ls (.int z :: rest))) := by
  obtain ⟨fs, hr, hrun, hended, hR⟩ := X.leaveW hS hn (v := some (.int (nar t z))) (fun h => by rw [hret] at h; cases h) hlocks
  exact ⟨_, _, retN X hx hret ht hd hr, hrun, hended, _, _, rfl, hq, hR.1, hR.2.1, hR.2.2.1, hR.2.2.2.mono hc hs⟩
theorem d2_0 : decode jdk_30_method_1_code 0 = .ok (.aload_n 0, 1) := by decide +kernel
theorem d2_1 : decode jdk_30_method_1_code 1 = .ok (.invokespecial 1, 3) := by decide +kernel
theorem d2_4 : decode jdk_30_method_1_code 4 = .ok (.return_, 1) := by decide +kernel
theorem pn_0 : plainName "java/lang/Record" = true := by first | (simp [plainName, overriddenIn]; done) | decide +kernel
theorem ef_2 (m : MethodId) (o0_2 : Addr) : entryFrame m #[(.ref o0_2)] 1 = mkF m 0 #[.val (.ref o0_2)] [] := by first | (simp [entryFrame, mkF, argsToLocals, Value.category]; done) | rfl
def Q2 (Z : State) (o0_2 : Addr) (h0 : Heap) (n0 : Nat) (v : Option Value) (h : Heap) (L : List Loc) : Prop := v = none ∧ Fr n0 L ∧ h = h0
set_option maxRecDepth 65536 in
set_option maxHeartbeats 40000000 in
theorem rm2 (l : Launch) (Z : State) (a0 : Array Value) (hw : ∀ d ∈ tables_1, d.before a0 Z = true) (ws : List Jvm.Cond) (o0_2 : Addr) (h0 : Heap) (n0 : Nat) (O0 : Old Z n0 h0) :
    MetFree l (⟨"java/lang/Record", "<init>", "()V"⟩ : MethodName) (head1 (Jvm.Cond.code (⟨"java/lang/Record", "<init>", "()V"⟩ : MethodName) jdk_30_method_1_code 1 none :: ws) ({ frames := 1, cells := 0, slots := 0, locals := 12 } : Room)) (fun a U => a = #[(.ref o0_2)] ∧ Z.Warmed39 U.vm ∧ U.heap = h0) (fun _ _ _ _ _ => True) (fun _ U o U' => ∃ v L, o = .returned v ∧ Q2 Z o0_2 h0 n0 v U'.heap L ∧ FrameEnd U o U' L ({ frames := 1, cells := 0, slots := 0, locals := 12 } : Room).cells ({ frames := 1, cells := 0, slots := 0, locals := 12 } : Room).slots) := by
  refine MetFree.of_bodySF (plainFor_of_name pn_0) hisR ?_
  intro p e s m args below meth c s₁ Bd hml0 hP hK
  obtain ⟨rfl, hZ, hh⟩ := hP
  have hx := Bd.exec
  have hby := Bd.bytes
  have hnl := BodyLoose.notSynchronized Bd
  have hml : c.maxLocals = 1 := hml0
  have hown : s.vm.findClass "java/lang/Record" = some m.cls := findClass_of_methodNamed Bd.named
  have hnm := (name_of_methodNamed Bd.named Bd.method).1
  have X0 : Stand p l e ({ frames := 1, cells := 0, slots := 0, locals := 12 } : Room) s m #[(.ref o0_2)] below meth c s₁ [] 0 0 := Stand.of_body Bd
  have e0 : s₁.heap = h0 := by rw [← hh, Bd.state]; rfl
  have N0 := Fr.nil n0
  show own_Ends p.tables e below s (Q2 Z o0_2 h0 n0) 0 0 (s₁.setTop (entryFrame m #[(.ref o0_2)] 1))
  rw [ef_2 m o0_2]
  show own_Ends p.tables e below s _ _ _ (s₁.setTop (mkF m 0 #[.val (.ref o0_2)] []))
  refine own_step (fun t k => XS.aloadN X0.here hx rfl (hb hby d2_0) rfl rfl k) ?_
  show own_Ends p.tables e below s _ _ _ (s₁.setTop (mkF m 1 #[.val (.ref o0_2)] [(.ref o0_2)]))
  obtain ⟨T1, X1, e1, st1⟩ := initO X0 hx hZ hown (hw _ (List.mem_of_getElem? (i := 19) rfl)) (hw _ (List.mem_of_getElem? (i := 20) rfl)) (hw _ (List.mem_of_getElem? (i := 21) rfl)) e0 (g := (mkF m 1 #[.val (.ref o0_2)] [(.ref o0_2)])) rfl (by rw [hml]; rfl) rfl (hb hby d2_1) (by decide) (W := 0) (by show 2 * 0 + _ ≤ _; exact Nat.le_of_eq rfl) (by decide)
  refine own_step (fun t k => st1 _ k) ?_
  show own_Ends p.tables e below s _ _ _ (T1.setTop (mkF m 4 #[.val (.ref o0_2)] []))
  exact own_ret0 X1 hx Bd.returns (hb hby d2_4) hnl (by rw [e1]; exact ⟨rfl, N0, rfl⟩) (by decide) (by decide)
theorem pd_0 : parseMethodDescriptor "()V" = some ⟨[], none⟩ := by decide +kernel
theorem d1_0 : decode prog_93_method_1_code 0 = .ok (.aload_n 0, 1) := by decide +kernel
theorem d1_1 : decode prog_93_method_1_code 1 = .ok (.invokespecial 1, 3) := by decide +kernel
theorem d1_4 : decode prog_93_method_1_code 4 = .ok (.aload_n 0, 1) := by decide +kernel
theorem d1_5 : decode prog_93_method_1_code 5 = .ok (.aload_n 1, 1) := by decide +kernel
theorem d1_6 : decode prog_93_method_1_code 6 = .ok (.putfield 7, 3) := by decide +kernel
theorem d1_9 : decode prog_93_method_1_code 9 = .ok (.aload_n 0, 1) := by decide +kernel
theorem d1_10 : decode prog_93_method_1_code 10 = .ok (.iload_n 2, 1) := by decide +kernel
theorem d1_11 : decode prog_93_method_1_code 11 = .ok (.putfield 13, 3) := by decide +kernel
theorem d1_14 : decode prog_93_method_1_code 14 = .ok (.aload_n 0, 1) := by decide +kernel
theorem d1_15 : decode prog_93_method_1_code 15 = .ok (.iload_n 3, 1) := by decide +kernel
theorem d1_16 : decode prog_93_method_1_code 16 = .ok (.putfield 17, 3) := by decide +kernel
theorem d1_19 : decode prog_93_method_1_code 19 = .ok (.return_, 1) := by decide +kernel
theorem pn_1 : plainName "com/example/idlect/idlect/core/Location" = true := by first | (simp [plainName, overriddenIn]; done) | decide +kernel
theorem ef_1 (m : MethodId) (o0_1 : Addr) (o1_1 : Addr) (x2_1 : Int32) (x3_1 : Int32) : entryFrame m #[(.ref o0_1), (.ref o1_1), (.int x2_1), (.int x3_1)] 4 = mkF m 0 #[.val (.ref o0_1), .val (.ref o1_1), .val (.int x2_1), .val (.int x3_1)] [] := by first | (simp [entryFrame, mkF, argsToLocals, Value.category]; done) | rfl
def Q1 (Z : State) (o0_1 : Addr) (o1_1 : Addr) (x2_1 : Int32) (x3_1 : Int32) (u_file_o0_1 : Value) (u_line_o0_1 : Value) (u_column_o0_1 : Value) (h0 : Heap) (n0 : Nat) (v : Option Value) (h : Heap) (L : List Loc) : Prop := v = none ∧ Fr n0 L ∧ Keep h0 h [o0_1] ∧ Exa Z h o0_1 "com/example/idlect/idlect/core/Location" ∧ Fld Z h o0_1 "com/example/idlect/idlect/core/Location" "file" "Ljava/lang/String;" (.ref o1_1) ∧ Fld Z h o0_1 "com/example/idlect/idlect/core/Location" "line" "I" (.int x2_1) ∧ Fld Z h o0_1 "com/example/idlect/idlect/core/Location" "column" "I" (.int x3_1)
set_option maxRecDepth 65536 in
set_option maxHeartbeats 40000000 in
theorem rm1 (l : Launch) (Z : State) (a0 : Array Value) (hw : ∀ d ∈ tables_1, d.before a0 Z = true) (ws : List Jvm.Cond) (o0_1 : Addr) (o1_1 : Addr) (x2_1 : Int32) (x3_1 : Int32) (u_file_o0_1 : Value) (u_line_o0_1 : Value) (u_column_o0_1 : Value) (h0 : Heap) (n0 : Nat) (O0 : Old Z n0 h0) (E_o0_1 : Exa Z h0 o0_1 "com/example/idlect/idlect/core/Location") (F_file_o0_1 : Fld Z h0 o0_1 "com/example/idlect/idlect/core/Location" "file" "Ljava/lang/String;" u_file_o0_1) (g_o0_1 : n0 ≤ o0_1) (F_line_o0_1 : Fld Z h0 o0_1 "com/example/idlect/idlect/core/Location" "line" "I" u_line_o0_1) (F_column_o0_1 : Fld Z h0 o0_1 "com/example/idlect/idlect/core/Location" "column" "I" u_column_o0_1) :
    MetFree l (⟨"com/example/idlect/idlect/core/Location", "<init>", "(Ljava/lang/String;II)V"⟩ : MethodName) (head1 (Jvm.Cond.code (⟨"com/example/idlect/idlect/core/Location", "<init>", "(Ljava/lang/String;II)V"⟩ : MethodName) prog_93_method_1_code 4 none :: ws) ({ frames := 2, cells := 0, slots := 0, locals := 24 } : Room)) (fun a U => a = #[(.ref o0_1), (.ref o1_1), (.int x2_1), (.int x3_1)] ∧ Z.Warmed39 U.vm ∧ U.heap = h0) (fun _ _ _ _ _ => True) (fun _ U o U' => ∃ v L, o = .returned v ∧ Q1 Z o0_1 o1_1 x2_1 x3_1 u_file_o0_1 u_line_o0_1 u_column_o0_1 h0 n0 v U'.heap L ∧ FrameEnd U o U' L ({ frames := 2, cells := 0, slots := 0, locals := 24 } : Room).cells ({ frames := 2, cells := 0, slots := 0, locals := 24 } : Room).slots) := by
  refine MetFree.of_bodySF (plainFor_of_name pn_1) hisR ?_
  intro p e s m args below meth c s₁ Bd hml0 hP hK
  obtain ⟨rfl, hZ, hh⟩ := hP
  have hx := Bd.exec
  have hby := Bd.bytes
  have hnl := BodyLoose.notSynchronized Bd
  have hml : c.maxLocals = 4 := hml0
  have hown : s.vm.findClass "com/example/idlect/idlect/core/Location" = some m.cls := findClass_of_methodNamed Bd.named
  have hnm := (name_of_methodNamed Bd.named Bd.method).1
  have X0 : Stand p l e ({ frames := 2, cells := 0, slots := 0, locals := 24 } : Room) s m #[(.ref o0_1), (.ref o1_1), (.int x2_1), (.int x3_1)] below meth c s₁ [] 0 0 := Stand.of_body Bd
  have e0 : s₁.heap = h0 := by rw [← hh, Bd.state]; rfl
  have N0 := Fr.nil n0
  show own_Ends p.tables e below s (Q1 Z o0_1 o1_1 x2_1 x3_1 u_file_o0_1 u_line_o0_1 u_column_o0_1 h0 n0) 0 0 (s₁.setTop (entryFrame m #[(.ref o0_1), (.ref o1_1), (.int x2_1), (.int x3_1)] 4))
  rw [ef_1 m o0_1 o1_1 x2_1 x3_1]
  show own_Ends p.tables e below s _ _ _ (s₁.setTop (mkF m 0 #[.val (.ref o0_1), .val (.ref o1_1), .val (.int x2_1), .val (.int x3_1)] []))
  refine own_step (fun t k => XS.aloadN X0.here hx rfl (hb hby d1_0) rfl rfl k) ?_
  show own_Ends p.tables e below s _ _ _ (s₁.setTop (mkF m 1 #[.val (.ref o0_1), .val (.ref o1_1), .val (.int x2_1), .val (.int x3_1)] [(.ref o0_1)]))
  obtain ⟨_, _, ⟨T1, L1, k1, n1⟩, -, X1, ⟨Lc1, hQ1, l1, y1, z1⟩, st1⟩ := X0.specialBack hx (y := (⟨"java/lang/Record", "<init>", "()V"⟩ : MethodName)) rfl hown (mvT hZ (hw _ (List.mem_of_getElem? (i := 14) rfl))) (mvT hZ (hw _ (List.mem_of_getElem? (i := 15) rfl))) (mvT hZ (hw _ (List.mem_of_getElem? (i := 18) rfl))) (by decide) (backOf (W := 0) (rm2 l Z a0 hw [] o0_1 h0 n0 O0 ) hZ (hw _ (List.mem_of_getElem? (i := 18) rfl)) (hw _ (List.mem_of_getElem? (i := 17) rfl)) (by decide) (by decide)) (g := (mkF m 1 #[.val (.ref o0_1), .val (.ref o1_1), .val (.int x2_1), .val (.int x3_1)] [(.ref o0_1)])) rfl (by rw [hml]; rfl) (Steps.refl _) (a := o0_1) (argsL := []) (rest := []) (lenOf pd_0 rfl) rfl (by show 2 * 0 + _ ≤ _; exact Nat.le_of_eq rfl) (hb hby d1_1) (fun _ _ => ⟨rfl, e0, (by decide : 0 + 0 ≤ _), (by decide : 0 + 0 ≤ _)⟩)
  dsimp only [Pt.U, Pt.locs, Pt.cells, Pt.slots] at X1 l1 y1 z1 st1 hQ1
  subst l1 y1 z1
  obtain ⟨rfl, N1q, e1⟩ := hQ1
  refine own_step (fun t k => st1.trans k) ?_
  have N2 := Fr.app N0 N1q
  show own_Ends p.tables e below s _ _ _ (T1.setTop (mkF m 4 #[.val (.ref o0_1), .val (.ref o1_1), .val (.int x2_1), .val (.int x3_1)] []))
  refine own_step (fun t k => XS.aloadN X1.here hx rfl (hb hby d1_4) rfl rfl k) ?_
  show own_Ends p.tables e below s _ _ _ (T1.setTop (mkF m 5 #[.val (.ref o0_1), .val (.ref o1_1), .val (.int x2_1), .val (.int x3_1)] [(.ref o0_1)]))
  refine own_step (fun t k => XS.aloadN X1.here hx rfl (hb hby d1_5) rfl rfl k) ?_
  show own_Ends p.tables e below s _ _ _ (T1.setTop (mkF m 6 #[.val (.ref o0_1), .val (.ref o1_1), .val (.int x2_1), .val (.int x3_1)] [(.ref o1_1), (.ref o0_1)]))
  obtain ⟨T3, h3, X3, e3, W3, st3⟩ := putF X1 hx hZ hown (host := "") (Or.inl (hw _ (List.mem_of_getElem? (i := 22) rfl))) Via.refl e1 F_file_o0_1 E_o0_1 (Or.inr ⟨(hw _ (List.mem_of_getElem? (i := 23) rfl)), rfl, hnm⟩) (hw _ (List.mem_of_getElem? (i := 1) rfl)) (ty := (.object "java/lang/String")) (by decide) rfl rfl (g := (mkF m 6 #[.val (.ref o0_1), .val (.ref o1_1), .val (.int x2_1), .val (.int x3_1)] [(.ref o1_1), (.ref o0_1)])) rfl rfl (hb hby d1_6)
  refine own_step (fun t k => st3 _ k) ?_
  have F4 : Fld Z h3 o0_1 "com/example/idlect/idlect/core/Location" "file" "Ljava/lang/String;" (.ref o1_1) := F_file_o0_1.same W3
  have K5 : Keep h0 h3 [o0_1] := (Keep.refl h0 [o0_1]).wr W3 (Or.inl (List.mem_of_getElem? (i := 0) rfl))
  have N6 := Fr.snoc X3 N2 g_o0_1
  show own_Ends p.tables e below s _ _ _ (T3.setTop (mkF m 9 #[.val (.ref o0_1), .val (.ref o1_1), .val (.int x2_1), .val (.int x3_1)] []))
  refine own_step (fun t k => XS.aloadN X3.here hx rfl (hb hby d1_9) rfl rfl k) ?_
  show own_Ends p.tables e below s _ _ _ (T3.setTop (mkF m 10 #[.val (.ref o0_1), .val (.ref o1_1), .val (.int x2_1), .val (.int x3_1)] [(.ref o0_1)]))
  refine own_step (fun t k => XS.iloadN X3.here hx rfl (hb hby d1_10) rfl k) ?_
  show own_Ends p.tables e below s _ _ _ (T3.setTop (mkF m 11 #[.val (.ref o0_1), .val (.ref o1_1), .val (.int x2_1), .val (.int x3_1)] [(.int x2_1), (.ref o0_1)]))
  have F7 : Exa Z h3 o0_1 "com/example/idlect/idlect/core/Location" := (E_o0_1.wr W3)
  have F8 : Fld Z h3 o0_1 "com/example/idlect/idlect/core/Location" "line" "I" u_line_o0_1 := (F_line_o0_1.other W3 (Or.inr (slot_ne (Or.inr (hw _ (List.mem_of_getElem? (i := 25) rfl))) (Or.inr (hw _ (List.mem_of_getElem? (i := 23) rfl))) (by decide) (t := .int) (t' := (.object "java/lang/String")) (by decide) (by decide))))
  obtain ⟨T9, h9, X9, e9, W9, st9⟩ := putF X3 hx hZ hown (host := "") (Or.inl (hw _ (List.mem_of_getElem? (i := 24) rfl))) Via.refl e3 F8 F7 (Or.inr ⟨(hw _ (List.mem_of_getElem? (i := 25) rfl)), rfl, hnm⟩) (hw _ (List.mem_of_getElem? (i := 1) rfl)) (ty := .int) (by decide) rfl rfl (g := (mkF m 11 #[.val (.ref o0_1), .val (.ref o1_1), .val (.int x2_1), .val (.int x3_1)] [(.int x2_1), (.ref o0_1)])) rfl rfl (hb hby d1_11)
  refine own_step (fun t k => st9 _ k) ?_
  have F10 : Fld Z h9 o0_1 "com/example/idlect/idlect/core/Location" "line" "I" (.int x2_1) := F8.same W9
  have K11 : Keep h0 h9 [o0_1] := K5.wr W9 (Or.inl (List.mem_of_getElem? (i := 0) rfl))
  have N12 := Fr.snoc X9 N6 g_o0_1
  show own_Ends p.tables e below s _ _ _ (T9.setTop (mkF m 14 #[.val (.ref o0_1), .val (.ref o1_1), .val (.int x2_1), .val (.int x3_1)] []))
  refine own_step (fun t k => XS.aloadN X9.here hx rfl (hb hby d1_14) rfl rfl k) ?_
  show own_Ends p.tables e below s _ _ _ (T9.setTop (mkF m 15 #[.val (.ref o0_1), .val (.ref o1_1), .val (.int x2_1), .val (.int x3_1)] [(.ref o0_1)]))
  refine own_step (fun t k => XS.iloadN X9.here hx rfl (hb hby d1_15) rfl k) ?_
  show own_Ends p.tables e below s _ _ _ (T9.setTop (mkF m 16 #[.val (.ref o0_1), .val (.ref o1_1), .val (.int x2_1), .val (.int x3_1)] [(.int x3_1), (.ref o0_1)]))
  have F13 : Exa Z h9 o0_1 "com/example/idlect/idlect/core/Location" := (F7.wr W9)
  have F14 : Fld Z h9 o0_1 "com/example/idlect/idlect/core/Location" "column" "I" u_column_o0_1 := ((F_column_o0_1.other W3 (Or.inr (slot_ne (Or.inr (hw _ (List.mem_of_getElem? (i := 27) rfl))) (Or.inr (hw _ (List.mem_of_getElem? (i := 23) rfl))) (by decide) (t := .int) (t' := (.object "java/lang/String")) (by decide) (by decide)))).other W9 (Or.inr (slot_ne (Or.inr (hw _ (List.mem_of_getElem? (i := 27) rfl))) (Or.inr (hw _ (List.mem_of_getElem? (i := 25) rfl))) (by decide) (t := .int) (t' := .int) (by decide) (by decide))))
  obtain ⟨T15, h15, X15, e15, W15, st15⟩ := putF X9 hx hZ hown (host := "") (Or.inl (hw _ (List.mem_of_getElem? (i := 26) rfl))) Via.refl e9 F14 F13 (Or.inr ⟨(hw _ (List.mem_of_getElem? (i := 27) rfl)), rfl, hnm⟩) (hw _ (List.mem_of_getElem? (i := 1) rfl)) (ty := .int) (by decide) rfl rfl (g := (mkF m 16 #[.val (.ref o0_1), .val (.ref o1_1), .val (.int x2_1), .val (.int x3_1)] [(.int x3_1), (.ref o0_1)])) rfl rfl (hb hby d1_16)
  refine own_step (fun t k => st15 _ k) ?_
  have F16 : Fld Z h15 o0_1 "com/example/idlect/idlect/core/Location" "column" "I" (.int x3_1) := F14.same W15
  have K17 : Keep h0 h15 [o0_1] := K11.wr W15 (Or.inl (List.mem_of_getElem? (i := 0) rfl))
  have N18 := Fr.snoc X15 N12 g_o0_1
  show own_Ends p.tables e below s _ _ _ (T15.setTop (mkF m 19 #[.val (.ref o0_1), .val (.ref o1_1), .val (.int x2_1), .val (.int x3_1)] []))
  have F19 : Exa Z h15 o0_1 "com/example/idlect/idlect/core/Location" := (F13.wr W15)
  have F20 : Fld Z h15 o0_1 "com/example/idlect/idlect/core/Location" "file" "Ljava/lang/String;" (.ref o1_1) := ((F4.other W9 (Or.inr (slot_ne (Or.inr (hw _ (List.mem_of_getElem? (i := 23) rfl))) (Or.inr (hw _ (List.mem_of_getElem? (i := 25) rfl))) (by decide) (t := (.object "java/lang/String")) (t' := .int) (by decide) (by decide)))).other W15 (Or.inr (slot_ne (Or.inr (hw _ (List.mem_of_getElem? (i := 23) rfl))) (Or.inr (hw _ (List.mem_of_getElem? (i := 27) rfl))) (by decide) (t := (.object "java/lang/String")) (t' := .int) (by decide) (by decide))))
  have F21 : Fld Z h15 o0_1 "com/example/idlect/idlect/core/Location" "line" "I" (.int x2_1) := (F10.other W15 (Or.inr (slot_ne (Or.inr (hw _ (List.mem_of_getElem? (i := 25) rfl))) (Or.inr (hw _ (List.mem_of_getElem? (i := 27) rfl))) (by decide) (t := .int) (t' := .int) (by decide) (by decide))))
  exact own_ret0 X15 hx Bd.returns (hb hby d1_19) hnl (by rw [e15]; exact ⟨rfl, N18, K17, F19, F20, F21, F16⟩) (by decide) (by decide)
theorem d4_0 : decode method_2_code 0 = .ok (.iload_n 0, 1) := by decide +kernel
theorem d4_1 : decode method_2_code 1 = .ok (.i2l, 1) := by decide +kernel
theorem d4_2 : decode method_2_code 2 = .ok (.ldc2_w 7, 3) := by decide +kernel
theorem d4_5 : decode method_2_code 5 = .ok (.lmul, 1) := by decide +kernel
theorem d4_6 : decode method_2_code 6 = .ok (.iload_n 1, 1) := by decide +kernel
theorem d4_7 : decode method_2_code 7 = .ok (.i2l, 1) := by decide +kernel
theorem d4_8 : decode method_2_code 8 = .ok (.ldc2_w 11, 3) := by decide +kernel
theorem d4_11 : decode method_2_code 11 = .ok (.lsub, 1) := by decide +kernel
theorem d4_12 : decode method_2_code 12 = .ok (.ladd, 1) := by decide +kernel
theorem d4_13 : decode method_2_code 13 = .ok (.lreturn, 1) := by decide +kernel
theorem pn_2 : plainName "com/example/idlect/idlect/core/LocationPrecedesPinLaw" = true := by first | (simp [plainName, overriddenIn]; done) | decide +kernel
theorem ef_4 (m : MethodId) (x0_4 : Int32) (x1_4 : Int32) : entryFrame m #[(.int x0_4), (.int x1_4)] 2 = mkF m 0 #[.val (.int x0_4), .val (.int x1_4)] [] := by first | (simp [entryFrame, mkF, argsToLocals, Value.category]; done) | rfl
def Q4 (Z : State) (x0_4 : Int32) (x1_4 : Int32) (h0 : Heap) (n0 : Nat) (v : Option Value) (h : Heap) (L : List Loc) : Prop := v = some (.long (((x0_4.toInt64) * (4294967296 : Int64)) + ((x1_4.toInt64) - (-2147483648 : Int64)))) ∧ Fr n0 L ∧ h = h0
set_option maxRecDepth 65536 in
set_option maxHeartbeats 40000000 in
theorem rm4 (l : Launch) (Z : State) (a0 : Array Value) (hw : ∀ d ∈ tables_1, d.before a0 Z = true) (ws : List Jvm.Cond) (x0_4 : Int32) (x1_4 : Int32) (h0 : Heap) (n0 : Nat) (O0 : Old Z n0 h0) :
    MetFree l (⟨"com/example/idlect/idlect/core/LocationPrecedesPinLaw", "key", "(II)J"⟩ : MethodName) (head1 (Jvm.Cond.code (⟨"com/example/idlect/idlect/core/LocationPrecedesPinLaw", "key", "(II)J"⟩ : MethodName) method_2_code 2 (some .long) :: ws) ({ frames := 0, cells := 0, slots := 0, locals := 0 } : Room)) (fun a U => a = #[(.int x0_4), (.int x1_4)] ∧ Z.Warmed39 U.vm ∧ U.heap = h0) (fun _ _ _ _ _ => True) (fun _ U o U' => ∃ v L, o = .returned v ∧ Q4 Z x0_4 x1_4 h0 n0 v U'.heap L ∧ FrameEnd U o U' L ({ frames := 0, cells := 0, slots := 0, locals := 0 } : Room).cells ({ frames := 0, cells := 0, slots := 0, locals := 0 } : Room).slots) := by
  refine MetFree.of_bodySF (plainFor_of_name pn_2) hisR ?_
  intro p e s m args below meth c s₁ Bd hml0 hP hK
  obtain ⟨rfl, hZ, hh⟩ := hP
  have hx := Bd.exec
  have hby := Bd.bytes
  have hnl := BodyLoose.notSynchronized Bd
  have hml : c.maxLocals = 2 := hml0
  have hown : s.vm.findClass "com/example/idlect/idlect/core/LocationPrecedesPinLaw" = some m.cls := findClass_of_methodNamed Bd.named
  have hnm := (name_of_methodNamed Bd.named Bd.method).1
  have X0 : Stand p l e ({ frames := 0, cells := 0, slots := 0, locals := 0 } : Room) s m #[(.int x0_4), (.int x1_4)] below meth c s₁ [] 0 0 := Stand.of_body Bd
  have e0 : s₁.heap = h0 := by rw [← hh, Bd.state]; rfl
  have N0 := Fr.nil n0
  show own_Ends p.tables e below s (Q4 Z x0_4 x1_4 h0 n0) 0 0 (s₁.setTop (entryFrame m #[(.int x0_4), (.int x1_4)] 2))
  rw [ef_4 m x0_4 x1_4]
  show own_Ends p.tables e below s _ _ _ (s₁.setTop (mkF m 0 #[.val (.int x0_4), .val (.int x1_4)] []))
  refine own_step (fun t k => XS.iloadN X0.here hx rfl (hb hby d4_0) rfl k) ?_
  show own_Ends p.tables e below s _ _ _ (s₁.setTop (mkF m 1 #[.val (.int x0_4), .val (.int x1_4)] [(.int x0_4)]))
  refine own_step (fun t k => XS.i2l X0.here hx rfl (hb hby d4_1) rfl k) ?_
  show own_Ends p.tables e below s _ _ _ (s₁.setTop (mkF m 2 #[.val (.int x0_4), .val (.int x1_4)] [(.long (x0_4.toInt64))]))
  refine own_step (fun t k => X0.ldc2Long hx hown (mvT hZ (hw _ (List.mem_of_getElem? (i := 32) rfl))) (g := (mkF m 2 #[.val (.int x0_4), .val (.int x1_4)] [(.long (x0_4.toInt64))])) rfl (hb hby d4_2) _ k) ?_
  show own_Ends p.tables e below s _ _ _ (s₁.setTop (mkF m 5 #[.val (.int x0_4), .val (.int x1_4)] [(.long (4294967296 : Int64)), (.long (x0_4.toInt64))]))
  refine own_step (fun t k => XS.lmul X0.here hx rfl (hb hby d4_5) rfl k) ?_
  show own_Ends p.tables e below s _ _ _ (s₁.setTop (mkF m 6 #[.val (.int x0_4), .val (.int x1_4)] [(.long ((x0_4.toInt64) * (4294967296 : Int64)))]))
  refine own_step (fun t k => XS.iloadN X0.here hx rfl (hb hby d4_6) rfl k) ?_
  show own_Ends p.tables e below s _ _ _ (s₁.setTop (mkF m 7 #[.val (.int x0_4), .val (.int x1_4)] [(.int x1_4), (.long ((x0_4.toInt64) * (4294967296 : Int64)))]))
  refine own_step (fun t k => XS.i2l X0.here hx rfl (hb hby d4_7) rfl k) ?_
  show own_Ends p.tables e below s _ _ _ (s₁.setTop (mkF m 8 #[.val (.int x0_4), .val (.int x1_4)] [(.long (x1_4.toInt64)), (.long ((x0_4.toInt64) * (4294967296 : Int64)))]))
  refine own_step (fun t k => X0.ldc2Long hx hown (mvT hZ (hw _ (List.mem_of_getElem? (i := 33) rfl))) (g := (mkF m 8 #[.val (.int x0_4), .val (.int x1_4)] [(.long (x1_4.toInt64)), (.long ((x0_4.toInt64) * (4294967296 : Int64)))])) rfl (hb hby d4_8) _ k) ?_
  show own_Ends p.tables e below s _ _ _ (s₁.setTop (mkF m 11 #[.val (.int x0_4), .val (.int x1_4)] [(.long (-2147483648 : Int64)), (.long (x1_4.toInt64)), (.long ((x0_4.toInt64) * (4294967296 : Int64)))]))
  refine own_step (fun t k => XS.lsub X0.here hx rfl (hb hby d4_11) rfl k) ?_
  show own_Ends p.tables e below s _ _ _ (s₁.setTop (mkF m 12 #[.val (.int x0_4), .val (.int x1_4)] [(.long ((x1_4.toInt64) - (-2147483648 : Int64))), (.long ((x0_4.toInt64) * (4294967296 : Int64)))]))
  refine own_step (fun t k => XS.ladd X0.here hx rfl (hb hby d4_12) rfl k) ?_
  show own_Ends p.tables e below s _ _ _ (s₁.setTop (mkF m 13 #[.val (.int x0_4), .val (.int x1_4)] [(.long (((x0_4.toInt64) * (4294967296 : Int64)) + ((x1_4.toInt64) - (-2147483648 : Int64))))]))
  exact own_retJ X0 hx Bd.returns (hb hby d4_13) hnl (by rw [e0]; exact ⟨rfl, N0, rfl⟩) (by decide) (by decide)
def own_r5 (w_line_o0_5 : Int32) (w_line_o1_5 : Int32) (w_column_o0_5 : Int32) (w_column_o1_5 : Int32) : Int32 := (if w_line_o0_5 < w_line_o1_5 then (1 : Int32) else (if w_line_o0_5 = w_line_o1_5 then (if w_column_o0_5 < w_column_o1_5 then (1 : Int32) else (0 : Int32)) else (0 : Int32)))
theorem d5_0 : decode prog_93_method_3_code 0 = .ok (.aload_n 0, 1) := by decide +kernel
theorem d5_1 : decode prog_93_method_3_code 1 = .ok (.getfield 13, 3) := by decide +kernel
theorem d5_4 : decode prog_93_method_3_code 4 = .ok (.aload_n 1, 1) := by decide +kernel
theorem d5_5 : decode prog_93_method_3_code 5 = .ok (.getfield 13, 3) := by decide +kernel
theorem d5_8 : decode prog_93_method_3_code 8 = .ok (.if_icmp .lt 25, 3) := by decide +kernel
theorem d5_11 : decode prog_93_method_3_code 11 = .ok (.aload_n 0, 1) := by decide +kernel
theorem d5_12 : decode prog_93_method_3_code 12 = .ok (.getfield 13, 3) := by decide +kernel
theorem d5_15 : decode prog_93_method_3_code 15 = .ok (.aload_n 1, 1) := by decide +kernel
theorem d5_16 : decode prog_93_method_3_code 16 = .ok (.getfield 13, 3) := by decide +kernel
theorem d5_19 : decode prog_93_method_3_code 19 = .ok (.if_icmp .ne 18, 3) := by decide +kernel
theorem d5_22 : decode prog_93_method_3_code 22 = .ok (.aload_n 0, 1) := by decide +kernel
theorem d5_23 : decode prog_93_method_3_code 23 = .ok (.getfield 17, 3) := by decide +kernel
theorem d5_26 : decode prog_93_method_3_code 26 = .ok (.aload_n 1, 1) := by decide +kernel
theorem d5_27 : decode prog_93_method_3_code 27 = .ok (.getfield 17, 3) := by decide +kernel
theorem d5_30 : decode prog_93_method_3_code 30 = .ok (.if_icmp .ge 7, 3) := by decide +kernel
theorem d5_33 : decode prog_93_method_3_code 33 = .ok (.iconst 1, 1) := by decide +kernel
theorem d5_34 : decode prog_93_method_3_code 34 = .ok (.goto 4, 3) := by decide +kernel
theorem d5_37 : decode prog_93_method_3_code 37 = .ok (.iconst 0, 1) := by decide +kernel
theorem d5_38 : decode prog_93_method_3_code 38 = .ok (.ireturn, 1) := by decide +kernel
theorem ef_5 (m : MethodId) (o0_5 : Addr) (o1_5 : Addr) : entryFrame m #[(.ref o0_5), (.ref o1_5)] 2 = mkF m 0 #[.val (.ref o0_5), .val (.ref o1_5)] [] := by first | (simp [entryFrame, mkF, argsToLocals, Value.category]; done) | rfl
def Q5 (Z : State) (o0_5 : Addr) (o1_5 : Addr) (w_line_o0_5 : Int32) (w_line_o1_5 : Int32) (w_column_o0_5 : Int32) (w_column_o1_5 : Int32) (h0 : Heap) (n0 : Nat) (v : Option Value) (h : Heap) (L : List Loc) : Prop := v = some (.int (own_r5 w_line_o0_5 w_line_o1_5 w_column_o0_5 w_column_o1_5)) ∧ Fr n0 L ∧ h = h0
set_option maxRecDepth 65536 in
set_option maxHeartbeats 40000000 in
theorem rm5 (l : Launch) (Z : State) (a0 : Array Value) (hw : ∀ d ∈ tables_1, d.before a0 Z = true) (ws : List Jvm.Cond) (o0_5 : Addr) (o1_5 : Addr) (w_line_o0_5 : Int32) (w_line_o1_5 : Int32) (w_column_o0_5 : Int32) (w_column_o1_5 : Int32) (h0 : Heap) (n0 : Nat) (O0 : Old Z n0 h0) (F_line_o0_5 : Fld Z h0 o0_5 "com/example/idlect/idlect/core/Location" "line" "I" (.int w_line_o0_5)) (F_line_o1_5 : Fld Z h0 o1_5 "com/example/idlect/idlect/core/Location" "line" "I" (.int w_line_o1_5)) (F_column_o0_5 : Fld Z h0 o0_5 "com/example/idlect/idlect/core/Location" "column" "I" (.int w_column_o0_5)) (F_column_o1_5 : Fld Z h0 o1_5 "com/example/idlect/idlect/core/Location" "column" "I" (.int w_column_o1_5)) :
    MetFree l (⟨"com/example/idlect/idlect/core/Location", "precedes", "(Lcom/example/idlect/idlect/core/Location;)Z"⟩ : MethodName) (head1 (Jvm.Cond.code (⟨"com/example/idlect/idlect/core/Location", "precedes", "(Lcom/example/idlect/idlect/core/Location;)Z"⟩ : MethodName) prog_93_method_3_code 2 (some .boolean) :: ws) ({ frames := 0, cells := 0, slots := 0, locals := 0 } : Room)) (fun a U => a = #[(.ref o0_5), (.ref o1_5)] ∧ Z.Warmed39 U.vm ∧ U.heap = h0) (fun _ _ _ _ _ => True) (fun _ U o U' => ∃ v L, o = .returned v ∧ Q5 Z o0_5 o1_5 w_line_o0_5 w_line_o1_5 w_column_o0_5 w_column_o1_5 h0 n0 v U'.heap L ∧ FrameEnd U o U' L ({ frames := 0, cells := 0, slots := 0, locals := 0 } : Room).cells ({ frames := 0, cells := 0, slots := 0, locals := 0 } : Room).slots) := by
  refine MetFree.of_bodySF (plainFor_of_name pn_1) hisR ?_
  intro p e s m args below meth c s₁ Bd hml0 hP hK
  obtain ⟨rfl, hZ, hh⟩ := hP
  have hx := Bd.exec
  have hby := Bd.bytes
  have hnl := BodyLoose.notSynchronized Bd
  have hml : c.maxLocals = 2 := hml0
  have hown : s.vm.findClass "com/example/idlect/idlect/core/Location" = some m.cls := findClass_of_methodNamed Bd.named
  have hnm := (name_of_methodNamed Bd.named Bd.method).1
  have X0 : Stand p l e ({ frames := 0, cells := 0, slots := 0, locals := 0 } : Room) s m #[(.ref o0_5), (.ref o1_5)] below meth c s₁ [] 0 0 := Stand.of_body Bd
  have e0 : s₁.heap = h0 := by rw [← hh, Bd.state]; rfl
  have N0 := Fr.nil n0
  show own_Ends p.tables e below s (Q5 Z o0_5 o1_5 w_line_o0_5 w_line_o1_5 w_column_o0_5 w_column_o1_5 h0 n0) 0 0 (s₁.setTop (entryFrame m #[(.ref o0_5), (.ref o1_5)] 2))
  rw [ef_5 m o0_5 o1_5]
  show own_Ends p.tables e below s _ _ _ (s₁.setTop (mkF m 0 #[.val (.ref o0_5), .val (.ref o1_5)] []))
  refine own_step (fun t k => XS.aloadN X0.here hx rfl (hb hby d5_0) rfl rfl k) ?_
  show own_Ends p.tables e below s _ _ _ (s₁.setTop (mkF m 1 #[.val (.ref o0_5), .val (.ref o1_5)] [(.ref o0_5)]))
  obtain ⟨T1, X1, e1, st1⟩ := getF X0 hx hZ hown (host := "") (Or.inl (hw _ (List.mem_of_getElem? (i := 24) rfl))) Via.refl e0 F_line_o0_5 (g := (mkF m 1 #[.val (.ref o0_5), .val (.ref o1_5)] [(.ref o0_5)])) rfl rfl (hb hby d5_1)
  refine own_step (fun t k => st1 _ k) ?_
  show own_Ends p.tables e below s _ _ _ (T1.setTop (mkF m 4 #[.val (.ref o0_5), .val (.ref o1_5)] [(.int w_line_o0_5)]))
  refine own_step (fun t k => XS.aloadN X1.here hx rfl (hb hby d5_4) rfl rfl k) ?_
  show own_Ends p.tables e below s _ _ _ (T1.setTop (mkF m 5 #[.val (.ref o0_5), .val (.ref o1_5)] [(.ref o1_5), (.int w_line_o0_5)]))
  obtain ⟨T2, X2, e2, st2⟩ := getF X1 hx hZ hown (host := "") (Or.inl (hw _ (List.mem_of_getElem? (i := 24) rfl))) Via.refl e1 F_line_o1_5 (g := (mkF m 5 #[.val (.ref o0_5), .val (.ref o1_5)] [(.ref o1_5), (.int w_line_o0_5)])) rfl rfl (hb hby d5_5)
  refine own_step (fun t k => st2 _ k) ?_
  show own_Ends p.tables e below s _ _ _ (T2.setTop (mkF m 8 #[.val (.ref o0_5), .val (.ref o1_5)] [(.int w_line_o1_5), (.int w_line_o0_5)]))
  by_cases hc8_3 : w_line_o0_5 < w_line_o1_5
  · skip
    refine own_step (fun t k => XS.icmpYes X2.here hx rfl (pc0 := 8) (pc' := 33) rfl (hb hby d5_8) rfl (tlt hc8_3).1 (by decide) (by decide) k) ?_
    show own_Ends p.tables e below s _ _ _ (T2.setTop (mkF m 33 #[.val (.ref o0_5), .val (.ref o1_5)] []))
    refine own_step (fun t k => XS.iconst X2.here hx rfl (hb hby d5_33) k) ?_
    show own_Ends p.tables e below s _ _ _ (T2.setTop (mkF m 34 #[.val (.ref o0_5), .val (.ref o1_5)] [(.int (1 : Int32))]))
    refine own_step (fun t k => XS.goto X2.here hx rfl (pc0 := 34) (pc' := 38) rfl (hb hby d5_34) (by decide) (by decide) k) ?_
    show own_Ends p.tables e below s _ _ _ (T2.setTop (mkF m 38 #[.val (.ref o0_5), .val (.ref o1_5)] [(.int (1 : Int32))]))
    exact own_retN X2 hx (t := .boolean) Bd.returns (by simp) (hb hby d5_38) hnl (by rw [e2]; exact ⟨(congrArg (fun z => some (Value.int z)) (Eq.symm (show (own_r5 w_line_o0_5 w_line_o1_5 w_column_o0_5 w_column_o1_5) = (1 : Int32) from by unfold own_r5; rw [if_pos hc8_3]))), N0, rfl⟩) (by decide) (by decide)
  · skip
    refine own_step (fun t k => XS.icmpNo X2.here hx rfl (hb hby d5_8) rfl (flt hc8_3).1 k) ?_
    show own_Ends p.tables e below s _ _ _ (T2.setTop (mkF m 11 #[.val (.ref o0_5), .val (.ref o1_5)] []))
    refine own_step (fun t k => XS.aloadN X2.here hx rfl (hb hby d5_11) rfl rfl k) ?_
    show own_Ends p.tables e below s _ _ _ (T2.setTop (mkF m 12 #[.val (.ref o0_5), .val (.ref o1_5)] [(.ref o0_5)]))
    obtain ⟨T4, X4, e4, st4⟩ := getF X2 hx hZ hown (host := "") (Or.inl (hw _ (List.mem_of_getElem? (i := 24) rfl))) Via.refl e2 F_line_o0_5 (g := (mkF m 12 #[.val (.ref o0_5), .val (.ref o1_5)] [(.ref o0_5)])) rfl rfl (hb hby d5_12)
    refine own_step (fun t k => st4 _ k) ?_
    show own_Ends p.tables e below s _ _ _ (T4.setTop (mkF m 15 #[.val (.ref o0_5), .val (.ref o1_5)] [(.int w_line_o0_5)]))
    refine own_step (fun t k => XS.aloadN X4.here hx rfl (hb hby d5_15) rfl rfl k) ?_
    show own_Ends p.tables e below s _ _ _ (T4.setTop (mkF m 16 #[.val (.ref o0_5), .val (.ref o1_5)] [(.ref o1_5), (.int w_line_o0_5)]))
    obtain ⟨T5, X5, e5, st5⟩ := getF X4 hx hZ hown (host := "") (Or.inl (hw _ (List.mem_of_getElem? (i := 24) rfl))) Via.refl e4 F_line_o1_5 (g := (mkF m 16 #[.val (.ref o0_5), .val (.ref o1_5)] [(.ref o1_5), (.int w_line_o0_5)])) rfl rfl (hb hby d5_16)
    refine own_step (fun t k => st5 _ k) ?_
    show own_Ends p.tables e below s _ _ _ (T5.setTop (mkF m 19 #[.val (.ref o0_5), .val (.ref o1_5)] [(.int w_line_o1_5), (.int w_line_o0_5)]))
    by_cases hc19_6 : w_line_o0_5 = w_line_o1_5
    · skip
      refine own_step (fun t k => XS.icmpNo X5.here hx rfl (hb hby d5_19) rfl (teq hc19_6).2 k) ?_
      show own_Ends p.tables e below s _ _ _ (T5.setTop (mkF m 22 #[.val (.ref o0_5), .val (.ref o1_5)] []))
      refine own_step (fun t k => XS.aloadN X5.here hx rfl (hb hby d5_22) rfl rfl k) ?_
      show own_Ends p.tables e below s _ _ _ (T5.setTop (mkF m 23 #[.val (.ref o0_5), .val (.ref o1_5)] [(.ref o0_5)]))
      obtain ⟨T7, X7, e7, st7⟩ := getF X5 hx hZ hown (host := "") (Or.inl (hw _ (List.mem_of_getElem? (i := 26) rfl))) Via.refl e5 F_column_o0_5 (g := (mkF m 23 #[.val (.ref o0_5), .val (.ref o1_5)] [(.ref o0_5)])) rfl rfl (hb hby d5_23)
      refine own_step (fun t k => st7 _ k) ?_
      show own_Ends p.tables e below s _ _ _ (T7.setTop (mkF m 26 #[.val (.ref o0_5), .val (.ref o1_5)] [(.int w_column_o0_5)]))
      refine own_step (fun t k => XS.aloadN X7.here hx rfl (hb hby d5_26) rfl rfl k) ?_
      show own_Ends p.tables e below s _ _ _ (T7.setTop (mkF m 27 #[.val (.ref o0_5), .val (.ref o1_5)] [(.ref o1_5), (.int w_column_o0_5)]))
      obtain ⟨T8, X8, e8, st8⟩ := getF X7 hx hZ hown (host := "") (Or.inl (hw _ (List.mem_of_getElem? (i := 26) rfl))) Via.refl e7 F_column_o1_5 (g := (mkF m 27 #[.val (.ref o0_5), .val (.ref o1_5)] [(.ref o1_5), (.int w_column_o0_5)])) rfl rfl (hb hby d5_27)
      refine own_step (fun t k => st8 _ k) ?_
      show own_Ends p.tables e below s _ _ _ (T8.setTop (mkF m 30 #[.val (.ref o0_5), .val (.ref o1_5)] [(.int w_column_o1_5), (.int w_column_o0_5)]))
      by_cases hc30_9 : w_column_o0_5 < w_column_o1_5
      · skip
        refine own_step (fun t k => XS.icmpNo X8.here hx rfl (hb hby d5_30) rfl (tlt hc30_9).2.1 k) ?_
        show own_Ends p.tables e below s _ _ _ (T8.setTop (mkF m 33 #[.val (.ref o0_5), .val (.ref o1_5)] []))
        refine own_step (fun t k => XS.iconst X8.here hx rfl (hb hby d5_33) k) ?_
        show own_Ends p.tables e below s _ _ _ (T8.setTop (mkF m 34 #[.val (.ref o0_5), .val (.ref o1_5)] [(.int (1 : Int32))]))
        refine own_step (fun t k => XS.goto X8.here hx rfl (pc0 := 34) (pc' := 38) rfl (hb hby d5_34) (by decide) (by decide) k) ?_
        show own_Ends p.tables e below s _ _ _ (T8.setTop (mkF m 38 #[.val (.ref o0_5), .val (.ref o1_5)] [(.int (1 : Int32))]))
        exact own_retN X8 hx (t := .boolean) Bd.returns (by simp) (hb hby d5_38) hnl (by rw [e8]; exact ⟨(congrArg (fun z => some (Value.int z)) (Eq.symm (show (own_r5 w_line_o0_5 w_line_o1_5 w_column_o0_5 w_column_o1_5) = (1 : Int32) from by unfold own_r5; rw [if_neg hc8_3, if_pos hc19_6, if_pos hc30_9]))), N0, rfl⟩) (by decide) (by decide)
      · skip
        refine own_step (fun t k => XS.icmpYes X8.here hx rfl (pc0 := 30) (pc' := 37) rfl (hb hby d5_30) rfl (flt hc30_9).2.1 (by decide) (by decide) k) ?_
        show own_Ends p.tables e below s _ _ _ (T8.setTop (mkF m 37 #[.val (.ref o0_5), .val (.ref o1_5)] []))
        refine own_step (fun t k => XS.iconst X8.here hx rfl (hb hby d5_37) k) ?_
        show own_Ends p.tables e below s _ _ _ (T8.setTop (mkF m 38 #[.val (.ref o0_5), .val (.ref o1_5)] [(.int (0 : Int32))]))
        exact own_retN X8 hx (t := .boolean) Bd.returns (by simp) (hb hby d5_38) hnl (by rw [e8]; exact ⟨(congrArg (fun z => some (Value.int z)) (Eq.symm (show (own_r5 w_line_o0_5 w_line_o1_5 w_column_o0_5 w_column_o1_5) = (0 : Int32) from by unfold own_r5; rw [if_neg hc8_3, if_pos hc19_6, if_neg hc30_9]))), N0, rfl⟩) (by decide) (by decide)
    · skip
      refine own_step (fun t k => XS.icmpYes X5.here hx rfl (pc0 := 19) (pc' := 37) rfl (hb hby d5_19) rfl (feq hc19_6).2 (by decide) (by decide) k) ?_
      show own_Ends p.tables e below s _ _ _ (T5.setTop (mkF m 37 #[.val (.ref o0_5), .val (.ref o1_5)] []))
      refine own_step (fun t k => XS.iconst X5.here hx rfl (hb hby d5_37) k) ?_
      show own_Ends p.tables e below s _ _ _ (T5.setTop (mkF m 38 #[.val (.ref o0_5), .val (.ref o1_5)] [(.int (0 : Int32))]))
      exact own_retN X5 hx (t := .boolean) Bd.returns (by simp) (hb hby d5_38) hnl (by rw [e5]; exact ⟨(congrArg (fun z => some (Value.int z)) (Eq.symm (show (own_r5 w_line_o0_5 w_line_o1_5 w_column_o0_5 w_column_o1_5) = (0 : Int32) from by unfold own_r5; rw [if_neg hc8_3, if_neg hc19_6]))), N0, rfl⟩) (by decide) (by decide)
def own_key (a b : Int32) : Int64 := (a.toInt64 * 4294967296) + (b.toInt64 - (-2147483648))
theorem own_keyv (a b : Int32) : (own_key a b).toInt = a.toInt * 4294967296 + b.toInt + 2147483648 := by
  unfold own_key
  have h1 := c_i2l a; have h2 := c_i2l b
  have l1 := a.toInt_lt; have l2 := a.le_toInt; have l3 := b.toInt_lt; have l4 := b.le_toInt
  rw [Int64.toInt_add, Int64.toInt_mul, Int64.toInt_sub, h1, h2]
  have e1 : (4294967296 : Int64).toInt = 4294967296 := rfl
  have e2 : (-2147483648 : Int64).toInt = -2147483648 := rfl
  rw [e1, e2]
  simp only [Int.bmod_def]
  omega
theorem own_lcl (a b : Int64) : lcmpW a b < 0 ↔ a < b := by rw [lcW]; exact lc_lt a b
theorem own_prec (a b c d : Int32) : own_r5 a c b d = 1 ↔ own_key a b < own_key c d := by
  rw [Int64.lt_iff_toInt_lt, own_keyv, own_keyv]
  have l3 := b.toInt_lt; have l4 := b.le_toInt; have l5 := d.toInt_lt; have l6 := d.le_toInt
  unfold own_r5
  simp only [Int32.lt_iff_toInt_lt, ← Int32.toInt_inj]
  repeat' split
  all_goals simp
  all_goals omega
theorem own_prec0 (a b c d : Int32) (h : ¬ own_key a b < own_key c d) : own_r5 a c b d = 0 := by
  have q := fun q => h ((own_prec a b c d).mp q)
  unfold own_r5 at *
  repeat' split
  all_goals first | rfl | (exfalso; simp_all)

theorem own_strAtoms : ∀ d ∈ Bundle.stringAtoms, d ∈ tables_1 := by
  intro d hd
  simp only [Bundle.stringAtoms, List.mem_cons, List.not_mem_nil, or_false] at hd
  rcases hd with rfl | rfl | rfl | rfl | rfl | rfl | rfl <;> first | exact List.mem_of_getElem? (i := 4) rfl | exact List.mem_of_getElem? (i := 5) rfl | exact List.mem_of_getElem? (i := 6) rfl | exact List.mem_of_getElem? (i := 7) rfl | exact List.mem_of_getElem? (i := 8) rfl | exact List.mem_of_getElem? (i := 9) rfl | exact List.mem_of_getElem? (i := 10) rfl | exact List.mem_of_getElem? (i := 11) rfl | exact List.mem_of_getElem? (i := 12) rfl | exact List.mem_of_getElem? (i := 13) rfl | exact List.mem_of_getElem? (i := 22) rfl | exact List.mem_of_getElem? (i := 23) rfl
theorem pd_1 : parseMethodDescriptor "(Ljava/lang/String;II)V" = some ⟨[(.object "java/lang/String"), .int, .int], none⟩ := by decide +kernel
theorem pd_2 : parseMethodDescriptor "(II)J" = some ⟨[.int, .int], some .long⟩ := by decide +kernel
theorem pd_3 : parseMethodDescriptor "(Lcom/example/idlect/idlect/core/Location;)Z" = some ⟨[(.object "com/example/idlect/idlect/core/Location")], some .boolean⟩ := by decide +kernel
theorem ef_0 (m : MethodId) (x0_0 : Int32) (x1_0 : Int32) (x2_0 : Int32) (x3_0 : Int32) (x4_0 : Int32) : entryFrame m #[(.int x0_0), (.int x1_0), (.int x2_0), (.int x3_0), (.int x4_0)] maxLocals = mkF m 0 #[.val (.int x0_0), .val (.int x1_0), .val (.int x2_0), .val (.int x3_0), .val (.int x4_0), .unset, .unset, .unset, .unset, .unset, .unset, .unset, .unset, .unset, .unset] [] := by first | (simp [entryFrame, mkF, argsToLocals, Value.category, maxLocals]; done) | rfl
def Q0 (Z : State) (x0_0 : Int32) (x1_0 : Int32) (x2_0 : Int32) (x3_0 : Int32) (x4_0 : Int32) (h0 : Heap) (n0 : Nat) (v : Option Value) (h : Heap) (L : List Loc) : Prop := v = some (.int 1) ∧ Fr n0 L
set_option maxRecDepth 65536 in
set_option maxHeartbeats 40000000 in
theorem rm0 (l : Launch) (Z : State) (a0 : Array Value) (hw : ∀ d ∈ tables_1, d.before a0 Z = true) (ws : List Jvm.Cond) (x0_0 : Int32) (x1_0 : Int32) (x2_0 : Int32) (x3_0 : Int32) (x4_0 : Int32) (h0 : Heap) (n0 : Nat) (O0 : Old Z n0 h0) :
    MetFree l x (head1 (Jvm.Cond.code x code maxLocals ret :: ws) room_1) (fun a U => a = #[(.int x0_0), (.int x1_0), (.int x2_0), (.int x3_0), (.int x4_0)] ∧ Z.Warmed39 U.vm ∧ U.heap = h0) (fun _ _ _ _ _ => True) (fun _ U o U' => ∃ v L, o = .returned v ∧ Q0 Z x0_0 x1_0 x2_0 x3_0 x4_0 h0 n0 v U'.heap L ∧ ReturnedEndW U o U' L 6 22) := by
  refine MetFree.of_bodySF (plainFor_of_name pn_2) hisR ?_
  intro p e s m args below meth c s₁ Bd hml0 hP hK
  obtain ⟨rfl, hZ, hh⟩ := hP
  have hx := Bd.exec
  have hby := Bd.bytes
  have hnl := BodyLoose.notSynchronized Bd
  have hml : c.maxLocals = 15 := hml0
  have hown : s.vm.findClass "com/example/idlect/idlect/core/LocationPrecedesPinLaw" = some m.cls := findClass_of_methodNamed Bd.named
  have hnm := (name_of_methodNamed Bd.named Bd.method).1
  have X0 : Stand p l e room_1 s m #[(.int x0_0), (.int x1_0), (.int x2_0), (.int x3_0), (.int x4_0)] below meth c s₁ [] 0 0 := Stand.of_body Bd
  have e0 : s₁.heap = h0 := by rw [← hh, Bd.state]; rfl
  have N0 := Fr.nil n0
  show own_EndsW p.tables e below s (Q0 Z x0_0 x1_0 x2_0 x3_0 x4_0 h0 n0) 6 22 (s₁.setTop (entryFrame m #[(.int x0_0), (.int x1_0), (.int x2_0), (.int x3_0), (.int x4_0)] maxLocals))
  rw [ef_0 m x0_0 x1_0 x2_0 x3_0 x4_0]
  have tail38 : ∀ (l2 : Int32) (c2 : Int32), own_EndsW p.tables e below s (Q0 Z x0_0 x1_0 x2_0 x3_0 x4_0 h0 n0) 6 22 (s₁.setTop (mkF m 38 #[.val (.int x0_0), .val (.int x1_0), .val (.int x2_0), .val (.int x3_0), .val (.int x4_0), .val (.int l2), .val (.int c2), .unset, .unset, .unset, .unset, .unset, .unset, .unset, .unset] [])) := by
    intro l2 c2
    show own_EndsW p.tables e below s _ _ _ (s₁.setTop (mkF m 38 #[.val (.int x0_0), .val (.int x1_0), .val (.int x2_0), .val (.int x3_0), .val (.int x4_0), .val (.int l2), .val (.int c2), .unset, .unset, .unset, .unset, .unset, .unset, .unset, .unset] []))
    obtain ⟨T1, h1, X1, e1, E1, A1, D1, -, st1⟩ := newO X0 hx hZ hown (hw _ (List.mem_of_getElem? (i := 0) rfl)) (hw _ (List.mem_of_getElem? (i := 1) rfl)) (hw _ (List.mem_of_getElem? (i := 2) rfl)) e0 (g := (mkF m 38 #[.val (.int x0_0), .val (.int x1_0), .val (.int x2_0), .val (.int x3_0), .val (.int x4_0), .val (.int l2), .val (.int c2), .unset, .unset, .unset, .unset, .unset, .unset, .unset, .unset] [])) rfl (hb hby at_38) (by decide) (by decide)
    obtain ⟨b1, g1⟩ : ∃ z, z = h0.size := ⟨_, rfl⟩
    rw [← g1] at A1 D1 st1
    have g_b1 : n0 ≤ b1 := Nat.le_trans (Nat.le_trans (Nat.le_of_eq O0.1.symm) O0.2.1) (Nat.le_of_eq g1.symm)
    have sz_b1 : h0.size ≤ b1 := Nat.le_trans (Keep.refl h0 []).1 (Nat.le_of_eq g1.symm)
    have F1_file : Fld Z h1 b1 "com/example/idlect/idlect/core/Location" "file" "Ljava/lang/String;" .null := D1 (Or.inr (hw _ (List.mem_of_getElem? (i := 23) rfl))) (ty := (.object "java/lang/String")) (by decide)
    have F1_line : Fld Z h1 b1 "com/example/idlect/idlect/core/Location" "line" "I" (.int (0 : Int32)) := D1 (Or.inr (hw _ (List.mem_of_getElem? (i := 25) rfl))) (ty := .int) (by decide)
    have F1_column : Fld Z h1 b1 "com/example/idlect/idlect/core/Location" "column" "I" (.int (0 : Int32)) := D1 (Or.inr (hw _ (List.mem_of_getElem? (i := 27) rfl))) (ty := .int) (by decide)
    refine own_stepW (fun t k => st1 _ k) ?_
    have K2 : Keep h0 h1 [] := (Keep.refl h0 []).ext E1
    show own_EndsW p.tables e below s _ _ _ (T1.setTop (mkF m 41 #[.val (.int x0_0), .val (.int x1_0), .val (.int x2_0), .val (.int x3_0), .val (.int x4_0), .val (.int l2), .val (.int c2), .unset, .unset, .unset, .unset, .unset, .unset, .unset, .unset] [(.ref b1)]))
    refine own_stepW (fun t k => XS.dup X1.here hx rfl (hb hby at_41) rfl rfl k) ?_
    show own_EndsW p.tables e below s _ _ _ (T1.setTop (mkF m 42 #[.val (.int x0_0), .val (.int x1_0), .val (.int x2_0), .val (.int x3_0), .val (.int x4_0), .val (.int l2), .val (.int c2), .unset, .unset, .unset, .unset, .unset, .unset, .unset, .unset] [(.ref b1), (.ref b1)]))
    have O3 : Old Z n0 h1 := (O0.ext E1)
    have hS0 := (State.WarmedH.refl s).since 0
    obtain ⟨a4, T4, h4, k4, X4, e4, E4, hS4, hk4, hZ, hown, st4⟩ := ldcS (s := s) (vm0 := s.vm) X1 hx hZ hown (hw _ (List.mem_of_getElem? (i := 3) rfl)) (fun d hd => hw d (own_strAtoms d hd)) e1 hS0 (Nat.zero_le _) (g := (mkF m 42 #[.val (.int x0_0), .val (.int x1_0), .val (.int x2_0), .val (.int x3_0), .val (.int x4_0), .val (.int l2), .val (.int c2), .unset, .unset, .unset, .unset, .unset, .unset, .unset, .unset] [(.ref b1), (.ref b1)])) rfl (hb hby at_42) (n := 4) (by decide) (by decide) (by decide) (by decide)
    refine own_stepW (fun t k => st4 _ k) ?_
    have K5 : Keep h0 h4 [] := K2.ext E4
    show own_EndsW p.tables e below s _ _ _ (T4.setTop (mkF m 44 #[.val (.int x0_0), .val (.int x1_0), .val (.int x2_0), .val (.int x3_0), .val (.int x4_0), .val (.int l2), .val (.int c2), .unset, .unset, .unset, .unset, .unset, .unset, .unset, .unset] [(.ref a4), (.ref b1), (.ref b1)]))
    refine own_stepW (fun t k => XS.iloadN X4.here hx rfl (hb hby at_44) rfl k) ?_
    show own_EndsW p.tables e below s _ _ _ (T4.setTop (mkF m 45 #[.val (.int x0_0), .val (.int x1_0), .val (.int x2_0), .val (.int x3_0), .val (.int x4_0), .val (.int l2), .val (.int c2), .unset, .unset, .unset, .unset, .unset, .unset, .unset, .unset] [(.int x0_0), (.ref a4), (.ref b1), (.ref b1)]))
    refine own_stepW (fun t k => XS.iloadN X4.here hx rfl (hb hby at_45) rfl k) ?_
    show own_EndsW p.tables e below s _ _ _ (T4.setTop (mkF m 46 #[.val (.int x0_0), .val (.int x1_0), .val (.int x2_0), .val (.int x3_0), .val (.int x4_0), .val (.int l2), .val (.int c2), .unset, .unset, .unset, .unset, .unset, .unset, .unset, .unset] [(.int x1_0), (.int x0_0), (.ref a4), (.ref b1), (.ref b1)]))
    have F6 : Exa Z h4 b1 "com/example/idlect/idlect/core/Location" := (A1.ext E4)
    have F7 : Fld Z h4 b1 "com/example/idlect/idlect/core/Location" "file" "Ljava/lang/String;" .null := (F1_file.ext E4)
    have F8 : Fld Z h4 b1 "com/example/idlect/idlect/core/Location" "line" "I" (.int (0 : Int32)) := (F1_line.ext E4)
    have F9 : Fld Z h4 b1 "com/example/idlect/idlect/core/Location" "column" "I" (.int (0 : Int32)) := (F1_column.ext E4)
    have O10 : Old Z n0 h4 := (O3.ext E4)
    obtain ⟨_, _, ⟨T11, L11, k11, n11⟩, -, X11, ⟨Lc11, hQ11, l11, y11, z11⟩, st11⟩ := X4.specialBack hx (y := (⟨"com/example/idlect/idlect/core/Location", "<init>", "(Ljava/lang/String;II)V"⟩ : MethodName)) rfl hown (mvT hZ (hw _ (List.mem_of_getElem? (i := 11) rfl))) (mvT hZ (hw _ (List.mem_of_getElem? (i := 12) rfl))) (mvT hZ (hw _ (List.mem_of_getElem? (i := 13) rfl))) (by decide) (backOf (W := 1) (rm1 l Z a0 hw [] b1 a4 x0_0 x1_0 .null (.int (0 : Int32)) (.int (0 : Int32)) h4 n0 O10 F6 F7 g_b1 F8 F9) hZ (hw _ (List.mem_of_getElem? (i := 13) rfl)) (hw _ (List.mem_of_getElem? (i := 2) rfl)) (by decide) (by decide)) (g := (mkF m 46 #[.val (.int x0_0), .val (.int x1_0), .val (.int x2_0), .val (.int x3_0), .val (.int x4_0), .val (.int l2), .val (.int c2), .unset, .unset, .unset, .unset, .unset, .unset, .unset, .unset] [(.int x1_0), (.int x0_0), (.ref a4), (.ref b1), (.ref b1)])) rfl (by rw [hml]; rfl) (Steps.refl _) (a := b1) (argsL := [(.ref a4), (.int x0_0), (.int x1_0)]) (rest := [(.ref b1)]) (lenOf pd_1 rfl) rfl (by show 2 * 0 + _ ≤ _; exact Nat.le_of_eq rfl) (hb hby at_46) (fun _ _ => ⟨rfl, e4, (by decide : 3 + 0 ≤ _), (by decide : 11 + 0 ≤ _)⟩)
    dsimp only [Pt.U, Pt.locs, Pt.cells, Pt.slots] at X11 l11 y11 z11 st11 hQ11
    subst l11 y11 z11
    obtain ⟨rfl, N11q, K11q, p11_0, p11_1, p11_2, p11_3⟩ := hQ11
    refine own_stepW (fun t k => st11.trans k) ?_
    have N12 := Fr.app N0 N11q
    have K13 : Keep h0 T11.heap [] := K5.trans K11q (allS (Or.inr sz_b1) all0)
    show own_EndsW p.tables e below s _ _ _ (T11.setTop (mkF m 49 #[.val (.int x0_0), .val (.int x1_0), .val (.int x2_0), .val (.int x3_0), .val (.int x4_0), .val (.int l2), .val (.int c2), .unset, .unset, .unset, .unset, .unset, .unset, .unset, .unset] [(.ref b1)]))
    refine own_stepW (fun t k => XS.astore X11.here hx rfl (hb hby at_49) rfl rfl (l' := #[.val (.int x0_0), .val (.int x1_0), .val (.int x2_0), .val (.int x3_0), .val (.int x4_0), .val (.int l2), .val (.int c2), .val (.ref b1), .unset, .unset, .unset, .unset, .unset, .unset, .unset]) rfl k) ?_
    show own_EndsW p.tables e below s _ _ _ (T11.setTop (mkF m 51 #[.val (.int x0_0), .val (.int x1_0), .val (.int x2_0), .val (.int x3_0), .val (.int x4_0), .val (.int l2), .val (.int c2), .val (.ref b1), .unset, .unset, .unset, .unset, .unset, .unset, .unset] []))
    have O14 : Old Z n0 T11.heap := (O10.keep K11q (allS g_b1 all0))
    obtain ⟨T15, h15, X15, e15, E15, A15, D15, -, st15⟩ := newO X11 hx hZ hown (hw _ (List.mem_of_getElem? (i := 0) rfl)) (hw _ (List.mem_of_getElem? (i := 1) rfl)) (hw _ (List.mem_of_getElem? (i := 2) rfl)) rfl (g := (mkF m 51 #[.val (.int x0_0), .val (.int x1_0), .val (.int x2_0), .val (.int x3_0), .val (.int x4_0), .val (.int l2), .val (.int c2), .val (.ref b1), .unset, .unset, .unset, .unset, .unset, .unset, .unset] [])) rfl (hb hby at_51) (by decide) (by decide)
    obtain ⟨b15, g15⟩ : ∃ z, z = T11.heap.size := ⟨_, rfl⟩
    rw [← g15] at A15 D15 st15
    have g_b15 : n0 ≤ b15 := Nat.le_trans (Nat.le_trans (Nat.le_of_eq O14.1.symm) O14.2.1) (Nat.le_of_eq g15.symm)
    have sz_b15 : h0.size ≤ b15 := Nat.le_trans K13.1 (Nat.le_of_eq g15.symm)
    have ne_b1_b15 : b1 ≠ b15 := Nat.ne_of_lt (Nat.lt_of_lt_of_le p11_0.lt (Nat.le_of_eq g15.symm))
    have F15_file : Fld Z h15 b15 "com/example/idlect/idlect/core/Location" "file" "Ljava/lang/String;" .null := D15 (Or.inr (hw _ (List.mem_of_getElem? (i := 23) rfl))) (ty := (.object "java/lang/String")) (by decide)
    have F15_line : Fld Z h15 b15 "com/example/idlect/idlect/core/Location" "line" "I" (.int (0 : Int32)) := D15 (Or.inr (hw _ (List.mem_of_getElem? (i := 25) rfl))) (ty := .int) (by decide)
    have F15_column : Fld Z h15 b15 "com/example/idlect/idlect/core/Location" "column" "I" (.int (0 : Int32)) := D15 (Or.inr (hw _ (List.mem_of_getElem? (i := 27) rfl))) (ty := .int) (by decide)
    refine own_stepW (fun t k => st15 _ k) ?_
    have K16 : Keep h0 h15 [] := K13.ext E15
    show own_EndsW p.tables e below s _ _ _ (T15.setTop (mkF m 54 #[.val (.int x0_0), .val (.int x1_0), .val (.int x2_0), .val (.int x3_0), .val (.int x4_0), .val (.int l2), .val (.int c2), .val (.ref b1), .unset, .unset, .unset, .unset, .unset, .unset, .unset] [(.ref b15)]))
    refine own_stepW (fun t k => XS.dup X15.here hx rfl (hb hby at_54) rfl rfl k) ?_
    show own_EndsW p.tables e below s _ _ _ (T15.setTop (mkF m 55 #[.val (.int x0_0), .val (.int x1_0), .val (.int x2_0), .val (.int x3_0), .val (.int x4_0), .val (.int l2), .val (.int c2), .val (.ref b1), .unset, .unset, .unset, .unset, .unset, .unset, .unset] [(.ref b15), (.ref b15)]))
    have O17 : Old Z n0 h15 := (O14.ext E15)
    obtain ⟨a18, T18, h18, k18, X18, e18, E18, hS18, hk18, hZ, hown, st18⟩ := ldcS (s := s) (vm0 := T4.vm) X15 hx hZ hown (hw _ (List.mem_of_getElem? (i := 3) rfl)) (fun d hd => hw d (own_strAtoms d hd)) e15 hS4 (Nat.le_trans (Nat.le_trans hk4 K11q.1) E15.1) (g := (mkF m 55 #[.val (.int x0_0), .val (.int x1_0), .val (.int x2_0), .val (.int x3_0), .val (.int x4_0), .val (.int l2), .val (.int c2), .val (.ref b1), .unset, .unset, .unset, .unset, .unset, .unset, .unset] [(.ref b15), (.ref b15)])) rfl (hb hby at_55) (n := 4) (by decide) (by decide) (by decide) (by decide)
    refine own_stepW (fun t k => st18 _ k) ?_
    have K19 : Keep h0 h18 [] := K16.ext E18
    show own_EndsW p.tables e below s _ _ _ (T18.setTop (mkF m 57 #[.val (.int x0_0), .val (.int x1_0), .val (.int x2_0), .val (.int x3_0), .val (.int x4_0), .val (.int l2), .val (.int c2), .val (.ref b1), .unset, .unset, .unset, .unset, .unset, .unset, .unset] [(.ref a18), (.ref b15), (.ref b15)]))
    refine own_stepW (fun t k => XS.iload X18.here hx rfl (hb hby at_57) rfl k) ?_
    show own_EndsW p.tables e below s _ _ _ (T18.setTop (mkF m 59 #[.val (.int x0_0), .val (.int x1_0), .val (.int x2_0), .val (.int x3_0), .val (.int x4_0), .val (.int l2), .val (.int c2), .val (.ref b1), .unset, .unset, .unset, .unset, .unset, .unset, .unset] [(.int l2), (.ref a18), (.ref b15), (.ref b15)]))
    refine own_stepW (fun t k => XS.iload X18.here hx rfl (hb hby at_59) rfl k) ?_
    show own_EndsW p.tables e below s _ _ _ (T18.setTop (mkF m 61 #[.val (.int x0_0), .val (.int x1_0), .val (.int x2_0), .val (.int x3_0), .val (.int x4_0), .val (.int l2), .val (.int c2), .val (.ref b1), .unset, .unset, .unset, .unset, .unset, .unset, .unset] [(.int c2), (.int l2), (.ref a18), (.ref b15), (.ref b15)]))
    have F20 : Exa Z h18 b15 "com/example/idlect/idlect/core/Location" := (A15.ext E18)
    have F21 : Fld Z h18 b15 "com/example/idlect/idlect/core/Location" "file" "Ljava/lang/String;" .null := (F15_file.ext E18)
    have F22 : Fld Z h18 b15 "com/example/idlect/idlect/core/Location" "line" "I" (.int (0 : Int32)) := (F15_line.ext E18)
    have F23 : Fld Z h18 b15 "com/example/idlect/idlect/core/Location" "column" "I" (.int (0 : Int32)) := (F15_column.ext E18)
    have O24 : Old Z n0 h18 := (O17.ext E18)
    obtain ⟨_, _, ⟨T25, L25, k25, n25⟩, -, X25, ⟨Lc25, hQ25, l25, y25, z25⟩, st25⟩ := X18.specialBack hx (y := (⟨"com/example/idlect/idlect/core/Location", "<init>", "(Ljava/lang/String;II)V"⟩ : MethodName)) rfl hown (mvT hZ (hw _ (List.mem_of_getElem? (i := 11) rfl))) (mvT hZ (hw _ (List.mem_of_getElem? (i := 12) rfl))) (mvT hZ (hw _ (List.mem_of_getElem? (i := 13) rfl))) (by decide) (backOf (W := 1) (rm1 l Z a0 hw [] b15 a18 l2 c2 .null (.int (0 : Int32)) (.int (0 : Int32)) h18 n0 O24 F20 F21 g_b15 F22 F23) hZ (hw _ (List.mem_of_getElem? (i := 13) rfl)) (hw _ (List.mem_of_getElem? (i := 2) rfl)) (by decide) (by decide)) (g := (mkF m 61 #[.val (.int x0_0), .val (.int x1_0), .val (.int x2_0), .val (.int x3_0), .val (.int x4_0), .val (.int l2), .val (.int c2), .val (.ref b1), .unset, .unset, .unset, .unset, .unset, .unset, .unset] [(.int c2), (.int l2), (.ref a18), (.ref b15), (.ref b15)])) rfl (by rw [hml]; rfl) (Steps.refl _) (a := b15) (argsL := [(.ref a18), (.int l2), (.int c2)]) (rest := [(.ref b15)]) (lenOf pd_1 rfl) rfl (by show 2 * 0 + _ ≤ _; exact Nat.le_of_eq rfl) (hb hby at_61) (fun _ _ => ⟨rfl, e18, (by decide : 6 + 0 ≤ _), (by decide : 22 + 0 ≤ _)⟩)
    dsimp only [Pt.U, Pt.locs, Pt.cells, Pt.slots] at X25 l25 y25 z25 st25 hQ25
    subst l25 y25 z25
    obtain ⟨rfl, N25q, K25q, p25_0, p25_1, p25_2, p25_3⟩ := hQ25
    refine own_stepW (fun t k => st25.trans k) ?_
    have N26 := Fr.app N12 N25q
    have K27 : Keep h0 T25.heap [] := K19.trans K25q (allS (Or.inr sz_b15) all0)
    show own_EndsW p.tables e below s _ _ _ (T25.setTop (mkF m 64 #[.val (.int x0_0), .val (.int x1_0), .val (.int x2_0), .val (.int x3_0), .val (.int x4_0), .val (.int l2), .val (.int c2), .val (.ref b1), .unset, .unset, .unset, .unset, .unset, .unset, .unset] [(.ref b15)]))
    refine own_stepW (fun t k => XS.astore X25.here hx rfl (hb hby at_64) rfl rfl (l' := #[.val (.int x0_0), .val (.int x1_0), .val (.int x2_0), .val (.int x3_0), .val (.int x4_0), .val (.int l2), .val (.int c2), .val (.ref b1), .val (.ref b15), .unset, .unset, .unset, .unset, .unset, .unset]) rfl k) ?_
    show own_EndsW p.tables e below s _ _ _ (T25.setTop (mkF m 66 #[.val (.int x0_0), .val (.int x1_0), .val (.int x2_0), .val (.int x3_0), .val (.int x4_0), .val (.int l2), .val (.int c2), .val (.ref b1), .val (.ref b15), .unset, .unset, .unset, .unset, .unset, .unset] []))
    refine own_stepW (fun t k => XS.iloadN X25.here hx rfl (hb hby at_66) rfl k) ?_
    show own_EndsW p.tables e below s _ _ _ (T25.setTop (mkF m 67 #[.val (.int x0_0), .val (.int x1_0), .val (.int x2_0), .val (.int x3_0), .val (.int x4_0), .val (.int l2), .val (.int c2), .val (.ref b1), .val (.ref b15), .unset, .unset, .unset, .unset, .unset, .unset] [(.int x0_0)]))
    refine own_stepW (fun t k => XS.iloadN X25.here hx rfl (hb hby at_67) rfl k) ?_
    show own_EndsW p.tables e below s _ _ _ (T25.setTop (mkF m 68 #[.val (.int x0_0), .val (.int x1_0), .val (.int x2_0), .val (.int x3_0), .val (.int x4_0), .val (.int l2), .val (.int c2), .val (.ref b1), .val (.ref b15), .unset, .unset, .unset, .unset, .unset, .unset] [(.int x1_0), (.int x0_0)]))
    have O28 : Old Z n0 T25.heap := (O24.keep K25q (allS g_b15 all0))
    obtain ⟨_, _, ⟨T29, L29, k29, n29⟩, -, X29, ⟨Lc29, hQ29, l29, y29, z29⟩, st29⟩ := Jvm.LawKit.callS X25 hx (y := (⟨"com/example/idlect/idlect/core/LocationPrecedesPinLaw", "key", "(II)J"⟩ : MethodName)) hown (mvT hZ (hw _ (List.mem_of_getElem? (i := 28) rfl))) (mvT hZ (hw _ (List.mem_of_getElem? (i := 29) rfl))) (mvT hZ (hw _ (List.mem_of_getElem? (i := 30) rfl))) (mvT hZ (hw _ (List.mem_of_getElem? (i := 31) rfl))) (by decide) (backOf (W := 0) (rm4 l Z a0 hw [] x0_0 x1_0 T25.heap n0 O28 ) hZ (hw _ (List.mem_of_getElem? (i := 31) rfl)) (hw _ (List.mem_of_getElem? (i := 30) rfl)) (by decide) (by decide)) (g := (mkF m 68 #[.val (.int x0_0), .val (.int x1_0), .val (.int x2_0), .val (.int x3_0), .val (.int x4_0), .val (.int l2), .val (.int c2), .val (.ref b1), .val (.ref b15), .unset, .unset, .unset, .unset, .unset, .unset] [(.int x1_0), (.int x0_0)])) rfl (by rw [hml]; rfl) (argsL := [(.int x0_0), (.int x1_0)]) (rest := []) (lenOf pd_2 rfl) rfl (by show 2 * 0 + _ ≤ _; exact Nat.le_of_eq rfl) (hb hby at_68) (fun _ _ => ⟨rfl, rfl, (by decide : 6 + 0 ≤ _), (by decide : 22 + 0 ≤ _)⟩)
    dsimp only [Pt.U, Pt.locs, Pt.cells, Pt.slots] at X29 l29 y29 z29 st29 hQ29
    subst l29 y29 z29
    obtain ⟨rfl, N29q, e29⟩ := hQ29
    refine own_stepW (fun t k => st29 _ k) ?_
    have N30 := Fr.app N26 N29q
    show own_EndsW p.tables e below s _ _ _ (T29.setTop (mkF m 71 #[.val (.int x0_0), .val (.int x1_0), .val (.int x2_0), .val (.int x3_0), .val (.int x4_0), .val (.int l2), .val (.int c2), .val (.ref b1), .val (.ref b15), .unset, .unset, .unset, .unset, .unset, .unset] [(.long (((x0_0.toInt64) * (4294967296 : Int64)) + ((x1_0.toInt64) - (-2147483648 : Int64))))]))
    refine own_stepW (fun t k => XS.lstore X29.here hx rfl (hb hby at_71) rfl (l' := #[.val (.int x0_0), .val (.int x1_0), .val (.int x2_0), .val (.int x3_0), .val (.int x4_0), .val (.int l2), .val (.int c2), .val (.ref b1), .val (.ref b15), .val (.long (((x0_0.toInt64) * (4294967296 : Int64)) + ((x1_0.toInt64) - (-2147483648 : Int64)))), .second, .unset, .unset, .unset, .unset]) rfl k) ?_
    show own_EndsW p.tables e below s _ _ _ (T29.setTop (mkF m 73 #[.val (.int x0_0), .val (.int x1_0), .val (.int x2_0), .val (.int x3_0), .val (.int x4_0), .val (.int l2), .val (.int c2), .val (.ref b1), .val (.ref b15), .val (.long (((x0_0.toInt64) * (4294967296 : Int64)) + ((x1_0.toInt64) - (-2147483648 : Int64)))), .second, .unset, .unset, .unset, .unset] []))
    refine own_stepW (fun t k => XS.iload X29.here hx rfl (hb hby at_73) rfl k) ?_
    show own_EndsW p.tables e below s _ _ _ (T29.setTop (mkF m 75 #[.val (.int x0_0), .val (.int x1_0), .val (.int x2_0), .val (.int x3_0), .val (.int x4_0), .val (.int l2), .val (.int c2), .val (.ref b1), .val (.ref b15), .val (.long (((x0_0.toInt64) * (4294967296 : Int64)) + ((x1_0.toInt64) - (-2147483648 : Int64)))), .second, .unset, .unset, .unset, .unset] [(.int l2)]))
    refine own_stepW (fun t k => XS.iload X29.here hx rfl (hb hby at_75) rfl k) ?_
    show own_EndsW p.tables e below s _ _ _ (T29.setTop (mkF m 77 #[.val (.int x0_0), .val (.int x1_0), .val (.int x2_0), .val (.int x3_0), .val (.int x4_0), .val (.int l2), .val (.int c2), .val (.ref b1), .val (.ref b15), .val (.long (((x0_0.toInt64) * (4294967296 : Int64)) + ((x1_0.toInt64) - (-2147483648 : Int64)))), .second, .unset, .unset, .unset, .unset] [(.int c2), (.int l2)]))
    obtain ⟨_, _, ⟨T31, L31, k31, n31⟩, -, X31, ⟨Lc31, hQ31, l31, y31, z31⟩, st31⟩ := Jvm.LawKit.callS X29 hx (y := (⟨"com/example/idlect/idlect/core/LocationPrecedesPinLaw", "key", "(II)J"⟩ : MethodName)) hown (mvT hZ (hw _ (List.mem_of_getElem? (i := 28) rfl))) (mvT hZ (hw _ (List.mem_of_getElem? (i := 29) rfl))) (mvT hZ (hw _ (List.mem_of_getElem? (i := 30) rfl))) (mvT hZ (hw _ (List.mem_of_getElem? (i := 31) rfl))) (by decide) (backOf (W := 0) (rm4 l Z a0 hw [] l2 c2 T25.heap n0 O28 ) hZ (hw _ (List.mem_of_getElem? (i := 31) rfl)) (hw _ (List.mem_of_getElem? (i := 30) rfl)) (by decide) (by decide)) (g := (mkF m 77 #[.val (.int x0_0), .val (.int x1_0), .val (.int x2_0), .val (.int x3_0), .val (.int x4_0), .val (.int l2), .val (.int c2), .val (.ref b1), .val (.ref b15), .val (.long (((x0_0.toInt64) * (4294967296 : Int64)) + ((x1_0.toInt64) - (-2147483648 : Int64)))), .second, .unset, .unset, .unset, .unset] [(.int c2), (.int l2)])) rfl (by rw [hml]; rfl) (argsL := [(.int l2), (.int c2)]) (rest := []) (lenOf pd_2 rfl) rfl (by show 2 * 0 + _ ≤ _; exact Nat.le_of_eq rfl) (hb hby at_77) (fun _ _ => ⟨rfl, e29, (by decide : 6 + 0 ≤ _), (by decide : 22 + 0 ≤ _)⟩)
    dsimp only [Pt.U, Pt.locs, Pt.cells, Pt.slots] at X31 l31 y31 z31 st31 hQ31
    subst l31 y31 z31
    obtain ⟨rfl, N31q, e31⟩ := hQ31
    refine own_stepW (fun t k => st31 _ k) ?_
    have N32 := Fr.app N30 N31q
    show own_EndsW p.tables e below s _ _ _ (T31.setTop (mkF m 80 #[.val (.int x0_0), .val (.int x1_0), .val (.int x2_0), .val (.int x3_0), .val (.int x4_0), .val (.int l2), .val (.int c2), .val (.ref b1), .val (.ref b15), .val (.long (((x0_0.toInt64) * (4294967296 : Int64)) + ((x1_0.toInt64) - (-2147483648 : Int64)))), .second, .unset, .unset, .unset, .unset] [(.long (((l2.toInt64) * (4294967296 : Int64)) + ((c2.toInt64) - (-2147483648 : Int64))))]))
    refine own_stepW (fun t k => XS.lstore X31.here hx rfl (hb hby at_80) rfl (l' := #[.val (.int x0_0), .val (.int x1_0), .val (.int x2_0), .val (.int x3_0), .val (.int x4_0), .val (.int l2), .val (.int c2), .val (.ref b1), .val (.ref b15), .val (.long (((x0_0.toInt64) * (4294967296 : Int64)) + ((x1_0.toInt64) - (-2147483648 : Int64)))), .second, .val (.long (((l2.toInt64) * (4294967296 : Int64)) + ((c2.toInt64) - (-2147483648 : Int64)))), .second, .unset, .unset]) rfl k) ?_
    show own_EndsW p.tables e below s _ _ _ (T31.setTop (mkF m 82 #[.val (.int x0_0), .val (.int x1_0), .val (.int x2_0), .val (.int x3_0), .val (.int x4_0), .val (.int l2), .val (.int c2), .val (.ref b1), .val (.ref b15), .val (.long (((x0_0.toInt64) * (4294967296 : Int64)) + ((x1_0.toInt64) - (-2147483648 : Int64)))), .second, .val (.long (((l2.toInt64) * (4294967296 : Int64)) + ((c2.toInt64) - (-2147483648 : Int64)))), .second, .unset, .unset] []))
    refine own_stepW (fun t k => XS.aload X31.here hx rfl (hb hby at_82) rfl rfl k) ?_
    show own_EndsW p.tables e below s _ _ _ (T31.setTop (mkF m 84 #[.val (.int x0_0), .val (.int x1_0), .val (.int x2_0), .val (.int x3_0), .val (.int x4_0), .val (.int l2), .val (.int c2), .val (.ref b1), .val (.ref b15), .val (.long (((x0_0.toInt64) * (4294967296 : Int64)) + ((x1_0.toInt64) - (-2147483648 : Int64)))), .second, .val (.long (((l2.toInt64) * (4294967296 : Int64)) + ((c2.toInt64) - (-2147483648 : Int64)))), .second, .unset, .unset] [(.ref b1)]))
    refine own_stepW (fun t k => XS.aload X31.here hx rfl (hb hby at_84) rfl rfl k) ?_
    show own_EndsW p.tables e below s _ _ _ (T31.setTop (mkF m 86 #[.val (.int x0_0), .val (.int x1_0), .val (.int x2_0), .val (.int x3_0), .val (.int x4_0), .val (.int l2), .val (.int c2), .val (.ref b1), .val (.ref b15), .val (.long (((x0_0.toInt64) * (4294967296 : Int64)) + ((x1_0.toInt64) - (-2147483648 : Int64)))), .second, .val (.long (((l2.toInt64) * (4294967296 : Int64)) + ((c2.toInt64) - (-2147483648 : Int64)))), .second, .unset, .unset] [(.ref b15), (.ref b1)]))
    have F33 : Fld Z T25.heap b1 "com/example/idlect/idlect/core/Location" "line" "I" (.int x0_0) := (((p11_2.ext E15).ext E18).keep K25q (ninS ne_b1_b15 nin0))
    have F34 : Fld Z T25.heap b1 "com/example/idlect/idlect/core/Location" "column" "I" (.int x1_0) := (((p11_3.ext E15).ext E18).keep K25q (ninS ne_b1_b15 nin0))
    have F36 : Exa Z T25.heap b1 "com/example/idlect/idlect/core/Location" := (((p11_0.ext E15).ext E18).keep K25q)
    obtain ⟨cq35, kq35, q35a, q35b, q35c⟩ := isOf hZ e31 F36
    obtain ⟨_, _, ⟨T35, L35, k35, n35⟩, -, X35, ⟨Lc35, hQ35, l35, y35, z35⟩, st35⟩ := X31.virtualBack hx (y := (⟨"com/example/idlect/idlect/core/Location", "precedes", "(Lcom/example/idlect/idlect/core/Location;)Z"⟩ : MethodName)) (z := (⟨"com/example/idlect/idlect/core/Location", "precedes", "(Lcom/example/idlect/idlect/core/Location;)Z"⟩ : MethodName)) hown (mvT hZ (hw _ (List.mem_of_getElem? (i := 34) rfl))) (mvT hZ (hw _ (List.mem_of_getElem? (i := 35) rfl))) (notFace_of_selects (args := #[]) (mvT hZ (hw _ (List.mem_of_getElem? (i := 37) rfl)))) (mvT hZ (hw _ (List.mem_of_getElem? (i := 37) rfl))) (mvT hZ (hw _ (List.mem_of_getElem? (i := 36) rfl))) (by decide) (backOf (W := 0) (rm5 l Z a0 hw [] b1 b15 x0_0 l2 x1_0 c2 T25.heap n0 O28 F33 p25_2 F34 p25_3) hZ (hw _ (List.mem_of_getElem? (i := 38) rfl)) (hw _ (List.mem_of_getElem? (i := 2) rfl)) (by decide) (by decide)) q35a q35c (g := (mkF m 86 #[.val (.int x0_0), .val (.int x1_0), .val (.int x2_0), .val (.int x3_0), .val (.int x4_0), .val (.int l2), .val (.int c2), .val (.ref b1), .val (.ref b15), .val (.long (((x0_0.toInt64) * (4294967296 : Int64)) + ((x1_0.toInt64) - (-2147483648 : Int64)))), .second, .val (.long (((l2.toInt64) * (4294967296 : Int64)) + ((c2.toInt64) - (-2147483648 : Int64)))), .second, .unset, .unset] [(.ref b15), (.ref b1)])) rfl (by rw [hml]; rfl) (Steps.refl _) (argsL := [(.ref b15)]) (rest := []) (lenOf pd_3 rfl) rfl (by show 2 * 0 + _ ≤ _; exact Nat.le_of_eq rfl) (hb hby at_86) (fun _ _ => ⟨rfl, e31, (by decide : 6 + 0 ≤ _), (by decide : 22 + 0 ≤ _)⟩)
    dsimp only [Pt.U, Pt.locs, Pt.cells, Pt.slots] at X35 l35 y35 z35 st35 hQ35
    subst l35 y35 z35
    obtain ⟨rfl, N35q, e35⟩ := hQ35
    refine own_stepW (fun t k => st35.trans k) ?_
    have N37 := Fr.app N32 N35q
    show own_EndsW p.tables e below s _ _ _ (T35.setTop (mkF m 89 #[.val (.int x0_0), .val (.int x1_0), .val (.int x2_0), .val (.int x3_0), .val (.int x4_0), .val (.int l2), .val (.int c2), .val (.ref b1), .val (.ref b15), .val (.long (((x0_0.toInt64) * (4294967296 : Int64)) + ((x1_0.toInt64) - (-2147483648 : Int64)))), .second, .val (.long (((l2.toInt64) * (4294967296 : Int64)) + ((c2.toInt64) - (-2147483648 : Int64)))), .second, .unset, .unset] [(.int (own_r5 x0_0 l2 x1_0 c2))]))
    refine own_stepW (fun t k => XS.istore X35.here hx rfl (hb hby at_89) rfl (l' := #[.val (.int x0_0), .val (.int x1_0), .val (.int x2_0), .val (.int x3_0), .val (.int x4_0), .val (.int l2), .val (.int c2), .val (.ref b1), .val (.ref b15), .val (.long (((x0_0.toInt64) * (4294967296 : Int64)) + ((x1_0.toInt64) - (-2147483648 : Int64)))), .second, .val (.long (((l2.toInt64) * (4294967296 : Int64)) + ((c2.toInt64) - (-2147483648 : Int64)))), .second, .val (.int (own_r5 x0_0 l2 x1_0 c2)), .unset]) rfl k) ?_
    show own_EndsW p.tables e below s _ _ _ (T35.setTop (mkF m 91 #[.val (.int x0_0), .val (.int x1_0), .val (.int x2_0), .val (.int x3_0), .val (.int x4_0), .val (.int l2), .val (.int c2), .val (.ref b1), .val (.ref b15), .val (.long (((x0_0.toInt64) * (4294967296 : Int64)) + ((x1_0.toInt64) - (-2147483648 : Int64)))), .second, .val (.long (((l2.toInt64) * (4294967296 : Int64)) + ((c2.toInt64) - (-2147483648 : Int64)))), .second, .val (.int (own_r5 x0_0 l2 x1_0 c2)), .unset] []))
    refine own_stepW (fun t k => XS.aload X35.here hx rfl (hb hby at_91) rfl rfl k) ?_
    show own_EndsW p.tables e below s _ _ _ (T35.setTop (mkF m 93 #[.val (.int x0_0), .val (.int x1_0), .val (.int x2_0), .val (.int x3_0), .val (.int x4_0), .val (.int l2), .val (.int c2), .val (.ref b1), .val (.ref b15), .val (.long (((x0_0.toInt64) * (4294967296 : Int64)) + ((x1_0.toInt64) - (-2147483648 : Int64)))), .second, .val (.long (((l2.toInt64) * (4294967296 : Int64)) + ((c2.toInt64) - (-2147483648 : Int64)))), .second, .val (.int (own_r5 x0_0 l2 x1_0 c2)), .unset] [(.ref b15)]))
    refine own_stepW (fun t k => XS.aload X35.here hx rfl (hb hby at_93) rfl rfl k) ?_
    show own_EndsW p.tables e below s _ _ _ (T35.setTop (mkF m 95 #[.val (.int x0_0), .val (.int x1_0), .val (.int x2_0), .val (.int x3_0), .val (.int x4_0), .val (.int l2), .val (.int c2), .val (.ref b1), .val (.ref b15), .val (.long (((x0_0.toInt64) * (4294967296 : Int64)) + ((x1_0.toInt64) - (-2147483648 : Int64)))), .second, .val (.long (((l2.toInt64) * (4294967296 : Int64)) + ((c2.toInt64) - (-2147483648 : Int64)))), .second, .val (.int (own_r5 x0_0 l2 x1_0 c2)), .unset] [(.ref b1), (.ref b15)]))
    obtain ⟨cq38, kq38, q38a, q38b, q38c⟩ := isOf hZ e35 p25_0
    obtain ⟨_, _, ⟨T38, L38, k38, n38⟩, -, X38, ⟨Lc38, hQ38, l38, y38, z38⟩, st38⟩ := X35.virtualBack hx (y := (⟨"com/example/idlect/idlect/core/Location", "precedes", "(Lcom/example/idlect/idlect/core/Location;)Z"⟩ : MethodName)) (z := (⟨"com/example/idlect/idlect/core/Location", "precedes", "(Lcom/example/idlect/idlect/core/Location;)Z"⟩ : MethodName)) hown (mvT hZ (hw _ (List.mem_of_getElem? (i := 34) rfl))) (mvT hZ (hw _ (List.mem_of_getElem? (i := 35) rfl))) (notFace_of_selects (args := #[]) (mvT hZ (hw _ (List.mem_of_getElem? (i := 37) rfl)))) (mvT hZ (hw _ (List.mem_of_getElem? (i := 37) rfl))) (mvT hZ (hw _ (List.mem_of_getElem? (i := 36) rfl))) (by decide) (backOf (W := 0) (rm5 l Z a0 hw [] b15 b1 l2 x0_0 c2 x1_0 T25.heap n0 O28 p25_2 F33 p25_3 F34) hZ (hw _ (List.mem_of_getElem? (i := 38) rfl)) (hw _ (List.mem_of_getElem? (i := 2) rfl)) (by decide) (by decide)) q38a q38c (g := (mkF m 95 #[.val (.int x0_0), .val (.int x1_0), .val (.int x2_0), .val (.int x3_0), .val (.int x4_0), .val (.int l2), .val (.int c2), .val (.ref b1), .val (.ref b15), .val (.long (((x0_0.toInt64) * (4294967296 : Int64)) + ((x1_0.toInt64) - (-2147483648 : Int64)))), .second, .val (.long (((l2.toInt64) * (4294967296 : Int64)) + ((c2.toInt64) - (-2147483648 : Int64)))), .second, .val (.int (own_r5 x0_0 l2 x1_0 c2)), .unset] [(.ref b1), (.ref b15)])) rfl (by rw [hml]; rfl) (Steps.refl _) (argsL := [(.ref b1)]) (rest := []) (lenOf pd_3 rfl) rfl (by show 2 * 0 + _ ≤ _; exact Nat.le_of_eq rfl) (hb hby at_95) (fun _ _ => ⟨rfl, e35, (by decide : 6 + 0 ≤ _), (by decide : 22 + 0 ≤ _)⟩)
    dsimp only [Pt.U, Pt.locs, Pt.cells, Pt.slots] at X38 l38 y38 z38 st38 hQ38
    subst l38 y38 z38
    obtain ⟨rfl, N38q, e38⟩ := hQ38
    refine own_stepW (fun t k => st38.trans k) ?_
    have N39 := Fr.app N37 N38q
    show own_EndsW p.tables e below s _ _ _ (T38.setTop (mkF m 98 #[.val (.int x0_0), .val (.int x1_0), .val (.int x2_0), .val (.int x3_0), .val (.int x4_0), .val (.int l2), .val (.int c2), .val (.ref b1), .val (.ref b15), .val (.long (((x0_0.toInt64) * (4294967296 : Int64)) + ((x1_0.toInt64) - (-2147483648 : Int64)))), .second, .val (.long (((l2.toInt64) * (4294967296 : Int64)) + ((c2.toInt64) - (-2147483648 : Int64)))), .second, .val (.int (own_r5 x0_0 l2 x1_0 c2)), .unset] [(.int (own_r5 l2 x0_0 c2 x1_0))]))
    refine own_stepW (fun t k => XS.istore X38.here hx rfl (hb hby at_98) rfl (l' := #[.val (.int x0_0), .val (.int x1_0), .val (.int x2_0), .val (.int x3_0), .val (.int x4_0), .val (.int l2), .val (.int c2), .val (.ref b1), .val (.ref b15), .val (.long (((x0_0.toInt64) * (4294967296 : Int64)) + ((x1_0.toInt64) - (-2147483648 : Int64)))), .second, .val (.long (((l2.toInt64) * (4294967296 : Int64)) + ((c2.toInt64) - (-2147483648 : Int64)))), .second, .val (.int (own_r5 x0_0 l2 x1_0 c2)), .val (.int (own_r5 l2 x0_0 c2 x1_0))]) rfl k) ?_
    show own_EndsW p.tables e below s _ _ _ (T38.setTop (mkF m 100 #[.val (.int x0_0), .val (.int x1_0), .val (.int x2_0), .val (.int x3_0), .val (.int x4_0), .val (.int l2), .val (.int c2), .val (.ref b1), .val (.ref b15), .val (.long (((x0_0.toInt64) * (4294967296 : Int64)) + ((x1_0.toInt64) - (-2147483648 : Int64)))), .second, .val (.long (((l2.toInt64) * (4294967296 : Int64)) + ((c2.toInt64) - (-2147483648 : Int64)))), .second, .val (.int (own_r5 x0_0 l2 x1_0 c2)), .val (.int (own_r5 l2 x0_0 c2 x1_0))] []))
    refine own_stepW (fun t k => XS.iload X38.here hx rfl (hb hby at_100) rfl k) ?_
    show own_EndsW p.tables e below s _ _ _ (T38.setTop (mkF m 102 #[.val (.int x0_0), .val (.int x1_0), .val (.int x2_0), .val (.int x3_0), .val (.int x4_0), .val (.int l2), .val (.int c2), .val (.ref b1), .val (.ref b15), .val (.long (((x0_0.toInt64) * (4294967296 : Int64)) + ((x1_0.toInt64) - (-2147483648 : Int64)))), .second, .val (.long (((l2.toInt64) * (4294967296 : Int64)) + ((c2.toInt64) - (-2147483648 : Int64)))), .second, .val (.int (own_r5 x0_0 l2 x1_0 c2)), .val (.int (own_r5 l2 x0_0 c2 x1_0))] [(.int (own_r5 x0_0 l2 x1_0 c2))]))
    refine own_stepW (fun t k => XS.lload X38.here hx rfl (hb hby at_102) rfl k) ?_
    show own_EndsW p.tables e below s _ _ _ (T38.setTop (mkF m 104 #[.val (.int x0_0), .val (.int x1_0), .val (.int x2_0), .val (.int x3_0), .val (.int x4_0), .val (.int l2), .val (.int c2), .val (.ref b1), .val (.ref b15), .val (.long (((x0_0.toInt64) * (4294967296 : Int64)) + ((x1_0.toInt64) - (-2147483648 : Int64)))), .second, .val (.long (((l2.toInt64) * (4294967296 : Int64)) + ((c2.toInt64) - (-2147483648 : Int64)))), .second, .val (.int (own_r5 x0_0 l2 x1_0 c2)), .val (.int (own_r5 l2 x0_0 c2 x1_0))] [(.long (((x0_0.toInt64) * (4294967296 : Int64)) + ((x1_0.toInt64) - (-2147483648 : Int64)))), (.int (own_r5 x0_0 l2 x1_0 c2))]))
    refine own_stepW (fun t k => XS.lload X38.here hx rfl (hb hby at_104) rfl k) ?_
    show own_EndsW p.tables e below s _ _ _ (T38.setTop (mkF m 106 #[.val (.int x0_0), .val (.int x1_0), .val (.int x2_0), .val (.int x3_0), .val (.int x4_0), .val (.int l2), .val (.int c2), .val (.ref b1), .val (.ref b15), .val (.long (((x0_0.toInt64) * (4294967296 : Int64)) + ((x1_0.toInt64) - (-2147483648 : Int64)))), .second, .val (.long (((l2.toInt64) * (4294967296 : Int64)) + ((c2.toInt64) - (-2147483648 : Int64)))), .second, .val (.int (own_r5 x0_0 l2 x1_0 c2)), .val (.int (own_r5 l2 x0_0 c2 x1_0))] [(.long (((l2.toInt64) * (4294967296 : Int64)) + ((c2.toInt64) - (-2147483648 : Int64)))), (.long (((x0_0.toInt64) * (4294967296 : Int64)) + ((x1_0.toInt64) - (-2147483648 : Int64)))), (.int (own_r5 x0_0 l2 x1_0 c2))]))
    refine own_stepW (fun t k => XS.lcmp X38.here hx rfl (hb hby at_106) rfl k) ?_
    show own_EndsW p.tables e below s _ _ _ (T38.setTop (mkF m 107 #[.val (.int x0_0), .val (.int x1_0), .val (.int x2_0), .val (.int x3_0), .val (.int x4_0), .val (.int l2), .val (.int c2), .val (.ref b1), .val (.ref b15), .val (.long (((x0_0.toInt64) * (4294967296 : Int64)) + ((x1_0.toInt64) - (-2147483648 : Int64)))), .second, .val (.long (((l2.toInt64) * (4294967296 : Int64)) + ((c2.toInt64) - (-2147483648 : Int64)))), .second, .val (.int (own_r5 x0_0 l2 x1_0 c2)), .val (.int (own_r5 l2 x0_0 c2 x1_0))] [(.int (lcmpW (((x0_0.toInt64) * (4294967296 : Int64)) + ((x1_0.toInt64) - (-2147483648 : Int64))) (((l2.toInt64) * (4294967296 : Int64)) + ((c2.toInt64) - (-2147483648 : Int64))))), (.int (own_r5 x0_0 l2 x1_0 c2))]))
    by_cases hc107_40 : (lcmpW (((x0_0.toInt64) * (4294967296 : Int64)) + ((x1_0.toInt64) - (-2147483648 : Int64))) (((l2.toInt64) * (4294967296 : Int64)) + ((c2.toInt64) - (-2147483648 : Int64)))) < (0 : Int32)
    · skip
      refine own_stepW (fun t k => XS.ifNo X38.here hx rfl (hb hby at_107) rfl ((if0 _ _).trans (tlt hc107_40).2.1) k) ?_
      show own_EndsW p.tables e below s _ _ _ (T38.setTop (mkF m 110 #[.val (.int x0_0), .val (.int x1_0), .val (.int x2_0), .val (.int x3_0), .val (.int x4_0), .val (.int l2), .val (.int c2), .val (.ref b1), .val (.ref b15), .val (.long (((x0_0.toInt64) * (4294967296 : Int64)) + ((x1_0.toInt64) - (-2147483648 : Int64)))), .second, .val (.long (((l2.toInt64) * (4294967296 : Int64)) + ((c2.toInt64) - (-2147483648 : Int64)))), .second, .val (.int (own_r5 x0_0 l2 x1_0 c2)), .val (.int (own_r5 l2 x0_0 c2 x1_0))] [(.int (own_r5 x0_0 l2 x1_0 c2))]))
      refine own_stepW (fun t k => XS.iconst X38.here hx rfl (hb hby at_110) k) ?_
      show own_EndsW p.tables e below s _ _ _ (T38.setTop (mkF m 111 #[.val (.int x0_0), .val (.int x1_0), .val (.int x2_0), .val (.int x3_0), .val (.int x4_0), .val (.int l2), .val (.int c2), .val (.ref b1), .val (.ref b15), .val (.long (((x0_0.toInt64) * (4294967296 : Int64)) + ((x1_0.toInt64) - (-2147483648 : Int64)))), .second, .val (.long (((l2.toInt64) * (4294967296 : Int64)) + ((c2.toInt64) - (-2147483648 : Int64)))), .second, .val (.int (own_r5 x0_0 l2 x1_0 c2)), .val (.int (own_r5 l2 x0_0 c2 x1_0))] [(.int (1 : Int32)), (.int (own_r5 x0_0 l2 x1_0 c2))]))
      refine own_stepW (fun t k => XS.goto X38.here hx rfl (pc0 := 111) (pc' := 115) rfl (hb hby at_111) (by decide) (by decide) k) ?_
      show own_EndsW p.tables e below s _ _ _ (T38.setTop (mkF m 115 #[.val (.int x0_0), .val (.int x1_0), .val (.int x2_0), .val (.int x3_0), .val (.int x4_0), .val (.int l2), .val (.int c2), .val (.ref b1), .val (.ref b15), .val (.long (((x0_0.toInt64) * (4294967296 : Int64)) + ((x1_0.toInt64) - (-2147483648 : Int64)))), .second, .val (.long (((l2.toInt64) * (4294967296 : Int64)) + ((c2.toInt64) - (-2147483648 : Int64)))), .second, .val (.int (own_r5 x0_0 l2 x1_0 c2)), .val (.int (own_r5 l2 x0_0 c2 x1_0))] [(.int (1 : Int32)), (.int (own_r5 x0_0 l2 x1_0 c2))]))
      by_cases hc115_41 : (own_r5 x0_0 l2 x1_0 c2) = (1 : Int32)
      · skip
        refine own_stepW (fun t k => XS.icmpNo X38.here hx rfl (hb hby at_115) rfl (teq hc115_41).2 k) ?_
        show own_EndsW p.tables e below s _ _ _ (T38.setTop (mkF m 118 #[.val (.int x0_0), .val (.int x1_0), .val (.int x2_0), .val (.int x3_0), .val (.int x4_0), .val (.int l2), .val (.int c2), .val (.ref b1), .val (.ref b15), .val (.long (((x0_0.toInt64) * (4294967296 : Int64)) + ((x1_0.toInt64) - (-2147483648 : Int64)))), .second, .val (.long (((l2.toInt64) * (4294967296 : Int64)) + ((c2.toInt64) - (-2147483648 : Int64)))), .second, .val (.int (own_r5 x0_0 l2 x1_0 c2)), .val (.int (own_r5 l2 x0_0 c2 x1_0))] []))
        refine own_stepW (fun t k => XS.iload X38.here hx rfl (hb hby at_118) rfl k) ?_
        show own_EndsW p.tables e below s _ _ _ (T38.setTop (mkF m 120 #[.val (.int x0_0), .val (.int x1_0), .val (.int x2_0), .val (.int x3_0), .val (.int x4_0), .val (.int l2), .val (.int c2), .val (.ref b1), .val (.ref b15), .val (.long (((x0_0.toInt64) * (4294967296 : Int64)) + ((x1_0.toInt64) - (-2147483648 : Int64)))), .second, .val (.long (((l2.toInt64) * (4294967296 : Int64)) + ((c2.toInt64) - (-2147483648 : Int64)))), .second, .val (.int (own_r5 x0_0 l2 x1_0 c2)), .val (.int (own_r5 l2 x0_0 c2 x1_0))] [(.int (own_r5 l2 x0_0 c2 x1_0))]))
        refine own_stepW (fun t k => XS.lload X38.here hx rfl (hb hby at_120) rfl k) ?_
        show own_EndsW p.tables e below s _ _ _ (T38.setTop (mkF m 122 #[.val (.int x0_0), .val (.int x1_0), .val (.int x2_0), .val (.int x3_0), .val (.int x4_0), .val (.int l2), .val (.int c2), .val (.ref b1), .val (.ref b15), .val (.long (((x0_0.toInt64) * (4294967296 : Int64)) + ((x1_0.toInt64) - (-2147483648 : Int64)))), .second, .val (.long (((l2.toInt64) * (4294967296 : Int64)) + ((c2.toInt64) - (-2147483648 : Int64)))), .second, .val (.int (own_r5 x0_0 l2 x1_0 c2)), .val (.int (own_r5 l2 x0_0 c2 x1_0))] [(.long (((l2.toInt64) * (4294967296 : Int64)) + ((c2.toInt64) - (-2147483648 : Int64)))), (.int (own_r5 l2 x0_0 c2 x1_0))]))
        refine own_stepW (fun t k => XS.lload X38.here hx rfl (hb hby at_122) rfl k) ?_
        show own_EndsW p.tables e below s _ _ _ (T38.setTop (mkF m 124 #[.val (.int x0_0), .val (.int x1_0), .val (.int x2_0), .val (.int x3_0), .val (.int x4_0), .val (.int l2), .val (.int c2), .val (.ref b1), .val (.ref b15), .val (.long (((x0_0.toInt64) * (4294967296 : Int64)) + ((x1_0.toInt64) - (-2147483648 : Int64)))), .second, .val (.long (((l2.toInt64) * (4294967296 : Int64)) + ((c2.toInt64) - (-2147483648 : Int64)))), .second, .val (.int (own_r5 x0_0 l2 x1_0 c2)), .val (.int (own_r5 l2 x0_0 c2 x1_0))] [(.long (((x0_0.toInt64) * (4294967296 : Int64)) + ((x1_0.toInt64) - (-2147483648 : Int64)))), (.long (((l2.toInt64) * (4294967296 : Int64)) + ((c2.toInt64) - (-2147483648 : Int64)))), (.int (own_r5 l2 x0_0 c2 x1_0))]))
        refine own_stepW (fun t k => XS.lcmp X38.here hx rfl (hb hby at_124) rfl k) ?_
        show own_EndsW p.tables e below s _ _ _ (T38.setTop (mkF m 125 #[.val (.int x0_0), .val (.int x1_0), .val (.int x2_0), .val (.int x3_0), .val (.int x4_0), .val (.int l2), .val (.int c2), .val (.ref b1), .val (.ref b15), .val (.long (((x0_0.toInt64) * (4294967296 : Int64)) + ((x1_0.toInt64) - (-2147483648 : Int64)))), .second, .val (.long (((l2.toInt64) * (4294967296 : Int64)) + ((c2.toInt64) - (-2147483648 : Int64)))), .second, .val (.int (own_r5 x0_0 l2 x1_0 c2)), .val (.int (own_r5 l2 x0_0 c2 x1_0))] [(.int (lcmpW (((l2.toInt64) * (4294967296 : Int64)) + ((c2.toInt64) - (-2147483648 : Int64))) (((x0_0.toInt64) * (4294967296 : Int64)) + ((x1_0.toInt64) - (-2147483648 : Int64))))), (.int (own_r5 l2 x0_0 c2 x1_0))]))
        by_cases hc125_42 : (lcmpW (((l2.toInt64) * (4294967296 : Int64)) + ((c2.toInt64) - (-2147483648 : Int64))) (((x0_0.toInt64) * (4294967296 : Int64)) + ((x1_0.toInt64) - (-2147483648 : Int64)))) < (0 : Int32)
        · skip
          refine own_stepW (fun t k => XS.ifNo X38.here hx rfl (hb hby at_125) rfl ((if0 _ _).trans (tlt hc125_42).2.1) k) ?_
          show own_EndsW p.tables e below s _ _ _ (T38.setTop (mkF m 128 #[.val (.int x0_0), .val (.int x1_0), .val (.int x2_0), .val (.int x3_0), .val (.int x4_0), .val (.int l2), .val (.int c2), .val (.ref b1), .val (.ref b15), .val (.long (((x0_0.toInt64) * (4294967296 : Int64)) + ((x1_0.toInt64) - (-2147483648 : Int64)))), .second, .val (.long (((l2.toInt64) * (4294967296 : Int64)) + ((c2.toInt64) - (-2147483648 : Int64)))), .second, .val (.int (own_r5 x0_0 l2 x1_0 c2)), .val (.int (own_r5 l2 x0_0 c2 x1_0))] [(.int (own_r5 l2 x0_0 c2 x1_0))]))
          refine own_stepW (fun t k => XS.iconst X38.here hx rfl (hb hby at_128) k) ?_
          show own_EndsW p.tables e below s _ _ _ (T38.setTop (mkF m 129 #[.val (.int x0_0), .val (.int x1_0), .val (.int x2_0), .val (.int x3_0), .val (.int x4_0), .val (.int l2), .val (.int c2), .val (.ref b1), .val (.ref b15), .val (.long (((x0_0.toInt64) * (4294967296 : Int64)) + ((x1_0.toInt64) - (-2147483648 : Int64)))), .second, .val (.long (((l2.toInt64) * (4294967296 : Int64)) + ((c2.toInt64) - (-2147483648 : Int64)))), .second, .val (.int (own_r5 x0_0 l2 x1_0 c2)), .val (.int (own_r5 l2 x0_0 c2 x1_0))] [(.int (1 : Int32)), (.int (own_r5 l2 x0_0 c2 x1_0))]))
          refine own_stepW (fun t k => XS.goto X38.here hx rfl (pc0 := 129) (pc' := 133) rfl (hb hby at_129) (by decide) (by decide) k) ?_
          show own_EndsW p.tables e below s _ _ _ (T38.setTop (mkF m 133 #[.val (.int x0_0), .val (.int x1_0), .val (.int x2_0), .val (.int x3_0), .val (.int x4_0), .val (.int l2), .val (.int c2), .val (.ref b1), .val (.ref b15), .val (.long (((x0_0.toInt64) * (4294967296 : Int64)) + ((x1_0.toInt64) - (-2147483648 : Int64)))), .second, .val (.long (((l2.toInt64) * (4294967296 : Int64)) + ((c2.toInt64) - (-2147483648 : Int64)))), .second, .val (.int (own_r5 x0_0 l2 x1_0 c2)), .val (.int (own_r5 l2 x0_0 c2 x1_0))] [(.int (1 : Int32)), (.int (own_r5 l2 x0_0 c2 x1_0))]))
          by_cases hc133_43 : (own_r5 l2 x0_0 c2 x1_0) = (1 : Int32)
          · skip
            refine own_stepW (fun t k => XS.icmpNo X38.here hx rfl (hb hby at_133) rfl (teq hc133_43).2 k) ?_
            show own_EndsW p.tables e below s _ _ _ (T38.setTop (mkF m 136 #[.val (.int x0_0), .val (.int x1_0), .val (.int x2_0), .val (.int x3_0), .val (.int x4_0), .val (.int l2), .val (.int c2), .val (.ref b1), .val (.ref b15), .val (.long (((x0_0.toInt64) * (4294967296 : Int64)) + ((x1_0.toInt64) - (-2147483648 : Int64)))), .second, .val (.long (((l2.toInt64) * (4294967296 : Int64)) + ((c2.toInt64) - (-2147483648 : Int64)))), .second, .val (.int (own_r5 x0_0 l2 x1_0 c2)), .val (.int (own_r5 l2 x0_0 c2 x1_0))] []))
            refine own_stepW (fun t k => XS.iconst X38.here hx rfl (hb hby at_136) k) ?_
            show own_EndsW p.tables e below s _ _ _ (T38.setTop (mkF m 137 #[.val (.int x0_0), .val (.int x1_0), .val (.int x2_0), .val (.int x3_0), .val (.int x4_0), .val (.int l2), .val (.int c2), .val (.ref b1), .val (.ref b15), .val (.long (((x0_0.toInt64) * (4294967296 : Int64)) + ((x1_0.toInt64) - (-2147483648 : Int64)))), .second, .val (.long (((l2.toInt64) * (4294967296 : Int64)) + ((c2.toInt64) - (-2147483648 : Int64)))), .second, .val (.int (own_r5 x0_0 l2 x1_0 c2)), .val (.int (own_r5 l2 x0_0 c2 x1_0))] [(.int (1 : Int32))]))
            refine own_stepW (fun t k => XS.goto X38.here hx rfl (pc0 := 137) (pc' := 141) rfl (hb hby at_137) (by decide) (by decide) k) ?_
            show own_EndsW p.tables e below s _ _ _ (T38.setTop (mkF m 141 #[.val (.int x0_0), .val (.int x1_0), .val (.int x2_0), .val (.int x3_0), .val (.int x4_0), .val (.int l2), .val (.int c2), .val (.ref b1), .val (.ref b15), .val (.long (((x0_0.toInt64) * (4294967296 : Int64)) + ((x1_0.toInt64) - (-2147483648 : Int64)))), .second, .val (.long (((l2.toInt64) * (4294967296 : Int64)) + ((c2.toInt64) - (-2147483648 : Int64)))), .second, .val (.int (own_r5 x0_0 l2 x1_0 c2)), .val (.int (own_r5 l2 x0_0 c2 x1_0))] [(.int (1 : Int32))]))
            exact own_retNW (s := s) X38 hx hS18 (by rw [e38]; exact (Nat.le_trans hk18 K25q.1)) (t := .boolean) Bd.returns (by simp) (hb hby at_141) hnl (by rw [e38]; exact ⟨rfl, N39⟩) (by decide) (by decide)
          · skip
            refine own_stepW (fun t k => XS.icmpYes X38.here hx rfl (pc0 := 133) (pc' := 140) rfl (hb hby at_133) rfl (feq hc133_43).2 (by decide) (by decide) k) ?_
            show own_EndsW p.tables e below s _ _ _ (T38.setTop (mkF m 140 #[.val (.int x0_0), .val (.int x1_0), .val (.int x2_0), .val (.int x3_0), .val (.int x4_0), .val (.int l2), .val (.int c2), .val (.ref b1), .val (.ref b15), .val (.long (((x0_0.toInt64) * (4294967296 : Int64)) + ((x1_0.toInt64) - (-2147483648 : Int64)))), .second, .val (.long (((l2.toInt64) * (4294967296 : Int64)) + ((c2.toInt64) - (-2147483648 : Int64)))), .second, .val (.int (own_r5 x0_0 l2 x1_0 c2)), .val (.int (own_r5 l2 x0_0 c2 x1_0))] []))
            refine own_stepW (fun t k => XS.iconst X38.here hx rfl (hb hby at_140) k) ?_
            show own_EndsW p.tables e below s _ _ _ (T38.setTop (mkF m 141 #[.val (.int x0_0), .val (.int x1_0), .val (.int x2_0), .val (.int x3_0), .val (.int x4_0), .val (.int l2), .val (.int c2), .val (.ref b1), .val (.ref b15), .val (.long (((x0_0.toInt64) * (4294967296 : Int64)) + ((x1_0.toInt64) - (-2147483648 : Int64)))), .second, .val (.long (((l2.toInt64) * (4294967296 : Int64)) + ((c2.toInt64) - (-2147483648 : Int64)))), .second, .val (.int (own_r5 x0_0 l2 x1_0 c2)), .val (.int (own_r5 l2 x0_0 c2 x1_0))] [(.int (0 : Int32))]))
            exfalso
            exact hc133_43 ((own_prec _ _ _ _).mpr ((own_lcl _ _).mp hc125_42))
        · skip
          refine own_stepW (fun t k => XS.ifYes X38.here hx rfl (pc0 := 125) (pc' := 132) rfl (hb hby at_125) rfl ((if0 _ _).trans (flt hc125_42).2.1) (by decide) (by decide) k) ?_
          show own_EndsW p.tables e below s _ _ _ (T38.setTop (mkF m 132 #[.val (.int x0_0), .val (.int x1_0), .val (.int x2_0), .val (.int x3_0), .val (.int x4_0), .val (.int l2), .val (.int c2), .val (.ref b1), .val (.ref b15), .val (.long (((x0_0.toInt64) * (4294967296 : Int64)) + ((x1_0.toInt64) - (-2147483648 : Int64)))), .second, .val (.long (((l2.toInt64) * (4294967296 : Int64)) + ((c2.toInt64) - (-2147483648 : Int64)))), .second, .val (.int (own_r5 x0_0 l2 x1_0 c2)), .val (.int (own_r5 l2 x0_0 c2 x1_0))] [(.int (own_r5 l2 x0_0 c2 x1_0))]))
          refine own_stepW (fun t k => XS.iconst X38.here hx rfl (hb hby at_132) k) ?_
          show own_EndsW p.tables e below s _ _ _ (T38.setTop (mkF m 133 #[.val (.int x0_0), .val (.int x1_0), .val (.int x2_0), .val (.int x3_0), .val (.int x4_0), .val (.int l2), .val (.int c2), .val (.ref b1), .val (.ref b15), .val (.long (((x0_0.toInt64) * (4294967296 : Int64)) + ((x1_0.toInt64) - (-2147483648 : Int64)))), .second, .val (.long (((l2.toInt64) * (4294967296 : Int64)) + ((c2.toInt64) - (-2147483648 : Int64)))), .second, .val (.int (own_r5 x0_0 l2 x1_0 c2)), .val (.int (own_r5 l2 x0_0 c2 x1_0))] [(.int (0 : Int32)), (.int (own_r5 l2 x0_0 c2 x1_0))]))
          by_cases hc133_44 : (own_r5 l2 x0_0 c2 x1_0) = (0 : Int32)
          · skip
            refine own_stepW (fun t k => XS.icmpNo X38.here hx rfl (hb hby at_133) rfl (teq hc133_44).2 k) ?_
            show own_EndsW p.tables e below s _ _ _ (T38.setTop (mkF m 136 #[.val (.int x0_0), .val (.int x1_0), .val (.int x2_0), .val (.int x3_0), .val (.int x4_0), .val (.int l2), .val (.int c2), .val (.ref b1), .val (.ref b15), .val (.long (((x0_0.toInt64) * (4294967296 : Int64)) + ((x1_0.toInt64) - (-2147483648 : Int64)))), .second, .val (.long (((l2.toInt64) * (4294967296 : Int64)) + ((c2.toInt64) - (-2147483648 : Int64)))), .second, .val (.int (own_r5 x0_0 l2 x1_0 c2)), .val (.int (own_r5 l2 x0_0 c2 x1_0))] []))
            refine own_stepW (fun t k => XS.iconst X38.here hx rfl (hb hby at_136) k) ?_
            show own_EndsW p.tables e below s _ _ _ (T38.setTop (mkF m 137 #[.val (.int x0_0), .val (.int x1_0), .val (.int x2_0), .val (.int x3_0), .val (.int x4_0), .val (.int l2), .val (.int c2), .val (.ref b1), .val (.ref b15), .val (.long (((x0_0.toInt64) * (4294967296 : Int64)) + ((x1_0.toInt64) - (-2147483648 : Int64)))), .second, .val (.long (((l2.toInt64) * (4294967296 : Int64)) + ((c2.toInt64) - (-2147483648 : Int64)))), .second, .val (.int (own_r5 x0_0 l2 x1_0 c2)), .val (.int (own_r5 l2 x0_0 c2 x1_0))] [(.int (1 : Int32))]))
            refine own_stepW (fun t k => XS.goto X38.here hx rfl (pc0 := 137) (pc' := 141) rfl (hb hby at_137) (by decide) (by decide) k) ?_
            show own_EndsW p.tables e below s _ _ _ (T38.setTop (mkF m 141 #[.val (.int x0_0), .val (.int x1_0), .val (.int x2_0), .val (.int x3_0), .val (.int x4_0), .val (.int l2), .val (.int c2), .val (.ref b1), .val (.ref b15), .val (.long (((x0_0.toInt64) * (4294967296 : Int64)) + ((x1_0.toInt64) - (-2147483648 : Int64)))), .second, .val (.long (((l2.toInt64) * (4294967296 : Int64)) + ((c2.toInt64) - (-2147483648 : Int64)))), .second, .val (.int (own_r5 x0_0 l2 x1_0 c2)), .val (.int (own_r5 l2 x0_0 c2 x1_0))] [(.int (1 : Int32))]))
            exact own_retNW (s := s) X38 hx hS18 (by rw [e38]; exact (Nat.le_trans hk18 K25q.1)) (t := .boolean) Bd.returns (by simp) (hb hby at_141) hnl (by rw [e38]; exact ⟨rfl, N39⟩) (by decide) (by decide)
          · skip
            refine own_stepW (fun t k => XS.icmpYes X38.here hx rfl (pc0 := 133) (pc' := 140) rfl (hb hby at_133) rfl (feq hc133_44).2 (by decide) (by decide) k) ?_
            show own_EndsW p.tables e below s _ _ _ (T38.setTop (mkF m 140 #[.val (.int x0_0), .val (.int x1_0), .val (.int x2_0), .val (.int x3_0), .val (.int x4_0), .val (.int l2), .val (.int c2), .val (.ref b1), .val (.ref b15), .val (.long (((x0_0.toInt64) * (4294967296 : Int64)) + ((x1_0.toInt64) - (-2147483648 : Int64)))), .second, .val (.long (((l2.toInt64) * (4294967296 : Int64)) + ((c2.toInt64) - (-2147483648 : Int64)))), .second, .val (.int (own_r5 x0_0 l2 x1_0 c2)), .val (.int (own_r5 l2 x0_0 c2 x1_0))] []))
            refine own_stepW (fun t k => XS.iconst X38.here hx rfl (hb hby at_140) k) ?_
            show own_EndsW p.tables e below s _ _ _ (T38.setTop (mkF m 141 #[.val (.int x0_0), .val (.int x1_0), .val (.int x2_0), .val (.int x3_0), .val (.int x4_0), .val (.int l2), .val (.int c2), .val (.ref b1), .val (.ref b15), .val (.long (((x0_0.toInt64) * (4294967296 : Int64)) + ((x1_0.toInt64) - (-2147483648 : Int64)))), .second, .val (.long (((l2.toInt64) * (4294967296 : Int64)) + ((c2.toInt64) - (-2147483648 : Int64)))), .second, .val (.int (own_r5 x0_0 l2 x1_0 c2)), .val (.int (own_r5 l2 x0_0 c2 x1_0))] [(.int (0 : Int32))]))
            exfalso
            exact hc133_44 (own_prec0 _ _ _ _ (fun q => hc125_42 ((own_lcl _ _).mpr q)))
      · skip
        refine own_stepW (fun t k => XS.icmpYes X38.here hx rfl (pc0 := 115) (pc' := 140) rfl (hb hby at_115) rfl (feq hc115_41).2 (by decide) (by decide) k) ?_
        show own_EndsW p.tables e below s _ _ _ (T38.setTop (mkF m 140 #[.val (.int x0_0), .val (.int x1_0), .val (.int x2_0), .val (.int x3_0), .val (.int x4_0), .val (.int l2), .val (.int c2), .val (.ref b1), .val (.ref b15), .val (.long (((x0_0.toInt64) * (4294967296 : Int64)) + ((x1_0.toInt64) - (-2147483648 : Int64)))), .second, .val (.long (((l2.toInt64) * (4294967296 : Int64)) + ((c2.toInt64) - (-2147483648 : Int64)))), .second, .val (.int (own_r5 x0_0 l2 x1_0 c2)), .val (.int (own_r5 l2 x0_0 c2 x1_0))] []))
        refine own_stepW (fun t k => XS.iconst X38.here hx rfl (hb hby at_140) k) ?_
        show own_EndsW p.tables e below s _ _ _ (T38.setTop (mkF m 141 #[.val (.int x0_0), .val (.int x1_0), .val (.int x2_0), .val (.int x3_0), .val (.int x4_0), .val (.int l2), .val (.int c2), .val (.ref b1), .val (.ref b15), .val (.long (((x0_0.toInt64) * (4294967296 : Int64)) + ((x1_0.toInt64) - (-2147483648 : Int64)))), .second, .val (.long (((l2.toInt64) * (4294967296 : Int64)) + ((c2.toInt64) - (-2147483648 : Int64)))), .second, .val (.int (own_r5 x0_0 l2 x1_0 c2)), .val (.int (own_r5 l2 x0_0 c2 x1_0))] [(.int (0 : Int32))]))
        exfalso
        exact hc115_41 ((own_prec _ _ _ _).mpr ((own_lcl _ _).mp hc107_40))
    · skip
      refine own_stepW (fun t k => XS.ifYes X38.here hx rfl (pc0 := 107) (pc' := 114) rfl (hb hby at_107) rfl ((if0 _ _).trans (flt hc107_40).2.1) (by decide) (by decide) k) ?_
      show own_EndsW p.tables e below s _ _ _ (T38.setTop (mkF m 114 #[.val (.int x0_0), .val (.int x1_0), .val (.int x2_0), .val (.int x3_0), .val (.int x4_0), .val (.int l2), .val (.int c2), .val (.ref b1), .val (.ref b15), .val (.long (((x0_0.toInt64) * (4294967296 : Int64)) + ((x1_0.toInt64) - (-2147483648 : Int64)))), .second, .val (.long (((l2.toInt64) * (4294967296 : Int64)) + ((c2.toInt64) - (-2147483648 : Int64)))), .second, .val (.int (own_r5 x0_0 l2 x1_0 c2)), .val (.int (own_r5 l2 x0_0 c2 x1_0))] [(.int (own_r5 x0_0 l2 x1_0 c2))]))
      refine own_stepW (fun t k => XS.iconst X38.here hx rfl (hb hby at_114) k) ?_
      show own_EndsW p.tables e below s _ _ _ (T38.setTop (mkF m 115 #[.val (.int x0_0), .val (.int x1_0), .val (.int x2_0), .val (.int x3_0), .val (.int x4_0), .val (.int l2), .val (.int c2), .val (.ref b1), .val (.ref b15), .val (.long (((x0_0.toInt64) * (4294967296 : Int64)) + ((x1_0.toInt64) - (-2147483648 : Int64)))), .second, .val (.long (((l2.toInt64) * (4294967296 : Int64)) + ((c2.toInt64) - (-2147483648 : Int64)))), .second, .val (.int (own_r5 x0_0 l2 x1_0 c2)), .val (.int (own_r5 l2 x0_0 c2 x1_0))] [(.int (0 : Int32)), (.int (own_r5 x0_0 l2 x1_0 c2))]))
      by_cases hc115_45 : (own_r5 x0_0 l2 x1_0 c2) = (0 : Int32)
      · skip
        refine own_stepW (fun t k => XS.icmpNo X38.here hx rfl (hb hby at_115) rfl (teq hc115_45).2 k) ?_
        show own_EndsW p.tables e below s _ _ _ (T38.setTop (mkF m 118 #[.val (.int x0_0), .val (.int x1_0), .val (.int x2_0), .val (.int x3_0), .val (.int x4_0), .val (.int l2), .val (.int c2), .val (.ref b1), .val (.ref b15), .val (.long (((x0_0.toInt64) * (4294967296 : Int64)) + ((x1_0.toInt64) - (-2147483648 : Int64)))), .second, .val (.long (((l2.toInt64) * (4294967296 : Int64)) + ((c2.toInt64) - (-2147483648 : Int64)))), .second, .val (.int (own_r5 x0_0 l2 x1_0 c2)), .val (.int (own_r5 l2 x0_0 c2 x1_0))] []))
        refine own_stepW (fun t k => XS.iload X38.here hx rfl (hb hby at_118) rfl k) ?_
        show own_EndsW p.tables e below s _ _ _ (T38.setTop (mkF m 120 #[.val (.int x0_0), .val (.int x1_0), .val (.int x2_0), .val (.int x3_0), .val (.int x4_0), .val (.int l2), .val (.int c2), .val (.ref b1), .val (.ref b15), .val (.long (((x0_0.toInt64) * (4294967296 : Int64)) + ((x1_0.toInt64) - (-2147483648 : Int64)))), .second, .val (.long (((l2.toInt64) * (4294967296 : Int64)) + ((c2.toInt64) - (-2147483648 : Int64)))), .second, .val (.int (own_r5 x0_0 l2 x1_0 c2)), .val (.int (own_r5 l2 x0_0 c2 x1_0))] [(.int (own_r5 l2 x0_0 c2 x1_0))]))
        refine own_stepW (fun t k => XS.lload X38.here hx rfl (hb hby at_120) rfl k) ?_
        show own_EndsW p.tables e below s _ _ _ (T38.setTop (mkF m 122 #[.val (.int x0_0), .val (.int x1_0), .val (.int x2_0), .val (.int x3_0), .val (.int x4_0), .val (.int l2), .val (.int c2), .val (.ref b1), .val (.ref b15), .val (.long (((x0_0.toInt64) * (4294967296 : Int64)) + ((x1_0.toInt64) - (-2147483648 : Int64)))), .second, .val (.long (((l2.toInt64) * (4294967296 : Int64)) + ((c2.toInt64) - (-2147483648 : Int64)))), .second, .val (.int (own_r5 x0_0 l2 x1_0 c2)), .val (.int (own_r5 l2 x0_0 c2 x1_0))] [(.long (((l2.toInt64) * (4294967296 : Int64)) + ((c2.toInt64) - (-2147483648 : Int64)))), (.int (own_r5 l2 x0_0 c2 x1_0))]))
        refine own_stepW (fun t k => XS.lload X38.here hx rfl (hb hby at_122) rfl k) ?_
        show own_EndsW p.tables e below s _ _ _ (T38.setTop (mkF m 124 #[.val (.int x0_0), .val (.int x1_0), .val (.int x2_0), .val (.int x3_0), .val (.int x4_0), .val (.int l2), .val (.int c2), .val (.ref b1), .val (.ref b15), .val (.long (((x0_0.toInt64) * (4294967296 : Int64)) + ((x1_0.toInt64) - (-2147483648 : Int64)))), .second, .val (.long (((l2.toInt64) * (4294967296 : Int64)) + ((c2.toInt64) - (-2147483648 : Int64)))), .second, .val (.int (own_r5 x0_0 l2 x1_0 c2)), .val (.int (own_r5 l2 x0_0 c2 x1_0))] [(.long (((x0_0.toInt64) * (4294967296 : Int64)) + ((x1_0.toInt64) - (-2147483648 : Int64)))), (.long (((l2.toInt64) * (4294967296 : Int64)) + ((c2.toInt64) - (-2147483648 : Int64)))), (.int (own_r5 l2 x0_0 c2 x1_0))]))
        refine own_stepW (fun t k => XS.lcmp X38.here hx rfl (hb hby at_124) rfl k) ?_
        show own_EndsW p.tables e below s _ _ _ (T38.setTop (mkF m 125 #[.val (.int x0_0), .val (.int x1_0), .val (.int x2_0), .val (.int x3_0), .val (.int x4_0), .val (.int l2), .val (.int c2), .val (.ref b1), .val (.ref b15), .val (.long (((x0_0.toInt64) * (4294967296 : Int64)) + ((x1_0.toInt64) - (-2147483648 : Int64)))), .second, .val (.long (((l2.toInt64) * (4294967296 : Int64)) + ((c2.toInt64) - (-2147483648 : Int64)))), .second, .val (.int (own_r5 x0_0 l2 x1_0 c2)), .val (.int (own_r5 l2 x0_0 c2 x1_0))] [(.int (lcmpW (((l2.toInt64) * (4294967296 : Int64)) + ((c2.toInt64) - (-2147483648 : Int64))) (((x0_0.toInt64) * (4294967296 : Int64)) + ((x1_0.toInt64) - (-2147483648 : Int64))))), (.int (own_r5 l2 x0_0 c2 x1_0))]))
        by_cases hc125_46 : (lcmpW (((l2.toInt64) * (4294967296 : Int64)) + ((c2.toInt64) - (-2147483648 : Int64))) (((x0_0.toInt64) * (4294967296 : Int64)) + ((x1_0.toInt64) - (-2147483648 : Int64)))) < (0 : Int32)
        · skip
          refine own_stepW (fun t k => XS.ifNo X38.here hx rfl (hb hby at_125) rfl ((if0 _ _).trans (tlt hc125_46).2.1) k) ?_
          show own_EndsW p.tables e below s _ _ _ (T38.setTop (mkF m 128 #[.val (.int x0_0), .val (.int x1_0), .val (.int x2_0), .val (.int x3_0), .val (.int x4_0), .val (.int l2), .val (.int c2), .val (.ref b1), .val (.ref b15), .val (.long (((x0_0.toInt64) * (4294967296 : Int64)) + ((x1_0.toInt64) - (-2147483648 : Int64)))), .second, .val (.long (((l2.toInt64) * (4294967296 : Int64)) + ((c2.toInt64) - (-2147483648 : Int64)))), .second, .val (.int (own_r5 x0_0 l2 x1_0 c2)), .val (.int (own_r5 l2 x0_0 c2 x1_0))] [(.int (own_r5 l2 x0_0 c2 x1_0))]))
          refine own_stepW (fun t k => XS.iconst X38.here hx rfl (hb hby at_128) k) ?_
          show own_EndsW p.tables e below s _ _ _ (T38.setTop (mkF m 129 #[.val (.int x0_0), .val (.int x1_0), .val (.int x2_0), .val (.int x3_0), .val (.int x4_0), .val (.int l2), .val (.int c2), .val (.ref b1), .val (.ref b15), .val (.long (((x0_0.toInt64) * (4294967296 : Int64)) + ((x1_0.toInt64) - (-2147483648 : Int64)))), .second, .val (.long (((l2.toInt64) * (4294967296 : Int64)) + ((c2.toInt64) - (-2147483648 : Int64)))), .second, .val (.int (own_r5 x0_0 l2 x1_0 c2)), .val (.int (own_r5 l2 x0_0 c2 x1_0))] [(.int (1 : Int32)), (.int (own_r5 l2 x0_0 c2 x1_0))]))
          refine own_stepW (fun t k => XS.goto X38.here hx rfl (pc0 := 129) (pc' := 133) rfl (hb hby at_129) (by decide) (by decide) k) ?_
          show own_EndsW p.tables e below s _ _ _ (T38.setTop (mkF m 133 #[.val (.int x0_0), .val (.int x1_0), .val (.int x2_0), .val (.int x3_0), .val (.int x4_0), .val (.int l2), .val (.int c2), .val (.ref b1), .val (.ref b15), .val (.long (((x0_0.toInt64) * (4294967296 : Int64)) + ((x1_0.toInt64) - (-2147483648 : Int64)))), .second, .val (.long (((l2.toInt64) * (4294967296 : Int64)) + ((c2.toInt64) - (-2147483648 : Int64)))), .second, .val (.int (own_r5 x0_0 l2 x1_0 c2)), .val (.int (own_r5 l2 x0_0 c2 x1_0))] [(.int (1 : Int32)), (.int (own_r5 l2 x0_0 c2 x1_0))]))
          by_cases hc133_47 : (own_r5 l2 x0_0 c2 x1_0) = (1 : Int32)
          · skip
            refine own_stepW (fun t k => XS.icmpNo X38.here hx rfl (hb hby at_133) rfl (teq hc133_47).2 k) ?_
            show own_EndsW p.tables e below s _ _ _ (T38.setTop (mkF m 136 #[.val (.int x0_0), .val (.int x1_0), .val (.int x2_0), .val (.int x3_0), .val (.int x4_0), .val (.int l2), .val (.int c2), .val (.ref b1), .val (.ref b15), .val (.long (((x0_0.toInt64) * (4294967296 : Int64)) + ((x1_0.toInt64) - (-2147483648 : Int64)))), .second, .val (.long (((l2.toInt64) * (4294967296 : Int64)) + ((c2.toInt64) - (-2147483648 : Int64)))), .second, .val (.int (own_r5 x0_0 l2 x1_0 c2)), .val (.int (own_r5 l2 x0_0 c2 x1_0))] []))
            refine own_stepW (fun t k => XS.iconst X38.here hx rfl (hb hby at_136) k) ?_
            show own_EndsW p.tables e below s _ _ _ (T38.setTop (mkF m 137 #[.val (.int x0_0), .val (.int x1_0), .val (.int x2_0), .val (.int x3_0), .val (.int x4_0), .val (.int l2), .val (.int c2), .val (.ref b1), .val (.ref b15), .val (.long (((x0_0.toInt64) * (4294967296 : Int64)) + ((x1_0.toInt64) - (-2147483648 : Int64)))), .second, .val (.long (((l2.toInt64) * (4294967296 : Int64)) + ((c2.toInt64) - (-2147483648 : Int64)))), .second, .val (.int (own_r5 x0_0 l2 x1_0 c2)), .val (.int (own_r5 l2 x0_0 c2 x1_0))] [(.int (1 : Int32))]))
            refine own_stepW (fun t k => XS.goto X38.here hx rfl (pc0 := 137) (pc' := 141) rfl (hb hby at_137) (by decide) (by decide) k) ?_
            show own_EndsW p.tables e below s _ _ _ (T38.setTop (mkF m 141 #[.val (.int x0_0), .val (.int x1_0), .val (.int x2_0), .val (.int x3_0), .val (.int x4_0), .val (.int l2), .val (.int c2), .val (.ref b1), .val (.ref b15), .val (.long (((x0_0.toInt64) * (4294967296 : Int64)) + ((x1_0.toInt64) - (-2147483648 : Int64)))), .second, .val (.long (((l2.toInt64) * (4294967296 : Int64)) + ((c2.toInt64) - (-2147483648 : Int64)))), .second, .val (.int (own_r5 x0_0 l2 x1_0 c2)), .val (.int (own_r5 l2 x0_0 c2 x1_0))] [(.int (1 : Int32))]))
            exact own_retNW (s := s) X38 hx hS18 (by rw [e38]; exact (Nat.le_trans hk18 K25q.1)) (t := .boolean) Bd.returns (by simp) (hb hby at_141) hnl (by rw [e38]; exact ⟨rfl, N39⟩) (by decide) (by decide)
          · skip
            refine own_stepW (fun t k => XS.icmpYes X38.here hx rfl (pc0 := 133) (pc' := 140) rfl (hb hby at_133) rfl (feq hc133_47).2 (by decide) (by decide) k) ?_
            show own_EndsW p.tables e below s _ _ _ (T38.setTop (mkF m 140 #[.val (.int x0_0), .val (.int x1_0), .val (.int x2_0), .val (.int x3_0), .val (.int x4_0), .val (.int l2), .val (.int c2), .val (.ref b1), .val (.ref b15), .val (.long (((x0_0.toInt64) * (4294967296 : Int64)) + ((x1_0.toInt64) - (-2147483648 : Int64)))), .second, .val (.long (((l2.toInt64) * (4294967296 : Int64)) + ((c2.toInt64) - (-2147483648 : Int64)))), .second, .val (.int (own_r5 x0_0 l2 x1_0 c2)), .val (.int (own_r5 l2 x0_0 c2 x1_0))] []))
            refine own_stepW (fun t k => XS.iconst X38.here hx rfl (hb hby at_140) k) ?_
            show own_EndsW p.tables e below s _ _ _ (T38.setTop (mkF m 141 #[.val (.int x0_0), .val (.int x1_0), .val (.int x2_0), .val (.int x3_0), .val (.int x4_0), .val (.int l2), .val (.int c2), .val (.ref b1), .val (.ref b15), .val (.long (((x0_0.toInt64) * (4294967296 : Int64)) + ((x1_0.toInt64) - (-2147483648 : Int64)))), .second, .val (.long (((l2.toInt64) * (4294967296 : Int64)) + ((c2.toInt64) - (-2147483648 : Int64)))), .second, .val (.int (own_r5 x0_0 l2 x1_0 c2)), .val (.int (own_r5 l2 x0_0 c2 x1_0))] [(.int (0 : Int32))]))
            exfalso
            exact hc133_47 ((own_prec _ _ _ _).mpr ((own_lcl _ _).mp hc125_46))
        · skip
          refine own_stepW (fun t k => XS.ifYes X38.here hx rfl (pc0 := 125) (pc' := 132) rfl (hb hby at_125) rfl ((if0 _ _).trans (flt hc125_46).2.1) (by decide) (by decide) k) ?_
          show own_EndsW p.tables e below s _ _ _ (T38.setTop (mkF m 132 #[.val (.int x0_0), .val (.int x1_0), .val (.int x2_0), .val (.int x3_0), .val (.int x4_0), .val (.int l2), .val (.int c2), .val (.ref b1), .val (.ref b15), .val (.long (((x0_0.toInt64) * (4294967296 : Int64)) + ((x1_0.toInt64) - (-2147483648 : Int64)))), .second, .val (.long (((l2.toInt64) * (4294967296 : Int64)) + ((c2.toInt64) - (-2147483648 : Int64)))), .second, .val (.int (own_r5 x0_0 l2 x1_0 c2)), .val (.int (own_r5 l2 x0_0 c2 x1_0))] [(.int (own_r5 l2 x0_0 c2 x1_0))]))
          refine own_stepW (fun t k => XS.iconst X38.here hx rfl (hb hby at_132) k) ?_
          show own_EndsW p.tables e below s _ _ _ (T38.setTop (mkF m 133 #[.val (.int x0_0), .val (.int x1_0), .val (.int x2_0), .val (.int x3_0), .val (.int x4_0), .val (.int l2), .val (.int c2), .val (.ref b1), .val (.ref b15), .val (.long (((x0_0.toInt64) * (4294967296 : Int64)) + ((x1_0.toInt64) - (-2147483648 : Int64)))), .second, .val (.long (((l2.toInt64) * (4294967296 : Int64)) + ((c2.toInt64) - (-2147483648 : Int64)))), .second, .val (.int (own_r5 x0_0 l2 x1_0 c2)), .val (.int (own_r5 l2 x0_0 c2 x1_0))] [(.int (0 : Int32)), (.int (own_r5 l2 x0_0 c2 x1_0))]))
          by_cases hc133_48 : (own_r5 l2 x0_0 c2 x1_0) = (0 : Int32)
          · skip
            refine own_stepW (fun t k => XS.icmpNo X38.here hx rfl (hb hby at_133) rfl (teq hc133_48).2 k) ?_
            show own_EndsW p.tables e below s _ _ _ (T38.setTop (mkF m 136 #[.val (.int x0_0), .val (.int x1_0), .val (.int x2_0), .val (.int x3_0), .val (.int x4_0), .val (.int l2), .val (.int c2), .val (.ref b1), .val (.ref b15), .val (.long (((x0_0.toInt64) * (4294967296 : Int64)) + ((x1_0.toInt64) - (-2147483648 : Int64)))), .second, .val (.long (((l2.toInt64) * (4294967296 : Int64)) + ((c2.toInt64) - (-2147483648 : Int64)))), .second, .val (.int (own_r5 x0_0 l2 x1_0 c2)), .val (.int (own_r5 l2 x0_0 c2 x1_0))] []))
            refine own_stepW (fun t k => XS.iconst X38.here hx rfl (hb hby at_136) k) ?_
            show own_EndsW p.tables e below s _ _ _ (T38.setTop (mkF m 137 #[.val (.int x0_0), .val (.int x1_0), .val (.int x2_0), .val (.int x3_0), .val (.int x4_0), .val (.int l2), .val (.int c2), .val (.ref b1), .val (.ref b15), .val (.long (((x0_0.toInt64) * (4294967296 : Int64)) + ((x1_0.toInt64) - (-2147483648 : Int64)))), .second, .val (.long (((l2.toInt64) * (4294967296 : Int64)) + ((c2.toInt64) - (-2147483648 : Int64)))), .second, .val (.int (own_r5 x0_0 l2 x1_0 c2)), .val (.int (own_r5 l2 x0_0 c2 x1_0))] [(.int (1 : Int32))]))
            refine own_stepW (fun t k => XS.goto X38.here hx rfl (pc0 := 137) (pc' := 141) rfl (hb hby at_137) (by decide) (by decide) k) ?_
            show own_EndsW p.tables e below s _ _ _ (T38.setTop (mkF m 141 #[.val (.int x0_0), .val (.int x1_0), .val (.int x2_0), .val (.int x3_0), .val (.int x4_0), .val (.int l2), .val (.int c2), .val (.ref b1), .val (.ref b15), .val (.long (((x0_0.toInt64) * (4294967296 : Int64)) + ((x1_0.toInt64) - (-2147483648 : Int64)))), .second, .val (.long (((l2.toInt64) * (4294967296 : Int64)) + ((c2.toInt64) - (-2147483648 : Int64)))), .second, .val (.int (own_r5 x0_0 l2 x1_0 c2)), .val (.int (own_r5 l2 x0_0 c2 x1_0))] [(.int (1 : Int32))]))
            exact own_retNW (s := s) X38 hx hS18 (by rw [e38]; exact (Nat.le_trans hk18 K25q.1)) (t := .boolean) Bd.returns (by simp) (hb hby at_141) hnl (by rw [e38]; exact ⟨rfl, N39⟩) (by decide) (by decide)
          · skip
            refine own_stepW (fun t k => XS.icmpYes X38.here hx rfl (pc0 := 133) (pc' := 140) rfl (hb hby at_133) rfl (feq hc133_48).2 (by decide) (by decide) k) ?_
            show own_EndsW p.tables e below s _ _ _ (T38.setTop (mkF m 140 #[.val (.int x0_0), .val (.int x1_0), .val (.int x2_0), .val (.int x3_0), .val (.int x4_0), .val (.int l2), .val (.int c2), .val (.ref b1), .val (.ref b15), .val (.long (((x0_0.toInt64) * (4294967296 : Int64)) + ((x1_0.toInt64) - (-2147483648 : Int64)))), .second, .val (.long (((l2.toInt64) * (4294967296 : Int64)) + ((c2.toInt64) - (-2147483648 : Int64)))), .second, .val (.int (own_r5 x0_0 l2 x1_0 c2)), .val (.int (own_r5 l2 x0_0 c2 x1_0))] []))
            refine own_stepW (fun t k => XS.iconst X38.here hx rfl (hb hby at_140) k) ?_
            show own_EndsW p.tables e below s _ _ _ (T38.setTop (mkF m 141 #[.val (.int x0_0), .val (.int x1_0), .val (.int x2_0), .val (.int x3_0), .val (.int x4_0), .val (.int l2), .val (.int c2), .val (.ref b1), .val (.ref b15), .val (.long (((x0_0.toInt64) * (4294967296 : Int64)) + ((x1_0.toInt64) - (-2147483648 : Int64)))), .second, .val (.long (((l2.toInt64) * (4294967296 : Int64)) + ((c2.toInt64) - (-2147483648 : Int64)))), .second, .val (.int (own_r5 x0_0 l2 x1_0 c2)), .val (.int (own_r5 l2 x0_0 c2 x1_0))] [(.int (0 : Int32))]))
            exfalso
            exact hc133_48 (own_prec0 _ _ _ _ (fun q => hc125_46 ((own_lcl _ _).mpr q)))
      · skip
        refine own_stepW (fun t k => XS.icmpYes X38.here hx rfl (pc0 := 115) (pc' := 140) rfl (hb hby at_115) rfl (feq hc115_45).2 (by decide) (by decide) k) ?_
        show own_EndsW p.tables e below s _ _ _ (T38.setTop (mkF m 140 #[.val (.int x0_0), .val (.int x1_0), .val (.int x2_0), .val (.int x3_0), .val (.int x4_0), .val (.int l2), .val (.int c2), .val (.ref b1), .val (.ref b15), .val (.long (((x0_0.toInt64) * (4294967296 : Int64)) + ((x1_0.toInt64) - (-2147483648 : Int64)))), .second, .val (.long (((l2.toInt64) * (4294967296 : Int64)) + ((c2.toInt64) - (-2147483648 : Int64)))), .second, .val (.int (own_r5 x0_0 l2 x1_0 c2)), .val (.int (own_r5 l2 x0_0 c2 x1_0))] []))
        refine own_stepW (fun t k => XS.iconst X38.here hx rfl (hb hby at_140) k) ?_
        show own_EndsW p.tables e below s _ _ _ (T38.setTop (mkF m 141 #[.val (.int x0_0), .val (.int x1_0), .val (.int x2_0), .val (.int x3_0), .val (.int x4_0), .val (.int l2), .val (.int c2), .val (.ref b1), .val (.ref b15), .val (.long (((x0_0.toInt64) * (4294967296 : Int64)) + ((x1_0.toInt64) - (-2147483648 : Int64)))), .second, .val (.long (((l2.toInt64) * (4294967296 : Int64)) + ((c2.toInt64) - (-2147483648 : Int64)))), .second, .val (.int (own_r5 x0_0 l2 x1_0 c2)), .val (.int (own_r5 l2 x0_0 c2 x1_0))] [(.int (0 : Int32))]))
        exfalso
        exact hc115_45 (own_prec0 _ _ _ _ (fun q => hc107_40 ((own_lcl _ _).mpr q)))
  show own_EndsW p.tables e below s _ _ _ (s₁.setTop (mkF m 0 #[.val (.int x0_0), .val (.int x1_0), .val (.int x2_0), .val (.int x3_0), .val (.int x4_0), .unset, .unset, .unset, .unset, .unset, .unset, .unset, .unset, .unset, .unset] []))
  refine own_stepW (fun t k => XS.iloadN X0.here hx rfl (hb hby at_0) rfl k) ?_
  show own_EndsW p.tables e below s _ _ _ (s₁.setTop (mkF m 1 #[.val (.int x0_0), .val (.int x1_0), .val (.int x2_0), .val (.int x3_0), .val (.int x4_0), .unset, .unset, .unset, .unset, .unset, .unset, .unset, .unset, .unset, .unset] [(.int x2_0)]))
  refine own_stepW (fun t k => XS.istore X0.here hx rfl (hb hby at_1) rfl (l' := #[.val (.int x0_0), .val (.int x1_0), .val (.int x2_0), .val (.int x3_0), .val (.int x4_0), .val (.int x2_0), .unset, .unset, .unset, .unset, .unset, .unset, .unset, .unset, .unset]) rfl k) ?_
  show own_EndsW p.tables e below s _ _ _ (s₁.setTop (mkF m 3 #[.val (.int x0_0), .val (.int x1_0), .val (.int x2_0), .val (.int x3_0), .val (.int x4_0), .val (.int x2_0), .unset, .unset, .unset, .unset, .unset, .unset, .unset, .unset, .unset] []))
  refine own_stepW (fun t k => XS.iloadN X0.here hx rfl (hb hby at_3) rfl k) ?_
  show own_EndsW p.tables e below s _ _ _ (s₁.setTop (mkF m 4 #[.val (.int x0_0), .val (.int x1_0), .val (.int x2_0), .val (.int x3_0), .val (.int x4_0), .val (.int x2_0), .unset, .unset, .unset, .unset, .unset, .unset, .unset, .unset, .unset] [(.int x3_0)]))
  refine own_stepW (fun t k => XS.istore X0.here hx rfl (hb hby at_4) rfl (l' := #[.val (.int x0_0), .val (.int x1_0), .val (.int x2_0), .val (.int x3_0), .val (.int x4_0), .val (.int x2_0), .val (.int x3_0), .unset, .unset, .unset, .unset, .unset, .unset, .unset, .unset]) rfl k) ?_
  show own_EndsW p.tables e below s _ _ _ (s₁.setTop (mkF m 6 #[.val (.int x0_0), .val (.int x1_0), .val (.int x2_0), .val (.int x3_0), .val (.int x4_0), .val (.int x2_0), .val (.int x3_0), .unset, .unset, .unset, .unset, .unset, .unset, .unset, .unset] []))
  refine own_stepW (fun t k => XS.iload X0.here hx rfl (hb hby at_6) rfl k) ?_
  show own_EndsW p.tables e below s _ _ _ (s₁.setTop (mkF m 8 #[.val (.int x0_0), .val (.int x1_0), .val (.int x2_0), .val (.int x3_0), .val (.int x4_0), .val (.int x2_0), .val (.int x3_0), .unset, .unset, .unset, .unset, .unset, .unset, .unset, .unset] [(.int x4_0)]))
  refine own_stepW (fun t k => XS.iconst X0.here hx rfl (hb hby at_8) k) ?_
  show own_EndsW p.tables e below s _ _ _ (s₁.setTop (mkF m 9 #[.val (.int x0_0), .val (.int x1_0), .val (.int x2_0), .val (.int x3_0), .val (.int x4_0), .val (.int x2_0), .val (.int x3_0), .unset, .unset, .unset, .unset, .unset, .unset, .unset, .unset] [(.int (1 : Int32)), (.int x4_0)]))
  refine own_stepW (fun t k => XS.iand X0.here hx rfl (hb hby at_9) rfl k) ?_
  show own_EndsW p.tables e below s _ _ _ (s₁.setTop (mkF m 10 #[.val (.int x0_0), .val (.int x1_0), .val (.int x2_0), .val (.int x3_0), .val (.int x4_0), .val (.int x2_0), .val (.int x3_0), .unset, .unset, .unset, .unset, .unset, .unset, .unset, .unset] [(.int (x4_0 &&& (1 : Int32)))]))
  by_cases hc10_49 : (x4_0 &&& (1 : Int32)) = (0 : Int32)
  · skip
    refine own_stepW (fun t k => XS.ifYes X0.here hx rfl (pc0 := 10) (pc' := 22) rfl (hb hby at_10) rfl ((if0 _ _).trans (teq hc10_49).1) (by decide) (by decide) k) ?_
    show own_EndsW p.tables e below s _ _ _ (s₁.setTop (mkF m 22 #[.val (.int x0_0), .val (.int x1_0), .val (.int x2_0), .val (.int x3_0), .val (.int x4_0), .val (.int x2_0), .val (.int x3_0), .unset, .unset, .unset, .unset, .unset, .unset, .unset, .unset] []))
    refine own_stepW (fun t k => XS.iload X0.here hx rfl (hb hby at_22) rfl k) ?_
    show own_EndsW p.tables e below s _ _ _ (s₁.setTop (mkF m 24 #[.val (.int x0_0), .val (.int x1_0), .val (.int x2_0), .val (.int x3_0), .val (.int x4_0), .val (.int x2_0), .val (.int x3_0), .unset, .unset, .unset, .unset, .unset, .unset, .unset, .unset] [(.int x4_0)]))
    refine own_stepW (fun t k => XS.iconst X0.here hx rfl (hb hby at_24) k) ?_
    show own_EndsW p.tables e below s _ _ _ (s₁.setTop (mkF m 25 #[.val (.int x0_0), .val (.int x1_0), .val (.int x2_0), .val (.int x3_0), .val (.int x4_0), .val (.int x2_0), .val (.int x3_0), .unset, .unset, .unset, .unset, .unset, .unset, .unset, .unset] [(.int (2 : Int32)), (.int x4_0)]))
    refine own_stepW (fun t k => XS.iand X0.here hx rfl (hb hby at_25) rfl k) ?_
    show own_EndsW p.tables e below s _ _ _ (s₁.setTop (mkF m 26 #[.val (.int x0_0), .val (.int x1_0), .val (.int x2_0), .val (.int x3_0), .val (.int x4_0), .val (.int x2_0), .val (.int x3_0), .unset, .unset, .unset, .unset, .unset, .unset, .unset, .unset] [(.int (x4_0 &&& (2 : Int32)))]))
    by_cases hc26_50 : (x4_0 &&& (2 : Int32)) = (0 : Int32)
    · skip
      refine own_stepW (fun t k => XS.ifYes X0.here hx rfl (pc0 := 26) (pc' := 38) rfl (hb hby at_26) rfl ((if0 _ _).trans (teq hc26_50).1) (by decide) (by decide) k) ?_
      show own_EndsW p.tables e below s _ _ _ (s₁.setTop (mkF m 38 #[.val (.int x0_0), .val (.int x1_0), .val (.int x2_0), .val (.int x3_0), .val (.int x4_0), .val (.int x2_0), .val (.int x3_0), .unset, .unset, .unset, .unset, .unset, .unset, .unset, .unset] []))
      exact tail38 x2_0 x3_0
    · skip
      refine own_stepW (fun t k => XS.ifNo X0.here hx rfl (hb hby at_26) rfl ((if0 _ _).trans (feq hc26_50).1) k) ?_
      show own_EndsW p.tables e below s _ _ _ (s₁.setTop (mkF m 29 #[.val (.int x0_0), .val (.int x1_0), .val (.int x2_0), .val (.int x3_0), .val (.int x4_0), .val (.int x2_0), .val (.int x3_0), .unset, .unset, .unset, .unset, .unset, .unset, .unset, .unset] []))
      refine own_stepW (fun t k => XS.iloadN X0.here hx rfl (hb hby at_29) rfl k) ?_
      show own_EndsW p.tables e below s _ _ _ (s₁.setTop (mkF m 30 #[.val (.int x0_0), .val (.int x1_0), .val (.int x2_0), .val (.int x3_0), .val (.int x4_0), .val (.int x2_0), .val (.int x3_0), .unset, .unset, .unset, .unset, .unset, .unset, .unset, .unset] [(.int x1_0)]))
      refine own_stepW (fun t k => XS.iloadN X0.here hx rfl (hb hby at_30) rfl k) ?_
      show own_EndsW p.tables e below s _ _ _ (s₁.setTop (mkF m 31 #[.val (.int x0_0), .val (.int x1_0), .val (.int x2_0), .val (.int x3_0), .val (.int x4_0), .val (.int x2_0), .val (.int x3_0), .unset, .unset, .unset, .unset, .unset, .unset, .unset, .unset] [(.int x3_0), (.int x1_0)]))
      refine own_stepW (fun t k => XS.iconst X0.here hx rfl (hb hby at_31) k) ?_
      show own_EndsW p.tables e below s _ _ _ (s₁.setTop (mkF m 32 #[.val (.int x0_0), .val (.int x1_0), .val (.int x2_0), .val (.int x3_0), .val (.int x4_0), .val (.int x2_0), .val (.int x3_0), .unset, .unset, .unset, .unset, .unset, .unset, .unset, .unset] [(.int (3 : Int32)), (.int x3_0), (.int x1_0)]))
      refine own_stepW (fun t k => XS.iand X0.here hx rfl (hb hby at_32) rfl k) ?_
      show own_EndsW p.tables e below s _ _ _ (s₁.setTop (mkF m 33 #[.val (.int x0_0), .val (.int x1_0), .val (.int x2_0), .val (.int x3_0), .val (.int x4_0), .val (.int x2_0), .val (.int x3_0), .unset, .unset, .unset, .unset, .unset, .unset, .unset, .unset] [(.int (x3_0 &&& (3 : Int32))), (.int x1_0)]))
      refine own_stepW (fun t k => XS.iconst X0.here hx rfl (hb hby at_33) k) ?_
      show own_EndsW p.tables e below s _ _ _ (s₁.setTop (mkF m 34 #[.val (.int x0_0), .val (.int x1_0), .val (.int x2_0), .val (.int x3_0), .val (.int x4_0), .val (.int x2_0), .val (.int x3_0), .unset, .unset, .unset, .unset, .unset, .unset, .unset, .unset] [(.int (1 : Int32)), (.int (x3_0 &&& (3 : Int32))), (.int x1_0)]))
      refine own_stepW (fun t k => XS.isub X0.here hx rfl (hb hby at_34) rfl k) ?_
      show own_EndsW p.tables e below s _ _ _ (s₁.setTop (mkF m 35 #[.val (.int x0_0), .val (.int x1_0), .val (.int x2_0), .val (.int x3_0), .val (.int x4_0), .val (.int x2_0), .val (.int x3_0), .unset, .unset, .unset, .unset, .unset, .unset, .unset, .unset] [(.int ((x3_0 &&& (3 : Int32)) - (1 : Int32))), (.int x1_0)]))
      refine own_stepW (fun t k => XS.iadd X0.here hx rfl (hb hby at_35) rfl k) ?_
      show own_EndsW p.tables e below s _ _ _ (s₁.setTop (mkF m 36 #[.val (.int x0_0), .val (.int x1_0), .val (.int x2_0), .val (.int x3_0), .val (.int x4_0), .val (.int x2_0), .val (.int x3_0), .unset, .unset, .unset, .unset, .unset, .unset, .unset, .unset] [(.int (x1_0 + ((x3_0 &&& (3 : Int32)) - (1 : Int32))))]))
      refine own_stepW (fun t k => XS.istore X0.here hx rfl (hb hby at_36) rfl (l' := #[.val (.int x0_0), .val (.int x1_0), .val (.int x2_0), .val (.int x3_0), .val (.int x4_0), .val (.int x2_0), .val (.int (x1_0 + ((x3_0 &&& (3 : Int32)) - (1 : Int32)))), .unset, .unset, .unset, .unset, .unset, .unset, .unset, .unset]) rfl k) ?_
      show own_EndsW p.tables e below s _ _ _ (s₁.setTop (mkF m 38 #[.val (.int x0_0), .val (.int x1_0), .val (.int x2_0), .val (.int x3_0), .val (.int x4_0), .val (.int x2_0), .val (.int (x1_0 + ((x3_0 &&& (3 : Int32)) - (1 : Int32)))), .unset, .unset, .unset, .unset, .unset, .unset, .unset, .unset] []))
      exact tail38 x2_0 (x1_0 + ((x3_0 &&& (3 : Int32)) - (1 : Int32)))
  · skip
    refine own_stepW (fun t k => XS.ifNo X0.here hx rfl (hb hby at_10) rfl ((if0 _ _).trans (feq hc10_49).1) k) ?_
    show own_EndsW p.tables e below s _ _ _ (s₁.setTop (mkF m 13 #[.val (.int x0_0), .val (.int x1_0), .val (.int x2_0), .val (.int x3_0), .val (.int x4_0), .val (.int x2_0), .val (.int x3_0), .unset, .unset, .unset, .unset, .unset, .unset, .unset, .unset] []))
    refine own_stepW (fun t k => XS.iloadN X0.here hx rfl (hb hby at_13) rfl k) ?_
    show own_EndsW p.tables e below s _ _ _ (s₁.setTop (mkF m 14 #[.val (.int x0_0), .val (.int x1_0), .val (.int x2_0), .val (.int x3_0), .val (.int x4_0), .val (.int x2_0), .val (.int x3_0), .unset, .unset, .unset, .unset, .unset, .unset, .unset, .unset] [(.int x0_0)]))
    refine own_stepW (fun t k => XS.iloadN X0.here hx rfl (hb hby at_14) rfl k) ?_
    show own_EndsW p.tables e below s _ _ _ (s₁.setTop (mkF m 15 #[.val (.int x0_0), .val (.int x1_0), .val (.int x2_0), .val (.int x3_0), .val (.int x4_0), .val (.int x2_0), .val (.int x3_0), .unset, .unset, .unset, .unset, .unset, .unset, .unset, .unset] [(.int x2_0), (.int x0_0)]))
    refine own_stepW (fun t k => XS.iconst X0.here hx rfl (hb hby at_15) k) ?_
    show own_EndsW p.tables e below s _ _ _ (s₁.setTop (mkF m 16 #[.val (.int x0_0), .val (.int x1_0), .val (.int x2_0), .val (.int x3_0), .val (.int x4_0), .val (.int x2_0), .val (.int x3_0), .unset, .unset, .unset, .unset, .unset, .unset, .unset, .unset] [(.int (3 : Int32)), (.int x2_0), (.int x0_0)]))
    refine own_stepW (fun t k => XS.iand X0.here hx rfl (hb hby at_16) rfl k) ?_
    show own_EndsW p.tables e below s _ _ _ (s₁.setTop (mkF m 17 #[.val (.int x0_0), .val (.int x1_0), .val (.int x2_0), .val (.int x3_0), .val (.int x4_0), .val (.int x2_0), .val (.int x3_0), .unset, .unset, .unset, .unset, .unset, .unset, .unset, .unset] [(.int (x2_0 &&& (3 : Int32))), (.int x0_0)]))
    refine own_stepW (fun t k => XS.iconst X0.here hx rfl (hb hby at_17) k) ?_
    show own_EndsW p.tables e below s _ _ _ (s₁.setTop (mkF m 18 #[.val (.int x0_0), .val (.int x1_0), .val (.int x2_0), .val (.int x3_0), .val (.int x4_0), .val (.int x2_0), .val (.int x3_0), .unset, .unset, .unset, .unset, .unset, .unset, .unset, .unset] [(.int (1 : Int32)), (.int (x2_0 &&& (3 : Int32))), (.int x0_0)]))
    refine own_stepW (fun t k => XS.isub X0.here hx rfl (hb hby at_18) rfl k) ?_
    show own_EndsW p.tables e below s _ _ _ (s₁.setTop (mkF m 19 #[.val (.int x0_0), .val (.int x1_0), .val (.int x2_0), .val (.int x3_0), .val (.int x4_0), .val (.int x2_0), .val (.int x3_0), .unset, .unset, .unset, .unset, .unset, .unset, .unset, .unset] [(.int ((x2_0 &&& (3 : Int32)) - (1 : Int32))), (.int x0_0)]))
    refine own_stepW (fun t k => XS.iadd X0.here hx rfl (hb hby at_19) rfl k) ?_
    show own_EndsW p.tables e below s _ _ _ (s₁.setTop (mkF m 20 #[.val (.int x0_0), .val (.int x1_0), .val (.int x2_0), .val (.int x3_0), .val (.int x4_0), .val (.int x2_0), .val (.int x3_0), .unset, .unset, .unset, .unset, .unset, .unset, .unset, .unset] [(.int (x0_0 + ((x2_0 &&& (3 : Int32)) - (1 : Int32))))]))
    refine own_stepW (fun t k => XS.istore X0.here hx rfl (hb hby at_20) rfl (l' := #[.val (.int x0_0), .val (.int x1_0), .val (.int x2_0), .val (.int x3_0), .val (.int x4_0), .val (.int (x0_0 + ((x2_0 &&& (3 : Int32)) - (1 : Int32)))), .val (.int x3_0), .unset, .unset, .unset, .unset, .unset, .unset, .unset, .unset]) rfl k) ?_
    show own_EndsW p.tables e below s _ _ _ (s₁.setTop (mkF m 22 #[.val (.int x0_0), .val (.int x1_0), .val (.int x2_0), .val (.int x3_0), .val (.int x4_0), .val (.int (x0_0 + ((x2_0 &&& (3 : Int32)) - (1 : Int32)))), .val (.int x3_0), .unset, .unset, .unset, .unset, .unset, .unset, .unset, .unset] []))
    refine own_stepW (fun t k => XS.iload X0.here hx rfl (hb hby at_22) rfl k) ?_
    show own_EndsW p.tables e below s _ _ _ (s₁.setTop (mkF m 24 #[.val (.int x0_0), .val (.int x1_0), .val (.int x2_0), .val (.int x3_0), .val (.int x4_0), .val (.int (x0_0 + ((x2_0 &&& (3 : Int32)) - (1 : Int32)))), .val (.int x3_0), .unset, .unset, .unset, .unset, .unset, .unset, .unset, .unset] [(.int x4_0)]))
    refine own_stepW (fun t k => XS.iconst X0.here hx rfl (hb hby at_24) k) ?_
    show own_EndsW p.tables e below s _ _ _ (s₁.setTop (mkF m 25 #[.val (.int x0_0), .val (.int x1_0), .val (.int x2_0), .val (.int x3_0), .val (.int x4_0), .val (.int (x0_0 + ((x2_0 &&& (3 : Int32)) - (1 : Int32)))), .val (.int x3_0), .unset, .unset, .unset, .unset, .unset, .unset, .unset, .unset] [(.int (2 : Int32)), (.int x4_0)]))
    refine own_stepW (fun t k => XS.iand X0.here hx rfl (hb hby at_25) rfl k) ?_
    show own_EndsW p.tables e below s _ _ _ (s₁.setTop (mkF m 26 #[.val (.int x0_0), .val (.int x1_0), .val (.int x2_0), .val (.int x3_0), .val (.int x4_0), .val (.int (x0_0 + ((x2_0 &&& (3 : Int32)) - (1 : Int32)))), .val (.int x3_0), .unset, .unset, .unset, .unset, .unset, .unset, .unset, .unset] [(.int (x4_0 &&& (2 : Int32)))]))
    by_cases hc26_51 : (x4_0 &&& (2 : Int32)) = (0 : Int32)
    · skip
      refine own_stepW (fun t k => XS.ifYes X0.here hx rfl (pc0 := 26) (pc' := 38) rfl (hb hby at_26) rfl ((if0 _ _).trans (teq hc26_51).1) (by decide) (by decide) k) ?_
      show own_EndsW p.tables e below s _ _ _ (s₁.setTop (mkF m 38 #[.val (.int x0_0), .val (.int x1_0), .val (.int x2_0), .val (.int x3_0), .val (.int x4_0), .val (.int (x0_0 + ((x2_0 &&& (3 : Int32)) - (1 : Int32)))), .val (.int x3_0), .unset, .unset, .unset, .unset, .unset, .unset, .unset, .unset] []))
      exact tail38 (x0_0 + ((x2_0 &&& (3 : Int32)) - (1 : Int32))) x3_0
    · skip
      refine own_stepW (fun t k => XS.ifNo X0.here hx rfl (hb hby at_26) rfl ((if0 _ _).trans (feq hc26_51).1) k) ?_
      show own_EndsW p.tables e below s _ _ _ (s₁.setTop (mkF m 29 #[.val (.int x0_0), .val (.int x1_0), .val (.int x2_0), .val (.int x3_0), .val (.int x4_0), .val (.int (x0_0 + ((x2_0 &&& (3 : Int32)) - (1 : Int32)))), .val (.int x3_0), .unset, .unset, .unset, .unset, .unset, .unset, .unset, .unset] []))
      refine own_stepW (fun t k => XS.iloadN X0.here hx rfl (hb hby at_29) rfl k) ?_
      show own_EndsW p.tables e below s _ _ _ (s₁.setTop (mkF m 30 #[.val (.int x0_0), .val (.int x1_0), .val (.int x2_0), .val (.int x3_0), .val (.int x4_0), .val (.int (x0_0 + ((x2_0 &&& (3 : Int32)) - (1 : Int32)))), .val (.int x3_0), .unset, .unset, .unset, .unset, .unset, .unset, .unset, .unset] [(.int x1_0)]))
      refine own_stepW (fun t k => XS.iloadN X0.here hx rfl (hb hby at_30) rfl k) ?_
      show own_EndsW p.tables e below s _ _ _ (s₁.setTop (mkF m 31 #[.val (.int x0_0), .val (.int x1_0), .val (.int x2_0), .val (.int x3_0), .val (.int x4_0), .val (.int (x0_0 + ((x2_0 &&& (3 : Int32)) - (1 : Int32)))), .val (.int x3_0), .unset, .unset, .unset, .unset, .unset, .unset, .unset, .unset] [(.int x3_0), (.int x1_0)]))
      refine own_stepW (fun t k => XS.iconst X0.here hx rfl (hb hby at_31) k) ?_
      show own_EndsW p.tables e below s _ _ _ (s₁.setTop (mkF m 32 #[.val (.int x0_0), .val (.int x1_0), .val (.int x2_0), .val (.int x3_0), .val (.int x4_0), .val (.int (x0_0 + ((x2_0 &&& (3 : Int32)) - (1 : Int32)))), .val (.int x3_0), .unset, .unset, .unset, .unset, .unset, .unset, .unset, .unset] [(.int (3 : Int32)), (.int x3_0), (.int x1_0)]))
      refine own_stepW (fun t k => XS.iand X0.here hx rfl (hb hby at_32) rfl k) ?_
      show own_EndsW p.tables e below s _ _ _ (s₁.setTop (mkF m 33 #[.val (.int x0_0), .val (.int x1_0), .val (.int x2_0), .val (.int x3_0), .val (.int x4_0), .val (.int (x0_0 + ((x2_0 &&& (3 : Int32)) - (1 : Int32)))), .val (.int x3_0), .unset, .unset, .unset, .unset, .unset, .unset, .unset, .unset] [(.int (x3_0 &&& (3 : Int32))), (.int x1_0)]))
      refine own_stepW (fun t k => XS.iconst X0.here hx rfl (hb hby at_33) k) ?_
      show own_EndsW p.tables e below s _ _ _ (s₁.setTop (mkF m 34 #[.val (.int x0_0), .val (.int x1_0), .val (.int x2_0), .val (.int x3_0), .val (.int x4_0), .val (.int (x0_0 + ((x2_0 &&& (3 : Int32)) - (1 : Int32)))), .val (.int x3_0), .unset, .unset, .unset, .unset, .unset, .unset, .unset, .unset] [(.int (1 : Int32)), (.int (x3_0 &&& (3 : Int32))), (.int x1_0)]))
      refine own_stepW (fun t k => XS.isub X0.here hx rfl (hb hby at_34) rfl k) ?_
      show own_EndsW p.tables e below s _ _ _ (s₁.setTop (mkF m 35 #[.val (.int x0_0), .val (.int x1_0), .val (.int x2_0), .val (.int x3_0), .val (.int x4_0), .val (.int (x0_0 + ((x2_0 &&& (3 : Int32)) - (1 : Int32)))), .val (.int x3_0), .unset, .unset, .unset, .unset, .unset, .unset, .unset, .unset] [(.int ((x3_0 &&& (3 : Int32)) - (1 : Int32))), (.int x1_0)]))
      refine own_stepW (fun t k => XS.iadd X0.here hx rfl (hb hby at_35) rfl k) ?_
      show own_EndsW p.tables e below s _ _ _ (s₁.setTop (mkF m 36 #[.val (.int x0_0), .val (.int x1_0), .val (.int x2_0), .val (.int x3_0), .val (.int x4_0), .val (.int (x0_0 + ((x2_0 &&& (3 : Int32)) - (1 : Int32)))), .val (.int x3_0), .unset, .unset, .unset, .unset, .unset, .unset, .unset, .unset] [(.int (x1_0 + ((x3_0 &&& (3 : Int32)) - (1 : Int32))))]))
      refine own_stepW (fun t k => XS.istore X0.here hx rfl (hb hby at_36) rfl (l' := #[.val (.int x0_0), .val (.int x1_0), .val (.int x2_0), .val (.int x3_0), .val (.int x4_0), .val (.int (x0_0 + ((x2_0 &&& (3 : Int32)) - (1 : Int32)))), .val (.int (x1_0 + ((x3_0 &&& (3 : Int32)) - (1 : Int32)))), .unset, .unset, .unset, .unset, .unset, .unset, .unset, .unset]) rfl k) ?_
      show own_EndsW p.tables e below s _ _ _ (s₁.setTop (mkF m 38 #[.val (.int x0_0), .val (.int x1_0), .val (.int x2_0), .val (.int x3_0), .val (.int x4_0), .val (.int (x0_0 + ((x2_0 &&& (3 : Int32)) - (1 : Int32)))), .val (.int (x1_0 + ((x3_0 &&& (3 : Int32)) - (1 : Int32)))), .unset, .unset, .unset, .unset, .unset, .unset, .unset, .unset] []))
      exact tail38 (x0_0 + ((x2_0 &&& (3 : Int32)) - (1 : Int32))) (x1_0 + ((x3_0 &&& (3 : Int32)) - (1 : Int32)))
set_option maxRecDepth 65536 in
set_option maxHeartbeats 40000000 in
theorem comes_1 {Post : Tables → Env → Array Value → State → Outcome → State → Prop} (hpost : ∀ tb e args s v u, (limb_1_1.after args s (.returned v) u = true ∧ limb_1_2.after args s (.returned v) u = true ∧ True) → ReturnedEndW s (.returned v) u (Jvm.fieldLocs frame_1_writes args s ++ Jvm.arrayLocs frame_1_arrays args s ++ Jvm.staticLocs frame_1_statics s) 16 1152 → Post tb e args s (.returned v) u) :
    ArmFor flags0 classFile x code maxLocals ret World_1 tables_1 room_1 Calls_1 rest_1 Pre_1 Post := by
  intro l hfl _ _ p e ha hc hk s m args below hf hA hF happ hP
  obtain ⟨hcalls, hrest, hpre⟩ := hP
  obtain ⟨-, -, -, hnamed, -, -, -, hat⟩ := (Spec.applies_iff hf).mp happ
  obtain ⟨hg, hn⟩ := and_e (Cond.before_iff.mp (show (Jvm.Cond.and given_1 narrow_1).before args s = true from hpre))
  obtain ⟨hh1a, hh1b⟩ := and_e hg
  obtain ⟨hh2a, hh2b⟩ := and_e hh1b
  obtain ⟨hh3a, hh3b⟩ := and_e hh2b
  obtain ⟨hh4a, hh4b⟩ := and_e hh3b
  obtain ⟨hh5a, hh5b⟩ := and_e hh4b
  obtain ⟨w0, w1, w2, w3, w4, rfl⟩ : ∃ w0 w1 w2 w3 w4 : Value, args = #[w0, w1, w2, w3, w4] := by
    have hs : args.size = 5 := by simpa [Cond.value, given_1] using hh1a
    obtain ⟨L⟩ := args
    match L, hs with
    | [w0, w1, w2, w3, w4], _ => exact ⟨w0, w1, w2, w3, w4, rfl⟩
  have hw := fun d (hd : d ∈ tables_1) => atoms_spec (ws := Jvm.Cond.code x code maxLocals ret :: tables_1) hat d (List.mem_cons_of_mem _ hd)
  have hfit : Fit s := fun {y c} hc i hi => by
    obtain ⟨ha, rfl⟩ := Array.getElem?_eq_some_iff.mp hc
    have q := List.all_eq_true.mp ((Array.all_eq_true_iff_forall_mem.mp hF) _ (Array.getElem_mem ha)) i (List.mem_range.mpr hi)
    simpa [Array.getElem?_eq_getElem hi] using q
  obtain ⟨i0, ei0⟩ := is_v hh2a
  obtain rfl : w0 = (.int i0) := Option.some.inj ei0
  obtain ⟨i1, ei1⟩ := is_v hh3a
  obtain rfl : w1 = (.int i1) := Option.some.inj ei1
  obtain ⟨i2, ei2⟩ := is_v hh4a
  obtain rfl : w2 = (.int i2) := Option.some.inj ei2
  obtain ⟨i3, ei3⟩ := is_v hh5a
  obtain rfl : w3 = (.int i3) := Option.some.inj ei3
  obtain ⟨i4, ei4⟩ := is_v hh5b
  obtain rfl : w4 = (.int i4) := Option.some.inj ei4
  obtain ⟨n, o, h1, h2, h3, _, L, rfl, ⟨rfl, N⟩, hq⟩ := rm0 l s _ hw tables_1 i0 i1 i2 i3 i4 s.heap s.heap.size (Old.start s) p e ha hc hk s m _ below hf ((Spec.applies_iff_loose hf).mp happ).1 ⟨rfl, State.Warmed39.refl s, rfl⟩ trivial
  refine ⟨n, _, h1, h2, h3, hpost _ _ _ _ _ _ ⟨Cond.after_iff.mpr rfl, Cond.after_iff.mpr (eq_i res_at (Term.int_eval (1)) rfl), trivial⟩ ⟨hq.1, hq.2.1, hq.2.2.1, (hq.2.2.2.sift fun y hy => Or.inr (N y hy)).mono (by decide) (by decide)⟩⟩
theorem main_1_1 : Claimed_1_1 := comes_1 fun _ _ _ _ _ _ h hF => ⟨h.1, hF⟩
theorem main_1_2 : Claimed_1_2 := comes_1 fun _ _ _ _ _ _ h hF => ⟨h.2.1, hF⟩
end Jvm.Pilot.@@N@@
namespace Jvm.Pilot.@@N@@
open Jvm Jvm.ClassFile Sem Op Lib Jvm.Free Jvm.Stand Jvm.Pilot.@@N@@.Jvm.D
/-! MADE BY PROGRAM (witnessworld.py) out of the Statement's table words and the real class files: 15 classes; the members and pool entries that the words name. The judged class is class 1, her method 2. -/
namespace start1
open Jvm.ClassFile
def u (s : String) : CpInfo := .utf8 (stringToUtf16 s)
/-- a pool by its gaps: so many unusable entries, then the entry; so many at the end -/
def gap : Nat → List CpInfo → List CpInfo
  | 0, r => r
  | n + 1, r => .unusable :: gap n r
def poolList (es : List (Nat × CpInfo)) (last : Nat) : List CpInfo := es.foldr (fun e r => gap e.1 (e.2 :: r)) (gap last [])
def pool (es : List (Nat × CpInfo)) (last : Nat) : Array CpInfo := ⟨poolList es last⟩
def fileOf (pool : Array CpInfo) (this : Nat) (attrs : Array Attribute := #[]) (ms : Array MethodInfo := #[]) (fl : Nat := 33) (sup : Nat := 0) (ifs : Array Nat := #[]) (fds : Array FieldInfo := #[]) : ClassFile where
  minorVersion := 0
  majorVersion := 65
  constantPool := pool
  accessFlags := fl
  thisClass := this
  superClass := sup
  interfaces := ifs
  fields := fds
  methods := ms
  attributes := attrs
def plain (name : String) (sup : Option ClassId) : Class where
  name := name
  kind := .ordinary
  loader := none
  accessFlags := 33
  super := sup
  interfaces := #[]
  cf := none
  fields := #[]
  methods := #[]
  instanceTypes := #[]
  staticTypes := #[]
  resolved := #[]
  callSites := []
  init := .initialized
  statics := none
  mirror := none

def pool0 : Array CpInfo := pool [(5, u "<init>"), (0, u "()V"), (1, .class_ 10), (1, u "java/lang/Object")] 113

def k0c0 : Code := { maxStack := 0, maxLocals := 1, code := object_method_1_code, exceptionTable := #[], attributes := #[] }
def k0m0 : Method := { name := "<init>", desc := "()V", sig := { parameters := [], returnType := none }, accessFlags := 1, code := some k0c0 }
/-- java/lang/Object -/
def k0 : Class := { plain "java/lang/Object" none with
  accessFlags := 33
  interfaces := #[]
  cf := some (fileOf pool0 8 #[] #[{ accessFlags := 1, nameIndex := 5, descriptorIndex := 6, attributes := #[] }] 33 0 #[] #[])
  fields := #[]
  methods := #[k0m0]
  instanceTypes := #[]
  staticTypes := #[]
  resolved := Array.replicate 124 none
  statics := none }

def pool1 : Array CpInfo := pool [(2, .class_ 4), (1, u "java/lang/Object"), (0, u "<init>"), (0, u "()V"), (0, .long 4294967296), (3, .long 18446744071562067968), (1, .class_ 14), (0, u "com/example/idlect/idlect/core/Location"), (0, .string 16), (0, u "f"), (0, .methodref 13 18), (0, .nameAndType 5 19), (0, u "(Ljava/lang/String;II)V"), (0, .methodref 21 22), (0, .class_ 23), (0, .nameAndType 24 25), (0, u "com/example/idlect/idlect/core/LocationPrecedesPinLaw"), (0, u "key"), (0, u "(II)J"), (0, .methodref 13 27), (0, .nameAndType 28 29), (0, u "precedes"), (0, u "(Lcom/example/idlect/idlect/core/Location;)Z"), (2, u "law"), (0, u "(IIIII)Z")] 3

def k1m0 : Method := { name := "<init>", desc := "()V", sig := { parameters := [], returnType := none }, accessFlags := 1, code := none }
def k1c1 : Code := { maxStack := 6, maxLocals := 2, code := method_2_code, exceptionTable := #[], attributes := #[] }
def k1m1 : Method := { name := "key", desc := "(II)J", sig := { parameters := [.int, .int], returnType := some .long }, accessFlags := 10, code := some k1c1 }
def k1c2 : Code := { maxStack := 5, maxLocals := 15, code := code, exceptionTable := #[], attributes := #[] }
def k1m2 : Method := { name := "law", desc := "(IIIII)Z", sig := { parameters := [.int, .int, .int, .int, .int], returnType := some .boolean }, accessFlags := 9, code := some k1c2 }
/-- com/example/idlect/idlect/core/LocationPrecedesPinLaw -/
def k1 : Class := { plain "com/example/idlect/idlect/core/LocationPrecedesPinLaw" (some 0) with
  accessFlags := 49
  interfaces := #[]
  cf := some (fileOf pool1 21 #[] #[{ accessFlags := 1, nameIndex := 5, descriptorIndex := 6, attributes := #[] }, { accessFlags := 10, nameIndex := 24, descriptorIndex := 25, attributes := #[] }, { accessFlags := 9, nameIndex := 32, descriptorIndex := 33, attributes := #[] }] 49 2 #[] #[])
  fields := #[]
  methods := #[k1m0, k1m1, k1m2]
  instanceTypes := #[]
  staticTypes := #[]
  resolved := Array.replicate 37 none
  statics := none }

def pool2 : Array CpInfo := pool [(1, .methodref 2 3), (0, .class_ 4), (0, .nameAndType 5 6), (0, u "java/lang/Object"), (0, u "<init>"), (0, u "()V"), (0, .class_ 8), (0, u "java/lang/Record")] 13

def k2c0 : Code := { maxStack := 1, maxLocals := 1, code := jdk_30_method_1_code, exceptionTable := #[], attributes := #[] }
def k2m0 : Method := { name := "<init>", desc := "()V", sig := { parameters := [], returnType := none }, accessFlags := 4, code := some k2c0 }
/-- java/lang/Record -/
def k2 : Class := { plain "java/lang/Record" (some 0) with
  accessFlags := 1057
  interfaces := #[]
  cf := some (fileOf pool2 7 #[] #[{ accessFlags := 4, nameIndex := 5, descriptorIndex := 6, attributes := #[] }] 1057 2 #[] #[])
  fields := #[]
  methods := #[k2m0]
  instanceTypes := #[]
  staticTypes := #[]
  resolved := Array.replicate 22 none
  statics := none }

def pool3 : Array CpInfo := pool [(1, .methodref 2 3), (0, .class_ 4), (0, .nameAndType 5 6), (0, u "java/lang/Record"), (0, u "<init>"), (0, u "()V"), (0, .fieldref 8 9), (0, .class_ 10), (0, .nameAndType 11 12), (0, u "com/example/idlect/idlect/core/Location"), (0, u "file"), (0, u "Ljava/lang/String;"), (0, .fieldref 8 14), (0, .nameAndType 15 16), (0, u "line"), (0, u "I"), (0, .fieldref 8 18), (0, .nameAndType 19 16), (0, u "column"), (16, u "(Ljava/lang/String;II)V"), (5, u "precedes"), (0, u "(Lcom/example/idlect/idlect/core/Location;)Z")] 33

def k3c0 : Code := { maxStack := 2, maxLocals := 4, code := prog_93_method_1_code, exceptionTable := #[], attributes := #[] }
def k3m0 : Method := { name := "<init>", desc := "(Ljava/lang/String;II)V", sig := { parameters := [(.object "java/lang/String"), .int, .int], returnType := none }, accessFlags := 1, code := some k3c0 }
def k3c1 : Code := { maxStack := 2, maxLocals := 2, code := prog_93_method_3_code, exceptionTable := #[], attributes := #[] }
def k3m1 : Method := { name := "precedes", desc := "(Lcom/example/idlect/idlect/core/Location;)Z", sig := { parameters := [(.object "com/example/idlect/idlect/core/Location")], returnType := some .boolean }, accessFlags := 1, code := some k3c1 }
/-- com/example/idlect/idlect/core/Location -/
def k3 : Class := { plain "com/example/idlect/idlect/core/Location" (some 2) with
  accessFlags := 49
  interfaces := #[]
  cf := some (fileOf pool3 8 #[] #[{ accessFlags := 1, nameIndex := 5, descriptorIndex := 36, attributes := #[] }, { accessFlags := 1, nameIndex := 42, descriptorIndex := 43, attributes := #[] }] 49 2 #[] #[{ accessFlags := 18, nameIndex := 11, descriptorIndex := 12, attributes := #[] }, { accessFlags := 18, nameIndex := 15, descriptorIndex := 16, attributes := #[] }, { accessFlags := 18, nameIndex := 19, descriptorIndex := 16, attributes := #[] }])
  fields := #[{ name := "file", type := (.object "java/lang/String"), accessFlags := 18, slot := 0, constantValue := 0 }, { name := "line", type := .int, accessFlags := 18, slot := 1, constantValue := 0 }, { name := "column", type := .int, accessFlags := 18, slot := 2, constantValue := 0 }]
  methods := #[k3m0, k3m1]
  instanceTypes := #[(.object "java/lang/String"), .int, .int]
  staticTypes := #[]
  resolved := Array.replicate 77 none
  statics := none }

def pool4 : Array CpInfo := pool [(1, .class_ 2), (0, u "java/io/Serializable"), (0, .class_ 4), (0, u "java/lang/Object")] 2

/-- java/io/Serializable -/
def k4 : Class := { plain "java/io/Serializable" (some 0) with
  accessFlags := 1537
  interfaces := #[]
  cf := some (fileOf pool4 1 #[] #[] 1537 3 #[] #[])
  fields := #[]
  methods := #[]
  instanceTypes := #[]
  staticTypes := #[]
  resolved := Array.replicate 7 none
  statics := none }

def pool5 : Array CpInfo := pool [(1, .class_ 2), (0, u "java/lang/Comparable"), (0, .class_ 4), (0, u "java/lang/Object")] 7

/-- java/lang/Comparable -/
def k5 : Class := { plain "java/lang/Comparable" (some 0) with
  accessFlags := 1537
  interfaces := #[]
  cf := some (fileOf pool5 1 #[] #[] 1537 3 #[] #[])
  fields := #[]
  methods := #[]
  instanceTypes := #[]
  staticTypes := #[]
  resolved := Array.replicate 12 none
  statics := none }

def pool6 : Array CpInfo := pool [(2, .class_ 4), (1, u "java/lang/CharSequence"), (42, .class_ 48), (0, u "java/lang/CharSequence$1CodePointIterator"), (10, .class_ 60), (0, u "java/lang/CharSequence$1CharIterator"), (5, .class_ 67), (0, u "java/lang/Object")] 63

/-- java/lang/CharSequence -/
def k6 : Class := { plain "java/lang/CharSequence" (some 0) with
  accessFlags := 1537
  interfaces := #[]
  cf := some (fileOf pool6 2 #[.nestMembers #[47, 59]] #[] 1537 66 #[] #[])
  fields := #[]
  methods := #[]
  instanceTypes := #[]
  staticTypes := #[]
  resolved := Array.replicate 131 none
  statics := none }

def pool7 : Array CpInfo := pool [(1, .class_ 2), (0, u "java/lang/constant/Constable"), (0, .class_ 4), (0, u "java/lang/Object")] 6

/-- java/lang/constant/Constable -/
def k7 : Class := { plain "java/lang/constant/Constable" (some 0) with
  accessFlags := 1537
  interfaces := #[]
  cf := some (fileOf pool7 1 #[] #[] 1537 3 #[] #[])
  fields := #[]
  methods := #[]
  instanceTypes := #[]
  staticTypes := #[]
  resolved := Array.replicate 11 none
  statics := none }

def pool8 : Array CpInfo := pool [(1, .class_ 2), (0, u "java/lang/constant/ConstantDesc"), (0, .class_ 4), (0, u "java/lang/Object")] 32

/-- java/lang/constant/ConstantDesc -/
def k8 : Class := { plain "java/lang/constant/ConstantDesc" (some 0) with
  accessFlags := 1537
  interfaces := #[]
  cf := some (fileOf pool8 1 #[] #[] 1537 3 #[] #[])
  fields := #[]
  methods := #[]
  instanceTypes := #[]
  staticTypes := #[]
  resolved := Array.replicate 37 none
  statics := none }

def pool9 : Array CpInfo := pool [(2, .class_ 4), (1, u "java/lang/Object"), (0, u "<init>"), (0, u "()V"), (3, .class_ 12), (1, u "java/lang/String"), (0, u "value"), (0, u "[B"), (2, u "coder"), (0, u "B"), (2, u "hash"), (0, u "I"), (2, u "hashIsZero"), (0, u "Z"), (13, u "COMPACT_STRINGS"), (534, .class_ 576), (0, u "java/lang/CharSequence"), (22, u "CASE_INSENSITIVE_ORDER"), (0, u "Ljava/util/Comparator;"), (500, u "serialPersistentFields"), (0, u "[Ljava/io/ObjectStreamField;"), (0, .class_ 1104), (0, u "java/lang/String$CaseInsensitiveComparator"), (1, .class_ 1107), (0, u "java/io/Serializable"), (0, .class_ 1109), (0, u "java/lang/Comparable"), (0, .class_ 1111), (0, u "java/lang/constant/Constable"), (0, .class_ 1113), (0, u "java/lang/constant/ConstantDesc"), (2, u "serialVersionUID"), (0, u "J"), (3, u "REPL"), (0, u "C"), (2, u "LATIN1"), (1, u "UTF16")] 323

def k9m0 : Method := { name := "<init>", desc := "()V", sig := { parameters := [], returnType := none }, accessFlags := 1, code := none }
/-- java/lang/String -/
def k9 : Class := { plain "java/lang/String" (some 0) with
  accessFlags := 49
  interfaces := #[4, 5, 6, 7, 8]
  cf := some (fileOf pool9 10 #[.nestMembers #[1103]] #[{ accessFlags := 1, nameIndex := 5, descriptorIndex := 6, attributes := #[] }] 49 2 #[1106, 1108, 575, 1110, 1112] #[{ accessFlags := 18, nameIndex := 13, descriptorIndex := 14, attributes := #[] }, { accessFlags := 18, nameIndex := 17, descriptorIndex := 18, attributes := #[] }, { accessFlags := 2, nameIndex := 21, descriptorIndex := 22, attributes := #[] }, { accessFlags := 2, nameIndex := 25, descriptorIndex := 26, attributes := #[] }, { accessFlags := 26, nameIndex := 1116, descriptorIndex := 1117, attributes := #[] }, { accessFlags := 24, nameIndex := 40, descriptorIndex := 26, attributes := #[] }, { accessFlags := 26, nameIndex := 1101, descriptorIndex := 1102, attributes := #[] }, { accessFlags := 26, nameIndex := 1121, descriptorIndex := 1122, attributes := #[] }, { accessFlags := 25, nameIndex := 599, descriptorIndex := 600, attributes := #[] }, { accessFlags := 24, nameIndex := 1125, descriptorIndex := 18, attributes := #[] }, { accessFlags := 24, nameIndex := 1127, descriptorIndex := 18, attributes := #[] }])
  fields := #[{ name := "value", type := (.array .byte), accessFlags := 18, slot := 0, constantValue := 0 }, { name := "coder", type := .byte, accessFlags := 18, slot := 1, constantValue := 0 }, { name := "hash", type := .int, accessFlags := 2, slot := 2, constantValue := 0 }, { name := "hashIsZero", type := .boolean, accessFlags := 2, slot := 3, constantValue := 0 }, { name := "serialVersionUID", type := .long, accessFlags := 26, slot := 0, constantValue := 0 }, { name := "COMPACT_STRINGS", type := .boolean, accessFlags := 24, slot := 1, constantValue := 0 }, { name := "serialPersistentFields", type := (.array (.object "java/io/ObjectStreamField")), accessFlags := 26, slot := 2, constantValue := 0 }, { name := "REPL", type := .char, accessFlags := 26, slot := 3, constantValue := 0 }, { name := "CASE_INSENSITIVE_ORDER", type := (.object "java/util/Comparator"), accessFlags := 25, slot := 4, constantValue := 0 }, { name := "LATIN1", type := .byte, accessFlags := 24, slot := 5, constantValue := 0 }, { name := "UTF16", type := .byte, accessFlags := 24, slot := 6, constantValue := 0 }]
  methods := #[k9m0]
  instanceTypes := #[(.array .byte), .byte, .int, .boolean]
  staticTypes := #[.long, .boolean, (.array (.object "java/io/ObjectStreamField")), .char, (.object "java/util/Comparator"), .byte, .byte]
  resolved := Array.replicate 1451 none
  statics := none }

def pool10 : Array CpInfo := pool [(1, u "java/lang/Cloneable"), (0, .class_ 1), (0, u "java/lang/Object"), (0, .class_ 3)] 3

/-- java/lang/Cloneable -/
def k10 : Class := { plain "java/lang/Cloneable" (some 0) with
  accessFlags := 1537
  interfaces := #[]
  cf := some (fileOf pool10 2 #[] #[] 1537 4 #[] #[])
  fields := #[]
  methods := #[]
  instanceTypes := #[]
  staticTypes := #[]
  resolved := Array.replicate 8 none
  statics := none }

/-- the primitive byte -/
def k11 : Class := { plain "byte" none with kind := .primitive 'B', accessFlags := 0x411 }
/-- [B -/
def k12 : Class := { plain "[B" (some 0) with kind := .array 11 .byte, interfaces := #[10, 4], accessFlags := 1041 }

/-- the primitive int -/
def k13 : Class := { plain "int" none with kind := .primitive 'I', accessFlags := 0x411 }
/-- [I -/
def k14 : Class := { plain "[I" (some 0) with kind := .array 13 .int, interfaces := #[10, 4], accessFlags := 1041 }

def heap : Heap := #[]
def classes : Array Class := #[k0, k1, k2, k3, k4, k5, k6, k7, k8, k9, k10, k11, k12, k13, k14]
def interned : List (Array UInt16 × Addr) := []
def slotsUsed : Nat := 0
def theMethod : MethodId := ⟨1, 2⟩
def args0 : Array Value := #[.int 5, .int 5, .int 5, .int 5, .int 5]
def aboutOver (below : List Frame) : State where
  vm := { classes := classes, interned := interned.toArray }
  heap := heap
  slotsUsed := slotsUsed
  threads := #[{ frames := .invoking theMethod args0 :: below }]
def below0 : List Frame := [.native { method := ⟨0, 0⟩, args := #[] }]
def about1 : State := aboutOver below0
def p0 : Program := .bare "" "" ""
def e0 : Env := launch0.env 0 0 0
theorem w_frames : about1.frames = Frame.invoking theMethod args0 :: below0 := rfl
set_option maxRecDepth 65536 in
theorem w_args : argsFit about1.vm theMethod args0 = true := by decide +kernel
set_option maxRecDepth 65536 in
theorem w_heap : heapFits about1 = true := by decide +kernel
set_option maxRecDepth 65536 in
theorem w_runnable : about1.curStatus? = some .runnable := by decide +kernel
set_option maxRecDepth 65536 in
theorem w_alone : about1.alone = true := by decide +kernel
set_option maxRecDepth 65536 in
theorem w_named : about1.methodNamed? x = some theMethod := by decide +kernel
set_option maxRecDepth 65536 in
theorem w_hears : about1.hears theMethod below0 = true := by decide +kernel
set_option maxRecDepth 65536 in
theorem w_ripe : about1.ripe theMethod args0 below0 = true := by decide +kernel
theorem w_running : about1.status = .running := rfl
set_option maxRecDepth 65536 in
theorem w_room : about1.hasRoom e0.platform room_1 = true :=
  launch0.hasRoom_least _ room_1 (by decide +kernel) (by decide +kernel) (by decide +kernel) (by decide +kernel) (by decide +kernel) (by decide +kernel)
theorem allAtoms_all (ts : List Jvm.Cond) (a : Array Jvm.Value) (st : Jvm.State) : (allAtoms ts).before a st = ts.all (fun c => c.before a st) := by
  induction ts with
  | nil => rfl
  | cons c t ih =>
    show (Jvm.Cond.and c (allAtoms t)).before a st = _
    rw [Jvm.Cond.before_and, ih, List.all_cons]
def words1 : List Jvm.Cond := Jvm.Cond.code x code maxLocals ret :: tables_1
/-- a 'code' word, met by the world's own term for the bytes: nothing is compared byte by byte -/
theorem code_word {y : MethodName} {bytes : ByteArray} {mx : Nat} {rt : Option FieldType} {a : Array Value} {s : State} {m : MethodId} {meth : Method} {c : Code} (h1 : s.methodNamed? y = some m) (h2 : s.vm.method? m = some meth) (h3 : meth.code = some c) (h4 : c.code = bytes)
    (h5 : (c.maxLocals == mx && c.exceptionTable.isEmpty && decide (c.maxStack ≤ mostOperands) && decide (meth.sig.returnType = rt) && !meth.locks && decide (parseMethodDescriptor y.desc = some meth.sig)) = true) : (Jvm.Cond.code y bytes mx rt).before a s = true := by
  simp only [Bool.and_eq_true, beq_iff_eq, Bool.not_eq_true', decide_eq_true_eq] at h5
  obtain ⟨⟨⟨⟨⟨g1, g2⟩, g3⟩, g4⟩, g5⟩, g6⟩ := h5
  simp [Cond.before, Cond.holds, Cond.value, h1, h2, h3, h4, g1, g2, g3, g4, g5, g6]
def isCode : Jvm.Cond → Bool
  | .code _ _ _ _ => true
  | _ => false
theorem all_split {L : List Jvm.Cond} {P : Jvm.Cond → Bool} (h1 : L.all (fun c => isCode c || P c) = true) (h2 : ∀ c ∈ L.filter isCode, P c = true) : L.all P = true := by
  refine List.all_eq_true.mpr fun c hc => ?_
  have h := List.all_eq_true.mp h1 c hc
  rcases Bool.eq_false_or_eq_true (isCode c) with hi | hi
  · exact h2 c (List.mem_filter.mpr ⟨hc, hi⟩)
  · simpa [hi] using h
set_option maxRecDepth 65536 in
theorem w_c0 : (Jvm.Cond.code x code maxLocals ret).before args0 about1 = true := code_word (m := ⟨1, 2⟩) (meth := k1m2) (c := k1c2) (by decide +kernel) rfl rfl rfl (by decide +kernel)
set_option maxRecDepth 65536 in
theorem w_c1 : (Jvm.Cond.code ({ cls := "com/example/idlect/idlect/core/Location", name := "<init>", desc := "(Ljava/lang/String;II)V" } : Jvm.MethodName) prog_93_method_1_code (4 : Nat) (Option.none : Option Jvm.ClassFile.FieldType)).before args0 about1 = true := code_word (m := ⟨3, 0⟩) (meth := k3m0) (c := k3c0) (by decide +kernel) rfl rfl rfl (by decide +kernel)
set_option maxRecDepth 65536 in
theorem w_c2 : (Jvm.Cond.code ({ cls := "java/lang/Record", name := "<init>", desc := "()V" } : Jvm.MethodName) jdk_30_method_1_code (1 : Nat) (Option.none : Option Jvm.ClassFile.FieldType)).before args0 about1 = true := code_word (m := ⟨2, 0⟩) (meth := k2m0) (c := k2c0) (by decide +kernel) rfl rfl rfl (by decide +kernel)
set_option maxRecDepth 65536 in
theorem w_c3 : (Jvm.Cond.code ({ cls := "java/lang/Object", name := "<init>", desc := "()V" } : Jvm.MethodName) object_method_1_code (1 : Nat) (Option.none : Option Jvm.ClassFile.FieldType)).before args0 about1 = true := code_word (m := ⟨0, 0⟩) (meth := k0m0) (c := k0c0) (by decide +kernel) rfl rfl rfl (by decide +kernel)
set_option maxRecDepth 65536 in
theorem w_c4 : (Jvm.Cond.code ({ cls := "com/example/idlect/idlect/core/LocationPrecedesPinLaw", name := "key", desc := "(II)J" } : Jvm.MethodName) method_2_code (2 : Nat) (Option.some Jvm.ClassFile.FieldType.long)).before args0 about1 = true := code_word (m := ⟨1, 1⟩) (meth := k1m1) (c := k1c1) (by decide +kernel) rfl rfl rfl (by decide +kernel)
set_option maxRecDepth 65536 in
theorem w_c5 : (Jvm.Cond.code ({ cls := "com/example/idlect/idlect/core/Location", name := "precedes", desc := "(Lcom/example/idlect/idlect/core/Location;)Z" } : Jvm.MethodName) prog_93_method_3_code (2 : Nat) (Option.some Jvm.ClassFile.FieldType.boolean)).before args0 about1 = true := code_word (m := ⟨3, 1⟩) (meth := k3m1) (c := k3c1) (by decide +kernel) rfl rfl rfl (by decide +kernel)
def codes1 : List Jvm.Cond := [Jvm.Cond.code x code maxLocals ret, Jvm.Cond.code ({ cls := "com/example/idlect/idlect/core/Location", name := "<init>", desc := "(Ljava/lang/String;II)V" } : Jvm.MethodName) prog_93_method_1_code (4 : Nat) (Option.none : Option Jvm.ClassFile.FieldType), Jvm.Cond.code ({ cls := "java/lang/Record", name := "<init>", desc := "()V" } : Jvm.MethodName) jdk_30_method_1_code (1 : Nat) (Option.none : Option Jvm.ClassFile.FieldType), Jvm.Cond.code ({ cls := "java/lang/Object", name := "<init>", desc := "()V" } : Jvm.MethodName) object_method_1_code (1 : Nat) (Option.none : Option Jvm.ClassFile.FieldType), Jvm.Cond.code ({ cls := "com/example/idlect/idlect/core/LocationPrecedesPinLaw", name := "key", desc := "(II)J" } : Jvm.MethodName) method_2_code (2 : Nat) (Option.some Jvm.ClassFile.FieldType.long), Jvm.Cond.code ({ cls := "com/example/idlect/idlect/core/Location", name := "precedes", desc := "(Lcom/example/idlect/idlect/core/Location;)Z" } : Jvm.MethodName) prog_93_method_3_code (2 : Nat) (Option.some Jvm.ClassFile.FieldType.boolean)]
set_option maxRecDepth 65536 in
theorem codes_eq : words1.filter isCode = codes1 := rfl
theorem w_codes : ∀ c ∈ words1.filter isCode, c.before args0 about1 = true := by
  rw [codes_eq]
  intro c hc
  simp only [codes1, List.mem_cons, List.not_mem_nil, or_false] at hc
  rcases hc with rfl | rfl | rfl | rfl | rfl | rfl
  · exact w_c0
  · exact w_c1
  · exact w_c2
  · exact w_c3
  · exact w_c4
  · exact w_c5
set_option maxRecDepth 65536 in
theorem w_t1 : (words1.take 24).all (fun c => isCode c || c.before args0 about1) = true := by decide +kernel
set_option maxRecDepth 65536 in
theorem w_t2 : (words1.drop 24).all (fun c => isCode c || c.before args0 about1) = true := by decide +kernel
theorem w_tables : (allAtoms (Jvm.Cond.code x code maxLocals ret :: tables_1)).before args0 about1 = true := by
  rw [allAtoms_all]
  show words1.all (fun c => c.before args0 about1) = true
  refine all_split ?_ w_codes
  rw [← List.take_append_drop 24 words1, List.all_append, w_t1, w_t2]
  rfl
set_option maxRecDepth 65536 in
theorem w_case : (Jvm.Cond.and given_1 narrow_1).before args0 about1 = true := by decide +kernel
theorem w_applies : (headSpec (Jvm.Cond.code x code maxLocals ret :: tables_1) room_1).applies x e0.platform about1 = true :=
  (Spec.applies_iff w_frames).mpr ⟨w_running, w_runnable, w_alone, w_named, w_hears, w_ripe, w_room, w_tables⟩
theorem atStart : AtStart classFile x code maxLocals ret World_1 tables_1 room_1 Calls_1 rest_1 Pre_1 launch0 p0 e0 about1 theMethod args0 below0 :=
  ⟨lists_1, trivial, launch0.admits_env _ _ _, launch0.least_env, fairChoices_fair.cas, fairChoices_fair.clock, w_frames, w_args, w_heap, w_applies, trivial, trivial, w_case⟩
end start1
theorem witness_1 : WitnessClaimed_1 := ⟨start1.p0, start1.e0, start1.about1, start1.theMethod, start1.args0, start1.below0, start1.atStart⟩
end Jvm.Pilot.@@N@@
